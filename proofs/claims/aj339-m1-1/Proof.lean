import JvmDerived
import JvmDerived.Pilot.@@N@@Statement
import JvmDerived.Pilot.@@N@@Code
set_option linter.unusedVariables false
set_option linter.unusedSimpArgs false
@@BLOCK:NumsL.lean.txt@@
namespace Jvm.RoadKit
open Sem ClassFile Op Lib Jvm.Stand Jvm.Free Jvm.LawKit
section New
variable {p : Program} {l : Launch} {e : Env} {R : Room} {s : State} {m : MethodId} {args : Array Value} {below : List Frame} {meth : Method} {c : Code} {T : State} {locs : List Loc} {cells slots : Nat}
theorem retI (X : Stand p l e R s m args below meth c T locs cells slots) (hx : p.tables.exec = Jvm.exec) {pc : Nat} {Ls : Array Slot} {z : Int32} {rest : List Value} (hret : meth.sig.returnType = some .int) (hd : decode c.code pc = .ok (.ireturn, 1)) {fs : List Frame}
    (hl : ∀ (f : JFrame) (acts : List Action), f.method = m → f.locked = none → f.entered = [] → (doReturn e (T.setTop f) acts (some (.int z))).1 = T.setFrames fs) : Steps p.tables e below (T.setTop (mkF m pc Ls (.int z :: rest))) (T.setFrames fs) := by
  have hm' : T.vm.method? m = some meth := X.method'
  have hn : narrow .int (.int z) = .int z := rfl
  show Steps p.tables e below (T.setTop { method := m, pc := pc, locals := Ls, stack := _ :: rest, locked := none }) _
  jvm_step X.here [X.here.top, hx, hd, hm', hret, hn]
  first | (intro acts; rw [hl _ acts rfl rfl rfl]) | rw [hl _ _ rfl rfl rfl]
  exact Steps.refl _
end New
end Jvm.RoadKit
namespace Jvm.Pilot.@@N@@
open Jvm Jvm.ClassFile Sem Op Lib Jvm.Free Jvm.Stand Jvm.LawKit Jvm.RoadKit Bundle Jvm.Pilot.@@N@@.Jvm.D

/-- what is left to show at a point of a walk -/
def own_Go (tb : Tables) (e : Env) (below : List Frame) (F : State → Outcome → Prop) (A : State) : Prop := ∃ t o, Steps tb e below A t ∧ F t o
theorem own_st {tb : Tables} {e : Env} {below : List Frame} {F : State → Outcome → Prop} {A B : State} (st : ∀ t, Steps tb e below A t → Steps tb e below B t) (h : own_Go tb e below F A) : own_Go tb e below F B := by
  obtain ⟨t, o, a, b⟩ := h
  exact ⟨t, o, st t a, b⟩
theorem own_end {tb : Tables} {e : Env} {below : List Frame} {F G : State → Outcome → Prop} {A t : State} {o : Outcome} (hF : F = G) (st : Steps tb e below A t) (h : G t o) : own_Go tb e below F A := by
  subst hF
  exact ⟨t, o, st, h⟩
/-- a body's contract: called with as' over the heap h0 it returns, and leaves what Q says -/
abbrev own_Met (l : Launch) (Z : State) (y : MethodName) (bytes : ByteArray) (ml : Nat) (rt : Option FieldType) (ws : List Jvm.Cond) (rm : Room) (as' : Array Value) (h0 : Heap) (Q : Option Value → Heap → List Loc → Prop) : Prop :=
  MetFree l y (head1 (Jvm.Cond.code y bytes ml rt :: ws) rm) (fun a U => a = as' ∧ Z.Warmed39 U.vm ∧ U.heap = h0) (fun _ _ _ _ _ => True) (fun _ U o U' => ∃ v L, o = .returned v ∧ Q v U'.heap L ∧ FrameEnd U o U' L rm.cells rm.slots)
/-- what a callee leaves that returns r and writes nothing -/
def own_Qp (r : Value) (h0 : Heap) (n0 : Nat) (v : Option Value) (h : Heap) (L : List Loc) : Prop := v = some r ∧ Fr n0 L ∧ h = h0
theorem own_ext_refl {h : Heap} : Ext h h := ⟨Nat.le_refl _, fun _ _ q => q⟩
theorem own_ext_ext {h0 h h' : Heap} (K : Ext h0 h) (E : Ext h h') : Ext h0 h' := ⟨Nat.le_trans K.1 E.1, fun x c q => E.2 x c (K.2 x c q)⟩
theorem own_ext_keep {h0 h h' : Heap} {ws : List Addr} (K : Ext h0 h) (E : Keep h h' ws) (q : ∀ x ∈ ws, h0.size ≤ x) : Ext h0 h' :=
  ⟨Nat.le_trans K.1 E.1, fun x c r => E.2.1 x c (K.2 x c r) fun z => absurd (Array.getElem?_eq_some_iff.mp r).1 (Nat.not_lt.mpr (q x z))⟩
theorem own_ext_wr {h0 h h' : Heap} {a : Addr} {sl : Nat} {v : Value} (K : Ext h0 h) (W : Wr h h' a sl v) (q : h0.size ≤ a) : Ext h0 h' := own_ext_keep K (Keep.of_wr W) (allS q all0)
theorem own_fld {args : Array Value} {s : State} {t : Term} {x : Addr} {C n d : String} {k : Int32} (ev : t.eval args s none [] s = some (.ref x)) (h : (Jvm.Cond.eq (.field t C n d) (.int k)).value args s none s [] = some true) : Fld s s.heap x C n d (.int k) := by
  obtain ⟨p, q, h1, h2, -, h4⟩ := cmp_v (Or.inl h)
  cases (show some (Value.int k) = some q from h2)
  obtain ⟨z, rfl⟩ := h4
  have e : z = k := by simpa [Jvm.Cond.value, h1, h2] using h
  subst e
  rw [fld_at ev] at h1
  exact Fld.start h1

def own_Q0 (h0 : Heap) (n0 : Nat) (v : Option Value) (h : Heap) (L : List Loc) : Prop := v = some (.int (1 : Int32)) ∧ Fr n0 L
/-- the table at t: its pages' array pg (one page: pv), its ends' array en (three ints: vs), its size -/
def own_T (Z : State) (h : Heap) (t pg en : Addr) (kP kE : ClassId) (sz : Int32) (vs : List Value) (pv : Value) : Prop :=
  Exa Z h t "com/example/libmerit/libmerit/index/DocnoTable" ∧ Fld Z h t "com/example/libmerit/libmerit/index/DocnoTable" "pages" "[[B" (.ref pg) ∧ Fld Z h t "com/example/libmerit/libmerit/index/DocnoTable" "ends" "[I" (.ref en) ∧ Fld Z h t "com/example/libmerit/libmerit/index/DocnoTable" "size" "I" (.int sz) ∧ Arv Z h pg kP (.array .byte) (1 : Int32) [pv] .null ∧ Arv Z h en kE .int (3 : Int32) vs (.int (0 : Int32)) ∧ OvrA Z kP .byte "[B"
/-- a page: 65536 bytes, of which the first ones are told -/
def own_Pg (Z : State) (h : Heap) (q : Addr) : Prop := ∃ (k : ClassId) (vd : List Value), 128 ≤ vd.length ∧ Arv Z h q k .byte (65536 : Int32) vd (.int (0 : Int32))
/-- the length of a short array -/
def own_S (x : Int32) : Prop := 0 ≤ x.toInt ∧ x.toInt ≤ 31
def own_B (x : Int32) : Prop := 0 ≤ x.toInt ∧ x.toInt ≤ 62
theorem own_mask (p : Int32) : own_S (p &&& (31 : Int32)) := by
  have e : (p &&& (31 : Int32)).toInt = p.toInt % 2 ^ 5 := Jvm.Kit.i32_mask p 31 (k := 5) (by decide) (by decide)
  unfold own_S
  rw [e]
  omega
theorem own_nn {x : Int32} (h : own_S x) : ¬ x < 0 := by
  rw [Int32.lt_iff_toInt_lt]
  have e : (0 : Int32).toInt = 0 := rfl
  have := h.1
  omega
theorem own_nat {x : Int32} (h : 0 ≤ x.toInt) : (x.toNatClampNeg : Int) = x.toInt := by
  simp only [Int32.toNatClampNeg]
  omega
theorem own_le {x : Int32} (h : own_S x) : x.toNatClampNeg ≤ 31 := by
  have := own_nat h.1
  have := h.2
  omega
theorem own_four (p : Int32) : (p &&& (3 : Int32)) = 0 ∨ (p &&& (3 : Int32)) = 1 ∨ (p &&& (3 : Int32)) = 2 ∨ (p &&& (3 : Int32)) = 3 := by
  have e : (p &&& (3 : Int32)).toInt = p.toInt % 2 ^ 2 := Jvm.Kit.i32_mask p 3 (k := 2) (by decide) (by decide)
  rw [← Int32.toInt_inj, ← Int32.toInt_inj, ← Int32.toInt_inj, ← Int32.toInt_inj, e]
  show _ = (0 : Int) ∨ _ = (1 : Int) ∨ _ = (2 : Int) ∨ _ = (3 : Int)
  omega
theorem own_B0 : own_B 0 := ⟨by decide, by decide⟩
theorem own_B1 {x : Int32} (h : own_S x) : own_B x := ⟨h.1, by have := h.2; omega⟩
theorem own_add2 {x y : Int32} (h : own_S x) (h' : own_S y) : (x + y).toInt = x.toInt + y.toInt :=
  Jvm.Kit.i32_add (by have := h.1; have := h'.1; omega) (by have := h.2; have := h'.2; omega)
theorem own_B2 {x y : Int32} (h : own_S x) (h' : own_S y) : own_B (x + y) := by
  have e := own_add2 h h'
  have := h.1; have := h.2; have := h'.1; have := h'.2
  exact ⟨by omega, by omega⟩
theorem own_low {x : Int32} (h : own_B x) : (x &&& (65535 : Int32)) = x := by
  have e : (x &&& (65535 : Int32)).toInt = x.toInt % 2 ^ 16 := Jvm.Kit.i32_mask x 65535 (k := 16) (by decide) (by decide)
  rw [← Int32.toInt_inj, e]
  have := h.1; have := h.2
  omega
theorem own_page {x : Int32} (h : own_B x) : ((x.toUInt32 >>> ((16 : Int32) &&& 31).toUInt32).toInt32) = (0 : Int32) := by
  have hx : x = Int32.ofNat x.toInt.toNat := by
    rw [← Int32.toInt_inj, Int32.toInt_ofNat_of_lt (by have := h.1; have := h.2; omega)]
    have := h.1
    omega
  have hb : x.toInt.toNat < 63 := by have := h.2; omega
  have all : ∀ n : Nat, n < 63 → (((Int32.ofNat n).toUInt32 >>> ((16 : Int32) &&& 31).toUInt32).toInt32) = (0 : Int32) := by decide
  rw [hx]
  exact all _ hb
def own_min (a b : Int32) : Int32 := if b < a then b else a
theorem own_cnt {x z : Int32} (h : own_B x) (h' : own_S z) : own_min z ((65536 : Int32) - x) = z := by
  have e : ((65536 : Int32) - x).toInt = 65536 - x.toInt := by
    have e1 : (65536 : Int32).toInt = 65536 := rfl
    rw [Int32.toInt_sub, e1, Int.bmod_def]
    have := h.1; have := h.2
    omega
  unfold own_min
  rw [if_neg]
  rw [Int32.lt_iff_toInt_lt, e]
  have := h.2; have := h'.2
  omega
theorem own_room {x z : Int32} (h : own_B x) (h' : own_S z) : x.toNatClampNeg + z.toNatClampNeg ≤ 93 := by
  have := own_nat h.1
  have := own_nat h'.1
  have := h.2; have := h'.2
  omega
theorem own_Bnn {x : Int32} (h : own_B x) : ¬ x < 0 := by
  rw [Int32.lt_iff_toInt_lt]
  have e : (0 : Int32).toInt = 0 := rfl
  have := h.1
  omega
theorem own_T_keep {Z : State} {h h' : Heap} {t pg en : Addr} {kP kE : ClassId} {sz : Int32} {vs : List Value} {pv : Value} {ws : List Addr} (P : own_T Z h t pg en kP kE sz vs pv) (K : Keep h h' ws) (q1 : t ∉ ws) (q2 : pg ∉ ws) (q3 : en ∉ ws) : own_T Z h' t pg en kP kE sz vs pv :=
  ⟨P.1.keep K, P.2.1.keep K q1, P.2.2.1.keep K q1, P.2.2.2.1.keep K q1, P.2.2.2.2.1.keep K q2, P.2.2.2.2.2.1.keep K q3, P.2.2.2.2.2.2⟩
theorem own_Pg_keep {Z : State} {h h' : Heap} {q : Addr} {ws : List Addr} (G : own_Pg Z h q) (K : Keep h h' ws) (n : q ∉ ws) : own_Pg Z h' q := by
  obtain ⟨k, vd, hl, V⟩ := G
  exact ⟨k, vd, hl, V.keep K n⟩
def own_Qd (Z : State) (t : Addr) (h0 : Heap) (n0 : Nat) (v : Option Value) (h : Heap) (L : List Loc) : Prop :=
  ∃ (pg en : Addr) (kP kE : ClassId), v = none ∧ Fr n0 L ∧ Keep h0 h [t] ∧ h0.size ≤ pg ∧ h0.size ≤ en ∧ pg ≠ en ∧ own_T Z h t pg en kP kE 0 [.int 0, .int 0, .int 0] .null
theorem d_own_init_0 : decode prog_19_method_1_code 0 = .ok (.aload_n 0, 1) := by decide +kernel
theorem d_own_init_1 : decode prog_19_method_1_code 1 = .ok (.invokespecial 3, 3) := by decide +kernel
theorem d_own_init_4 : decode prog_19_method_1_code 4 = .ok (.aload_n 0, 1) := by decide +kernel
theorem d_own_init_5 : decode prog_19_method_1_code 5 = .ok (.iconst 1, 1) := by decide +kernel
theorem d_own_init_6 : decode prog_19_method_1_code 6 = .ok (.anewarray 9, 3) := by decide +kernel
theorem d_own_init_9 : decode prog_19_method_1_code 9 = .ok (.putfield 11, 3) := by decide +kernel
theorem d_own_init_12 : decode prog_19_method_1_code 12 = .ok (.aload_n 0, 1) := by decide +kernel
theorem d_own_init_13 : decode prog_19_method_1_code 13 = .ok (.iload_n 1, 1) := by decide +kernel
theorem d_own_init_14 : decode prog_19_method_1_code 14 = .ok (.newarray .int, 2) := by decide +kernel
theorem d_own_init_16 : decode prog_19_method_1_code 16 = .ok (.putfield 15, 3) := by decide +kernel
theorem d_own_init_19 : decode prog_19_method_1_code 19 = .ok (.return_, 1) := by decide +kernel
theorem pn_com_example_libmerit_libmerit_index_DocnoTable : plainName "com/example/libmerit/libmerit/index/DocnoTable" = true := by first | (simp [plainName, overriddenIn]; done) | decide +kernel
set_option maxRecDepth 65536 in
set_option maxHeartbeats 40000000 in
theorem own_init (l : Launch) (Z : State) (a0 : Array Value) (hw : ∀ d ∈ tables_1, d.before a0 Z = true) (ws : List Jvm.Cond) (t : Addr) (h0 : Heap) (n0 : Nat) (Z0 : n0 ≤ h0.size) (E_t : Exa Z h0 t "com/example/libmerit/libmerit/index/DocnoTable") (Fp_t : Fld Z h0 t "com/example/libmerit/libmerit/index/DocnoTable" "pages" "[[B" .null) (Fe_t : Fld Z h0 t "com/example/libmerit/libmerit/index/DocnoTable" "ends" "[I" .null) (Fs_t : Fld Z h0 t "com/example/libmerit/libmerit/index/DocnoTable" "size" "I" (.int (0 : Int32))) (gn_t : n0 ≤ t) :
    own_Met l Z (⟨"com/example/libmerit/libmerit/index/DocnoTable", "<init>", "(I)V"⟩ : MethodName) prog_19_method_1_code 2 none ws ({ frames := 1, cells := 2, slots := 4, locals := 12 } : Room) #[(.ref t), (.int (3 : Int32))] h0 (own_Qd Z t h0 n0) := by
  refine MetFree.of_bodySF (plainFor_of_name pn_com_example_libmerit_libmerit_index_DocnoTable) hisR ?_
  intro p e s m args below meth c s₁ Bd hml0 hP hK
  obtain ⟨rfl, hZ, hh⟩ := hP
  have hx := Bd.exec
  have hby := Bd.bytes
  have hml : c.maxLocals = 2 := hml0
  have hown : s.vm.findClass "com/example/libmerit/libmerit/index/DocnoTable" = some m.cls := findClass_of_methodNamed Bd.named
  have hnm := (name_of_methodNamed Bd.named Bd.method).1
  have X0 : Stand p l e ({ frames := 1, cells := 2, slots := 4, locals := 12 } : Room) s m #[(.ref t), (.int (3 : Int32))] below meth c s₁ [] 0 0 := Stand.of_body Bd
  have e0 : s₁.heap = h0 := by rw [← hh, Bd.state]; rfl
  have N0 := Fr.nil n0
  have hst : entryFrame m #[(.ref t), (.int (3 : Int32))] 2 = mkF m 0 #[.val (.ref t), .val (.int (3 : Int32))] [] := by first | (simp [entryFrame, mkF, argsToLocals, Value.category, maxLocals]; done) | rfl
  obtain ⟨F, hF⟩ : ∃ F : State → Outcome → Prop, F = fun s₂ o => (s₂.status = .running ∧ Ended s₂ below o ∧ ∃ v L, o = .returned v ∧ (own_Qd Z t h0 n0) v s₂.heap L ∧ FrameEnd s o s₂ L (Room.cells ({ frames := 1, cells := 2, slots := 4, locals := 12 } : Room)) (Room.slots ({ frames := 1, cells := 2, slots := 4, locals := 12 } : Room))) := ⟨_, rfl⟩
  suffices G : own_Go p.tables e below F (s₁.setTop (mkF m 0 #[.val (.ref t), .val (.int (3 : Int32))] [])) by
    obtain ⟨t, o, a, b⟩ := G
    rw [hF] at b
    exact ⟨t, o, castTop hst a, b⟩
  show own_Go p.tables e below F (s₁.setTop (mkF m 0 #[.val (.ref t), .val (.int (3 : Int32))] []))
  refine own_st (fun _ k => XS.aloadN X0.here hx rfl (hb hby d_own_init_0) rfl rfl k) ?_
  show own_Go p.tables e below F (s₁.setTop (mkF m 1 #[.val (.ref t), .val (.int (3 : Int32))] [(.ref t)]))
  obtain ⟨T1, X1, e1, st1⟩ := initO X0 hx hZ hown (hw _ (List.mem_of_getElem? (i := 7) rfl)) (hw _ (List.mem_of_getElem? (i := 8) rfl)) (hw _ (List.mem_of_getElem? (i := 9) rfl)) e0 (g := (mkF m 1 #[.val (.ref t), .val (.int (3 : Int32))] [(.ref t)])) rfl (by rw [hml]; rfl) rfl (hb hby d_own_init_1) (by decide) (W := 0) (by show 2 * 0 + _ ≤ _; exact Nat.le_of_eq rfl) (by decide)
  refine own_st st1 ?_
  show own_Go p.tables e below F (T1.setTop (mkF m 4 #[.val (.ref t), .val (.int (3 : Int32))] []))
  refine own_st (fun _ k => XS.aloadN X1.here hx rfl (hb hby d_own_init_4) rfl rfl k) ?_
  show own_Go p.tables e below F (T1.setTop (mkF m 5 #[.val (.ref t), .val (.int (3 : Int32))] [(.ref t)]))
  refine own_st (fun _ k => XS.iconst X1.here hx rfl (hb hby d_own_init_5) k) ?_
  show own_Go p.tables e below F (T1.setTop (mkF m 6 #[.val (.ref t), .val (.int (3 : Int32))] [(.int (1 : Int32)), (.ref t)]))
  obtain ⟨T2, h2, k2, X2, e2, E2, A2, Ex2, O2, st2⟩ := newRA X1 hx hZ (ty := .byte) hown (by decide) (hw _ (List.mem_of_getElem? (i := 10) rfl)) (hw _ (List.mem_of_getElem? (i := 11) rfl)) e1 (g := (mkF m 6 #[.val (.ref t), .val (.int (3 : Int32))] [(.int (1 : Int32)), (.ref t)])) rfl (hb hby d_own_init_6) rfl (by decide) (cap := 1) (by decide) (by decide) (by decide) (by decide) (ad := "[[B") (by decide)
  obtain ⟨b2, g2⟩ : ∃ z, z = h0.size := ⟨_, rfl⟩
  rw [← g2] at A2 st2 Ex2
  have sz_b2 : h0.size ≤ b2 := Nat.le_trans own_ext_refl.1 (Nat.le_of_eq g2.symm)
  have gn_b2 : n0 ≤ b2 := Nat.le_trans Z0 sz_b2
  have ne_t_b2 : t ≠ b2 := Nat.ne_of_lt (Nat.lt_of_lt_of_le E_t.lt (Nat.le_of_eq g2.symm))
  have E_t__2 := E_t.ext E2
  have Fp_t__2 := Fp_t.ext E2
  have Fe_t__2 := Fe_t.ext E2
  have Fs_t__2 := Fs_t.ext E2
  have KW_2 := (Keep.refl h0 [t]).ext E2
  have K0_2 := own_ext_ext own_ext_refl E2
  have V2 : Arv Z h2 b2 k2 (.array .byte) (1 : Int32) [.null] .null := (Arv.new A2 (by decide)).pad (pad_rep [] .null 1)
  refine own_st st2 ?_
  show own_Go p.tables e below F (T2.setTop (mkF m 9 #[.val (.ref t), .val (.int (3 : Int32))] [(.ref b2), (.ref t)]))
  obtain ⟨T3, h3, X3, e3, W3, st3⟩ := putF X2 hx hZ hown (host := "") (Or.inl (hw _ (List.mem_of_getElem? (i := 12) rfl))) Via.refl e2 Fp_t__2 E_t__2 (Or.inl (hw _ (List.mem_of_getElem? (i := 13) rfl))) (hw _ (List.mem_of_getElem? (i := 2) rfl)) (ty := (.array (.array .byte))) (by decide) rfl rfl (g := (mkF m 9 #[.val (.ref t), .val (.int (3 : Int32))] [(.ref b2), (.ref t)])) rfl rfl (hb hby d_own_init_9)
  have Fw3 := Fp_t__2.same W3
  have E_t__3 := E_t__2.wr W3
  have Fe_t__3 := Fe_t__2.other W3 (Or.inr (slot_ne (Or.inr (hw _ (List.mem_of_getElem? (i := 16) rfl))) (Or.inl (hw _ (List.mem_of_getElem? (i := 13) rfl))) (by decide) (t := (.array .int)) (t' := (.array (.array .byte))) (by decide) (by decide)))
  have Fs_t__3 := Fs_t__2.other W3 (Or.inr (slot_ne (Or.inl (hw _ (List.mem_of_getElem? (i := 23) rfl))) (Or.inl (hw _ (List.mem_of_getElem? (i := 13) rfl))) (by decide) (t := .int) (t' := (.array (.array .byte))) (by decide) (by decide)))
  have V2__3 := V2.other W3 (Ne.symm ne_t_b2)
  have KW_3 := KW_2.wr W3 (Or.inl (List.mem_of_getElem? (i := 0) rfl))
  have N3 := Fr.snoc X3 N0 gn_t
  refine own_st st3 ?_
  show own_Go p.tables e below F (T3.setTop (mkF m 12 #[.val (.ref t), .val (.int (3 : Int32))] []))
  refine own_st (fun _ k => XS.aloadN X3.here hx rfl (hb hby d_own_init_12) rfl rfl k) ?_
  show own_Go p.tables e below F (T3.setTop (mkF m 13 #[.val (.ref t), .val (.int (3 : Int32))] [(.ref t)]))
  refine own_st (fun _ k => XS.iloadN X3.here hx rfl (hb hby d_own_init_13) rfl k) ?_
  show own_Go p.tables e below F (T3.setTop (mkF m 14 #[.val (.ref t), .val (.int (3 : Int32))] [(.int (3 : Int32)), (.ref t)]))
  obtain ⟨T4, h4, k4, X4, e4, E4, A4, st4⟩ := newP X3 hx hZ (hw _ (List.mem_of_getElem? (i := 14) rfl)) e3 (g := (mkF m 14 #[.val (.ref t), .val (.int (3 : Int32))] [(.int (3 : Int32)), (.ref t)])) rfl (hb hby d_own_init_14) rfl (by decide) (cap := 3) (by decide) (by decide) (by decide) (by decide)
  obtain ⟨b4, g4⟩ : ∃ z, z = h3.size := ⟨_, rfl⟩
  rw [← g4] at A4 st4
  have sz_b4 : h0.size ≤ b4 := Nat.le_trans KW_3.1 (Nat.le_of_eq g4.symm)
  have gn_b4 : n0 ≤ b4 := Nat.le_trans Z0 sz_b4
  have ne_t_b4 : t ≠ b4 := Nat.ne_of_lt (Nat.lt_of_lt_of_le E_t__3.lt (Nat.le_of_eq g4.symm))
  have ne_b2_b4 : b2 ≠ b4 := Nat.ne_of_lt (Nat.lt_of_lt_of_le V2__3.lt (Nat.le_of_eq g4.symm))
  have E_t__4 := E_t__3.ext E4
  have Fe_t__4 := Fe_t__3.ext E4
  have Fs_t__4 := Fs_t__3.ext E4
  have V2__4 := V2__3.ext E4
  have Fw3__4 := Fw3.ext E4
  have KW_4 := KW_3.ext E4
  have V4 : Arv Z h4 b4 k4 .int (3 : Int32) [(.int (0 : Int32)), (.int (0 : Int32)), (.int (0 : Int32))] (.int (0 : Int32)) := (Arv.new A4 (by decide)).pad (pad_rep [] (.int (0 : Int32)) 3)
  refine own_st st4 ?_
  show own_Go p.tables e below F (T4.setTop (mkF m 16 #[.val (.ref t), .val (.int (3 : Int32))] [(.ref b4), (.ref t)]))
  obtain ⟨T5, h5, X5, e5, W5, st5⟩ := putF X4 hx hZ hown (host := "") (Or.inl (hw _ (List.mem_of_getElem? (i := 15) rfl))) Via.refl e4 Fe_t__4 E_t__4 (Or.inr ⟨(hw _ (List.mem_of_getElem? (i := 16) rfl)), rfl, hnm⟩) (hw _ (List.mem_of_getElem? (i := 2) rfl)) (ty := (.array .int)) (by decide) rfl rfl (g := (mkF m 16 #[.val (.ref t), .val (.int (3 : Int32))] [(.ref b4), (.ref t)])) rfl rfl (hb hby d_own_init_16)
  have Fw5 := Fe_t__4.same W5
  have E_t__5 := E_t__4.wr W5
  have Fs_t__5 := Fs_t__4.other W5 (Or.inr (slot_ne (Or.inl (hw _ (List.mem_of_getElem? (i := 23) rfl))) (Or.inr (hw _ (List.mem_of_getElem? (i := 16) rfl))) (by decide) (t := .int) (t' := (.array .int)) (by decide) (by decide)))
  have V2__5 := V2__4.other W5 (Ne.symm ne_t_b2)
  have Fw3__5 := Fw3__4.other W5 (Or.inr (slot_ne (Or.inl (hw _ (List.mem_of_getElem? (i := 13) rfl))) (Or.inr (hw _ (List.mem_of_getElem? (i := 16) rfl))) (by decide) (t := (.array (.array .byte))) (t' := (.array .int)) (by decide) (by decide)))
  have V4__5 := V4.other W5 (Ne.symm ne_t_b4)
  have KW_5 := KW_4.wr W5 (Or.inl (List.mem_of_getElem? (i := 0) rfl))
  have N5 := Fr.snoc X5 N3 gn_t
  refine own_st st5 ?_
  show own_Go p.tables e below F (T5.setTop (mkF m 19 #[.val (.ref t), .val (.int (3 : Int32))] []))
  obtain ⟨fs, hrL, hrun, hended, hW, hsame⟩ := X5.leave (v := none) (fun _ => rfl)
  refine own_end hF (o := .returned none) (X5.returnOut hx Bd.returns (hb hby d_own_init_19) hrL) ?_
  refine ⟨hrun, hended, _, _, rfl, ?_, ⟨_, rfl⟩, hW, hsame.mono (by decide) (by decide)⟩
  have eh : T5.heap = h5 := e5
  show own_Qd Z t h0 n0 _ T5.heap _
  rw [eh]
  exact ⟨b2, b4, _, _, rfl, N5, KW_5, sz_b2, sz_b4, ne_b2_b4, E_t__5, Fw3__5, Fw5, Fs_t__5, V2__5, V4__5, O2⟩
theorem d_own_bc0_0 : decode prog_19_method_2_code 0 = .ok (.aload_n 0, 1) := by decide +kernel
theorem d_own_bc0_1 : decode prog_19_method_2_code 1 = .ok (.getfield 19, 3) := by decide +kernel
theorem d_own_bc0_4 : decode prog_19_method_2_code 4 = .ok (.ifCond .ne 7, 3) := by decide +kernel
theorem d_own_bc0_7 : decode prog_19_method_2_code 7 = .ok (.iconst 0, 1) := by decide +kernel
theorem d_own_bc0_8 : decode prog_19_method_2_code 8 = .ok (.goto 14, 3) := by decide +kernel
theorem d_own_bc0_22 : decode prog_19_method_2_code 22 = .ok (.ireturn, 1) := by decide +kernel
set_option maxRecDepth 65536 in
set_option maxHeartbeats 40000000 in
theorem own_bc0 (l : Launch) (Z : State) (a0 : Array Value) (hw : ∀ d ∈ tables_1, d.before a0 Z = true) (ws : List Jvm.Cond) (t pg en : Addr) (kP kE : ClassId) (vs : List Value) (pv : Value) (h0 : Heap) (n0 : Nat) (TBu : own_T Z h0 t pg en kP kE 0 vs pv) :
    own_Met l Z (⟨"com/example/libmerit/libmerit/index/DocnoTable", "byteCount", "()I"⟩ : MethodName) prog_19_method_2_code 1 (some .int) ws ({ frames := 0, cells := 0, slots := 0, locals := 0 } : Room) #[(.ref t)] h0 (own_Qp (.int 0) h0 n0) := by
  refine MetFree.of_bodySF (plainFor_of_name pn_com_example_libmerit_libmerit_index_DocnoTable) hisR ?_
  intro p e s m args below meth c s₁ Bd hml0 hP hK
  obtain ⟨rfl, hZ, hh⟩ := hP
  have hx := Bd.exec
  have hby := Bd.bytes
  have hml : c.maxLocals = 1 := hml0
  have hown : s.vm.findClass "com/example/libmerit/libmerit/index/DocnoTable" = some m.cls := findClass_of_methodNamed Bd.named
  have hnm := (name_of_methodNamed Bd.named Bd.method).1
  have X0 : Stand p l e ({ frames := 0, cells := 0, slots := 0, locals := 0 } : Room) s m #[(.ref t)] below meth c s₁ [] 0 0 := Stand.of_body Bd
  have e0 : s₁.heap = h0 := by rw [← hh, Bd.state]; rfl
  have N0 := Fr.nil n0
  have hst : entryFrame m #[(.ref t)] 1 = mkF m 0 #[.val (.ref t)] [] := by first | (simp [entryFrame, mkF, argsToLocals, Value.category, maxLocals]; done) | rfl
  obtain ⟨F, hF⟩ : ∃ F : State → Outcome → Prop, F = fun s₂ o => (s₂.status = .running ∧ Ended s₂ below o ∧ ∃ v L, o = .returned v ∧ (own_Qp (.int 0) h0 n0) v s₂.heap L ∧ FrameEnd s o s₂ L (Room.cells ({ frames := 0, cells := 0, slots := 0, locals := 0 } : Room)) (Room.slots ({ frames := 0, cells := 0, slots := 0, locals := 0 } : Room))) := ⟨_, rfl⟩
  suffices G : own_Go p.tables e below F (s₁.setTop (mkF m 0 #[.val (.ref t)] [])) by
    obtain ⟨t, o, a, b⟩ := G
    rw [hF] at b
    exact ⟨t, o, castTop hst a, b⟩
  show own_Go p.tables e below F (s₁.setTop (mkF m 0 #[.val (.ref t)] []))
  obtain ⟨Et, Fp, Fe, Fs, Vp, Ve, Op⟩ := id TBu
  refine own_st (fun _ k => XS.aloadN X0.here hx rfl (hb hby d_own_bc0_0) rfl rfl k) ?_
  show own_Go p.tables e below F (s₁.setTop (mkF m 1 #[.val (.ref t)] [(.ref t)]))
  obtain ⟨T1, X1, e1, st1⟩ := getF X0 hx hZ hown (host := "") (Or.inl (hw _ (List.mem_of_getElem? (i := 22) rfl))) Via.refl e0 Fs (g := (mkF m 1 #[.val (.ref t)] [(.ref t)])) rfl rfl (hb hby d_own_bc0_1)
  refine own_st st1 ?_
  show own_Go p.tables e below F (T1.setTop (mkF m 4 #[.val (.ref t)] [(.int (0 : Int32))]))
  refine own_st (fun _ k => XS.ifNo X1.here hx rfl (hb hby d_own_bc0_4) rfl ((if0 _ _).trans (teq (by decide : (0 : Int32) = (0 : Int32))).2) k) ?_
  show own_Go p.tables e below F (T1.setTop (mkF m 7 #[.val (.ref t)] []))
  refine own_st (fun _ k => XS.iconst X1.here hx rfl (hb hby d_own_bc0_7) k) ?_
  show own_Go p.tables e below F (T1.setTop (mkF m 8 #[.val (.ref t)] [(.int (0 : Int32))]))
  refine own_st (fun _ k => XS.goto X1.here hx rfl (pc0 := 8) (pc' := 22) rfl (hb hby d_own_bc0_8) (by decide) (by decide) k) ?_
  show own_Go p.tables e below F (T1.setTop (mkF m 22 #[.val (.ref t)] [(.int (0 : Int32))]))
  obtain ⟨fs, hrL, hrun, hended, hW, hsame⟩ := X1.leave (v := some (.int (0 : Int32))) (fun h => by rw [Bd.returns] at h; cases h)
  refine own_end hF (o := .returned (some (.int (0 : Int32)))) (retI X1 hx Bd.returns (hb hby d_own_bc0_22) hrL) ?_
  refine ⟨hrun, hended, _, _, rfl, ?_, ⟨_, rfl⟩, hW, hsame.mono (by decide) (by decide)⟩
  exact ⟨rfl, N0, e1⟩
theorem d_own_bcN_0 : decode prog_19_method_2_code 0 = .ok (.aload_n 0, 1) := by decide +kernel
theorem d_own_bcN_1 : decode prog_19_method_2_code 1 = .ok (.getfield 19, 3) := by decide +kernel
theorem d_own_bcN_4 : decode prog_19_method_2_code 4 = .ok (.ifCond .ne 7, 3) := by decide +kernel
theorem d_own_bcN_11 : decode prog_19_method_2_code 11 = .ok (.aload_n 0, 1) := by decide +kernel
theorem d_own_bcN_12 : decode prog_19_method_2_code 12 = .ok (.getfield 15, 3) := by decide +kernel
theorem d_own_bcN_15 : decode prog_19_method_2_code 15 = .ok (.aload_n 0, 1) := by decide +kernel
theorem d_own_bcN_16 : decode prog_19_method_2_code 16 = .ok (.getfield 19, 3) := by decide +kernel
theorem d_own_bcN_19 : decode prog_19_method_2_code 19 = .ok (.iconst 1, 1) := by decide +kernel
theorem d_own_bcN_20 : decode prog_19_method_2_code 20 = .ok (.isub, 1) := by decide +kernel
theorem d_own_bcN_21 : decode prog_19_method_2_code 21 = .ok (.iaload, 1) := by decide +kernel
theorem d_own_bcN_22 : decode prog_19_method_2_code 22 = .ok (.ireturn, 1) := by decide +kernel
set_option maxRecDepth 65536 in
set_option maxHeartbeats 40000000 in
theorem own_bcN (l : Launch) (Z : State) (a0 : Array Value) (hw : ∀ d ∈ tables_1, d.before a0 Z = true) (ws : List Jvm.Cond) (t pg en : Addr) (kP kE : ClassId) (sz : Int32) (vs : List Value) (pv : Value) (r : Int32) (h0 : Heap) (n0 : Nat) (TBu : own_T Z h0 t pg en kP kE sz vs pv) (hs0 : ¬ (sz = (0 : Int32))) (hsi : ¬ (sz - (1 : Int32)) < 0 ∧ (sz - (1 : Int32)) < (3 : Int32)) (hat : vs.getD (sz - (1 : Int32)).toNatClampNeg (.int (0 : Int32)) = .int r) :
    own_Met l Z (⟨"com/example/libmerit/libmerit/index/DocnoTable", "byteCount", "()I"⟩ : MethodName) prog_19_method_2_code 1 (some .int) ws ({ frames := 0, cells := 0, slots := 0, locals := 0 } : Room) #[(.ref t)] h0 (own_Qp (.int r) h0 n0) := by
  refine MetFree.of_bodySF (plainFor_of_name pn_com_example_libmerit_libmerit_index_DocnoTable) hisR ?_
  intro p e s m args below meth c s₁ Bd hml0 hP hK
  obtain ⟨rfl, hZ, hh⟩ := hP
  have hx := Bd.exec
  have hby := Bd.bytes
  have hml : c.maxLocals = 1 := hml0
  have hown : s.vm.findClass "com/example/libmerit/libmerit/index/DocnoTable" = some m.cls := findClass_of_methodNamed Bd.named
  have hnm := (name_of_methodNamed Bd.named Bd.method).1
  have X0 : Stand p l e ({ frames := 0, cells := 0, slots := 0, locals := 0 } : Room) s m #[(.ref t)] below meth c s₁ [] 0 0 := Stand.of_body Bd
  have e0 : s₁.heap = h0 := by rw [← hh, Bd.state]; rfl
  have N0 := Fr.nil n0
  have hst : entryFrame m #[(.ref t)] 1 = mkF m 0 #[.val (.ref t)] [] := by first | (simp [entryFrame, mkF, argsToLocals, Value.category, maxLocals]; done) | rfl
  obtain ⟨F, hF⟩ : ∃ F : State → Outcome → Prop, F = fun s₂ o => (s₂.status = .running ∧ Ended s₂ below o ∧ ∃ v L, o = .returned v ∧ (own_Qp (.int r) h0 n0) v s₂.heap L ∧ FrameEnd s o s₂ L (Room.cells ({ frames := 0, cells := 0, slots := 0, locals := 0 } : Room)) (Room.slots ({ frames := 0, cells := 0, slots := 0, locals := 0 } : Room))) := ⟨_, rfl⟩
  suffices G : own_Go p.tables e below F (s₁.setTop (mkF m 0 #[.val (.ref t)] [])) by
    obtain ⟨t, o, a, b⟩ := G
    rw [hF] at b
    exact ⟨t, o, castTop hst a, b⟩
  show own_Go p.tables e below F (s₁.setTop (mkF m 0 #[.val (.ref t)] []))
  obtain ⟨Et, Fp, Fe, Fs, Vp, Ve, Op⟩ := id TBu
  refine own_st (fun _ k => XS.aloadN X0.here hx rfl (hb hby d_own_bcN_0) rfl rfl k) ?_
  show own_Go p.tables e below F (s₁.setTop (mkF m 1 #[.val (.ref t)] [(.ref t)]))
  obtain ⟨T1, X1, e1, st1⟩ := getF X0 hx hZ hown (host := "") (Or.inl (hw _ (List.mem_of_getElem? (i := 22) rfl))) Via.refl e0 Fs (g := (mkF m 1 #[.val (.ref t)] [(.ref t)])) rfl rfl (hb hby d_own_bcN_1)
  refine own_st st1 ?_
  show own_Go p.tables e below F (T1.setTop (mkF m 4 #[.val (.ref t)] [(.int sz)]))
  refine own_st (fun _ k => XS.ifYes X1.here hx rfl (pc0 := 4) (pc' := 11) rfl (hb hby d_own_bcN_4) rfl ((if0 _ _).trans (feq hs0).2) (by decide) (by decide) k) ?_
  show own_Go p.tables e below F (T1.setTop (mkF m 11 #[.val (.ref t)] []))
  refine own_st (fun _ k => XS.aloadN X1.here hx rfl (hb hby d_own_bcN_11) rfl rfl k) ?_
  show own_Go p.tables e below F (T1.setTop (mkF m 12 #[.val (.ref t)] [(.ref t)]))
  obtain ⟨T2, X2, e2, st2⟩ := getF X1 hx hZ hown (host := "") (Or.inl (hw _ (List.mem_of_getElem? (i := 15) rfl))) Via.refl e1 Fe (g := (mkF m 12 #[.val (.ref t)] [(.ref t)])) rfl rfl (hb hby d_own_bcN_12)
  refine own_st st2 ?_
  show own_Go p.tables e below F (T2.setTop (mkF m 15 #[.val (.ref t)] [(.ref en)]))
  refine own_st (fun _ k => XS.aloadN X2.here hx rfl (hb hby d_own_bcN_15) rfl rfl k) ?_
  show own_Go p.tables e below F (T2.setTop (mkF m 16 #[.val (.ref t)] [(.ref t), (.ref en)]))
  obtain ⟨T3, X3, e3, st3⟩ := getF X2 hx hZ hown (host := "") (Or.inl (hw _ (List.mem_of_getElem? (i := 22) rfl))) Via.refl e2 Fs (g := (mkF m 16 #[.val (.ref t)] [(.ref t), (.ref en)])) rfl rfl (hb hby d_own_bcN_16)
  refine own_st st3 ?_
  show own_Go p.tables e below F (T3.setTop (mkF m 19 #[.val (.ref t)] [(.int sz), (.ref en)]))
  refine own_st (fun _ k => XS.iconst X3.here hx rfl (hb hby d_own_bcN_19) k) ?_
  show own_Go p.tables e below F (T3.setTop (mkF m 20 #[.val (.ref t)] [(.int (1 : Int32)), (.int sz), (.ref en)]))
  refine own_st (fun _ k => XS.isub X3.here hx rfl (hb hby d_own_bcN_20) rfl k) ?_
  show own_Go p.tables e below F (T3.setTop (mkF m 21 #[.val (.ref t)] [(.int (sz - (1 : Int32))), (.ref en)]))
  obtain ⟨cl4, Ar4, qc4, S4, Nn4, Hh4, Gg4⟩ := id Ve
  have hin5 : ¬ ((sz - (1 : Int32)) < 0 ∨ cl4.slots.size ≤ ((sz - (1 : Int32))).toNatClampNeg) := inb_of S4 hsi
  refine own_st (X3.iaload hx (j := (sz - (1 : Int32))) (v := (.int r)) (by rw [e3]; exact Ar4.1) (State.isArrayOf_alike hZ.alike Ar4.2.1) Ar4.2.2 hin5 (Has.at Hh4 hin5 hat) (g := (mkF m 21 #[.val (.ref t)] [(.int (sz - (1 : Int32))), (.ref en)])) rfl rfl (hb hby d_own_bcN_21)) ?_
  show own_Go p.tables e below F (T3.setTop (mkF m 22 #[.val (.ref t)] [(.int r)]))
  obtain ⟨fs, hrL, hrun, hended, hW, hsame⟩ := X3.leave (v := some (.int r)) (fun h => by rw [Bd.returns] at h; cases h)
  refine own_end hF (o := .returned (some (.int r))) (retI X3 hx Bd.returns (hb hby d_own_bcN_22) hrL) ?_
  refine ⟨hrun, hended, _, _, rfl, ?_, ⟨_, rfl⟩, hW, hsame.mono (by decide) (by decide)⟩
  exact ⟨rfl, N0, e3⟩
theorem d_own_minm_0 : decode jdk_29_method_69_code 0 = .ok (.iload_n 0, 1) := by decide +kernel
theorem d_own_minm_1 : decode jdk_29_method_69_code 1 = .ok (.iload_n 1, 1) := by decide +kernel
theorem d_own_minm_2 : decode jdk_29_method_69_code 2 = .ok (.if_icmp .gt 7, 3) := by decide +kernel
theorem d_own_minm_5 : decode jdk_29_method_69_code 5 = .ok (.iload_n 0, 1) := by decide +kernel
theorem d_own_minm_6 : decode jdk_29_method_69_code 6 = .ok (.goto 4, 3) := by decide +kernel
theorem d_own_minm_9 : decode jdk_29_method_69_code 9 = .ok (.iload_n 1, 1) := by decide +kernel
theorem d_own_minm_10 : decode jdk_29_method_69_code 10 = .ok (.ireturn, 1) := by decide +kernel
set_option maxRecDepth 65536 in
set_option maxHeartbeats 40000000 in
theorem own_minm (l : Launch) (Z : State) (a0 : Array Value) (hw : ∀ d ∈ tables_1, d.before a0 Z = true) (ws : List Jvm.Cond) (p1 p2 : Int32) (h0 : Heap) (n0 : Nat)  :
    own_Met l Z (⟨"java/lang/Math", "min", "(II)I"⟩ : MethodName) jdk_29_method_69_code 2 (some .int) ws ({ frames := 0, cells := 0, slots := 0, locals := 0 } : Room) #[(.int p1), (.int p2)] h0 (own_Qp (.int (own_min p1 p2)) h0 n0) := by
  refine MetFree.of_bodySF (Jvm.Free.JP.mathPlain rfl (by decide +kernel)) hisR ?_
  intro p e s m args below meth c s₁ Bd hml0 hP hK
  obtain ⟨rfl, hZ, hh⟩ := hP
  have hx := Bd.exec
  have hby := Bd.bytes
  have hml : c.maxLocals = 2 := hml0
  have hown : s.vm.findClass "java/lang/Math" = some m.cls := findClass_of_methodNamed Bd.named
  have hnm := (name_of_methodNamed Bd.named Bd.method).1
  have X0 : Stand p l e ({ frames := 0, cells := 0, slots := 0, locals := 0 } : Room) s m #[(.int p1), (.int p2)] below meth c s₁ [] 0 0 := Stand.of_body Bd
  have e0 : s₁.heap = h0 := by rw [← hh, Bd.state]; rfl
  have N0 := Fr.nil n0
  have hst : entryFrame m #[(.int p1), (.int p2)] 2 = mkF m 0 #[.val (.int p1), .val (.int p2)] [] := by first | (simp [entryFrame, mkF, argsToLocals, Value.category, maxLocals]; done) | rfl
  obtain ⟨F, hF⟩ : ∃ F : State → Outcome → Prop, F = fun s₂ o => (s₂.status = .running ∧ Ended s₂ below o ∧ ∃ v L, o = .returned v ∧ (own_Qp (.int (own_min p1 p2)) h0 n0) v s₂.heap L ∧ FrameEnd s o s₂ L (Room.cells ({ frames := 0, cells := 0, slots := 0, locals := 0 } : Room)) (Room.slots ({ frames := 0, cells := 0, slots := 0, locals := 0 } : Room))) := ⟨_, rfl⟩
  suffices G : own_Go p.tables e below F (s₁.setTop (mkF m 0 #[.val (.int p1), .val (.int p2)] [])) by
    obtain ⟨t, o, a, b⟩ := G
    rw [hF] at b
    exact ⟨t, o, castTop hst a, b⟩
  show own_Go p.tables e below F (s₁.setTop (mkF m 0 #[.val (.int p1), .val (.int p2)] []))
  refine own_st (fun _ k => XS.iloadN X0.here hx rfl (hb hby d_own_minm_0) rfl k) ?_
  show own_Go p.tables e below F (s₁.setTop (mkF m 1 #[.val (.int p1), .val (.int p2)] [(.int p1)]))
  refine own_st (fun _ k => XS.iloadN X0.here hx rfl (hb hby d_own_minm_1) rfl k) ?_
  show own_Go p.tables e below F (s₁.setTop (mkF m 2 #[.val (.int p1), .val (.int p2)] [(.int p2), (.int p1)]))
  by_cases hc2 : p2 < p1
  ·
    refine own_st (fun _ k => XS.icmpYes X0.here hx rfl (pc0 := 2) (pc' := 9) rfl (hb hby d_own_minm_2) rfl (tlt hc2).2.2.1 (by decide) (by decide) k) ?_
    show own_Go p.tables e below F (s₁.setTop (mkF m 9 #[.val (.int p1), .val (.int p2)] []))
    refine own_st (fun _ k => XS.iloadN X0.here hx rfl (hb hby d_own_minm_9) rfl k) ?_
    show own_Go p.tables e below F (s₁.setTop (mkF m 10 #[.val (.int p1), .val (.int p2)] [(.int p2)]))
    obtain ⟨fs, hrL, hrun, hended, hW, hsame⟩ := X0.leave (v := some (.int p2)) (fun h => by rw [Bd.returns] at h; cases h)
    refine own_end hF (o := .returned (some (.int p2))) (retI X0 hx Bd.returns (hb hby d_own_minm_10) hrL) ?_
    refine ⟨hrun, hended, _, _, rfl, ?_, ⟨_, rfl⟩, hW, hsame.mono (by decide) (by decide)⟩
    exact ⟨by simp [own_min, hc2], N0, e0⟩
  ·
    refine own_st (fun _ k => XS.icmpNo X0.here hx rfl (hb hby d_own_minm_2) rfl (flt hc2).2.2.1 k) ?_
    show own_Go p.tables e below F (s₁.setTop (mkF m 5 #[.val (.int p1), .val (.int p2)] []))
    refine own_st (fun _ k => XS.iloadN X0.here hx rfl (hb hby d_own_minm_5) rfl k) ?_
    show own_Go p.tables e below F (s₁.setTop (mkF m 6 #[.val (.int p1), .val (.int p2)] [(.int p1)]))
    refine own_st (fun _ k => XS.goto X0.here hx rfl (pc0 := 6) (pc' := 10) rfl (hb hby d_own_minm_6) (by decide) (by decide) k) ?_
    show own_Go p.tables e below F (s₁.setTop (mkF m 10 #[.val (.int p1), .val (.int p2)] [(.int p1)]))
    obtain ⟨fs, hrL, hrun, hended, hW, hsame⟩ := X0.leave (v := some (.int p1)) (fun h => by rw [Bd.returns] at h; cases h)
    refine own_end hF (o := .returned (some (.int p1))) (retI X0 hx Bd.returns (hb hby d_own_minm_10) hrL) ?_
    refine ⟨hrun, hended, _, _, rfl, ?_, ⟨_, rfl⟩, hW, hsame.mono (by decide) (by decide)⟩
    exact ⟨by simp [own_min, hc2], N0, e0⟩
theorem own_in3 {x : Int32} (h : ¬ x < 0 ∧ x < (3 : Int32)) : x.toNatClampNeg < 3 := by
  obtain ⟨a, b⟩ := h
  rw [Int32.lt_iff_toInt_lt] at a b
  have e : (0 : Int32).toInt = 0 := rfl
  have e' : (3 : Int32).toInt = 3 := rfl
  have := own_nat (x := x) (by omega)
  omega
def own_Qz (Z : State) (t pg en : Addr) (kP kE : ClassId) (sz' : Int32) (vs : List Value) (sz e : Int32) (pv : Value) (h0 : Heap) (n0 : Nat) (v : Option Value) (h : Heap) (L : List Loc) : Prop :=
  v = none ∧ Fr n0 L ∧ Keep h0 h [t, en] ∧ own_T Z h t pg en kP kE sz' (vs.set sz.toNatClampNeg (.int e)) pv
def own_Qm (Z : State) (t pg en : Addr) (kP kE : ClassId) (sz' : Int32) (vs : List Value) (sz e : Int32) (h0 : Heap) (n0 : Nat) (v : Option Value) (h : Heap) (L : List Loc) : Prop :=
  ∃ q : Addr, v = none ∧ Fr n0 L ∧ Keep h0 h [t, pg, en] ∧ h0.size ≤ q ∧ own_T Z h t pg en kP kE sz' (vs.set sz.toNatClampNeg (.int e)) (.ref q) ∧ own_Pg Z h q
def own_Qo (Z : State) (t pg en : Addr) (kP kE : ClassId) (sz' : Int32) (vs : List Value) (sz e : Int32) (q : Addr) (h0 : Heap) (n0 : Nat) (v : Option Value) (h : Heap) (L : List Loc) : Prop :=
  v = none ∧ Fr n0 L ∧ Keep h0 h [t, en, q] ∧ own_T Z h t pg en kP kE sz' (vs.set sz.toNatClampNeg (.int e)) (.ref q) ∧ own_Pg Z h q
theorem d_own_addZ_0 : decode prog_19_method_3_code 0 = .ok (.aload_n 0, 1) := by decide +kernel
theorem d_own_addZ_1 : decode prog_19_method_3_code 1 = .ok (.invokevirtual 23, 3) := by decide +kernel
theorem d_own_addZ_4 : decode prog_19_method_3_code 4 = .ok (.istore_n 2, 1) := by decide +kernel
theorem d_own_addZ_5 : decode prog_19_method_3_code 5 = .ok (.iconst 0, 1) := by decide +kernel
theorem d_own_addZ_6 : decode prog_19_method_3_code 6 = .ok (.istore_n 3, 1) := by decide +kernel
theorem d_own_addZ_7 : decode prog_19_method_3_code 7 = .ok (.iload_n 3, 1) := by decide +kernel
theorem d_own_addZ_8 : decode prog_19_method_3_code 8 = .ok (.aload_n 1, 1) := by decide +kernel
theorem d_own_addZ_9 : decode prog_19_method_3_code 9 = .ok (.arraylength, 1) := by decide +kernel
theorem d_own_addZ_10 : decode prog_19_method_3_code 10 = .ok (.if_icmp .ge 112, 3) := by decide +kernel
theorem d_own_addZ_122 : decode prog_19_method_3_code 122 = .ok (.aload_n 0, 1) := by decide +kernel
theorem d_own_addZ_123 : decode prog_19_method_3_code 123 = .ok (.getfield 15, 3) := by decide +kernel
theorem d_own_addZ_126 : decode prog_19_method_3_code 126 = .ok (.aload_n 0, 1) := by decide +kernel
theorem d_own_addZ_127 : decode prog_19_method_3_code 127 = .ok (.dup, 1) := by decide +kernel
theorem d_own_addZ_128 : decode prog_19_method_3_code 128 = .ok (.getfield 19, 3) := by decide +kernel
theorem d_own_addZ_131 : decode prog_19_method_3_code 131 = .ok (.dup_x1, 1) := by decide +kernel
theorem d_own_addZ_132 : decode prog_19_method_3_code 132 = .ok (.iconst 1, 1) := by decide +kernel
theorem d_own_addZ_133 : decode prog_19_method_3_code 133 = .ok (.iadd, 1) := by decide +kernel
theorem d_own_addZ_134 : decode prog_19_method_3_code 134 = .ok (.putfield 19, 3) := by decide +kernel
theorem d_own_addZ_137 : decode prog_19_method_3_code 137 = .ok (.iload_n 2, 1) := by decide +kernel
theorem d_own_addZ_138 : decode prog_19_method_3_code 138 = .ok (.aload_n 1, 1) := by decide +kernel
theorem d_own_addZ_139 : decode prog_19_method_3_code 139 = .ok (.arraylength, 1) := by decide +kernel
theorem d_own_addZ_140 : decode prog_19_method_3_code 140 = .ok (.iadd, 1) := by decide +kernel
theorem d_own_addZ_141 : decode prog_19_method_3_code 141 = .ok (.iastore, 1) := by decide +kernel
theorem d_own_addZ_142 : decode prog_19_method_3_code 142 = .ok (.return_, 1) := by decide +kernel
theorem pd_0 : parseMethodDescriptor "()I" = some ⟨[], some .int⟩ := by decide +kernel
set_option maxRecDepth 65536 in
set_option maxHeartbeats 40000000 in
theorem own_addZ (l : Launch) (Z : State) (a0 : Array Value) (hw : ∀ d ∈ tables_1, d.before a0 Z = true) (ws : List Jvm.Cond) (t pg en xa : Addr) (kP kE kx : ClassId) (sz sz' bc z ee : Int32) (vs vx : List Value) (pv : Value) (h0 : Heap) (n0 : Nat) (Z0 : n0 ≤ h0.size) (hcal : own_Met l Z (⟨"com/example/libmerit/libmerit/index/DocnoTable", "byteCount", "()I"⟩ : MethodName) prog_19_method_2_code 1 (some .int) [] ({ frames := 0, cells := 0, slots := 0, locals := 0 } : Room) #[(.ref t)] h0 (own_Qp (.int bc) h0 n0)) (hbc : own_B bc) (hz : own_S z) (XBu : Arv Z h0 xa kx .byte z vx (.int (0 : Int32))) (hlen : vs.length = 3) (hsz : ¬ sz < 0 ∧ sz < (3 : Int32)) (hs1 : sz' = sz + (1 : Int32)) (he : ee = bc + z) (gn_t : n0 ≤ t) (gn_pg : n0 ≤ pg) (gn_en : n0 ≤ en) (nte : t ≠ en) (ntp : t ≠ pg) (npe : pg ≠ en) (nxt : xa ≠ t) (nxp : xa ≠ pg) (nxe : xa ≠ en) (hpos : ¬ ((0 : Int32) < z)) (TBu : own_T Z h0 t pg en kP kE sz vs pv) :
    own_Met l Z (⟨"com/example/libmerit/libmerit/index/DocnoTable", "add", "([B)V"⟩ : MethodName) prog_19_method_3_code 7 none ws ({ frames := 1, cells := 0, slots := 0, locals := 40 } : Room) #[(.ref t), (.ref xa)] h0 (own_Qz Z t pg en kP kE sz' vs sz ee pv h0 n0) := by
  refine MetFree.of_bodySF (plainFor_of_name pn_com_example_libmerit_libmerit_index_DocnoTable) hisR ?_
  intro p e s m args below meth c s₁ Bd hml0 hP hK
  obtain ⟨rfl, hZ, hh⟩ := hP
  have hx := Bd.exec
  have hby := Bd.bytes
  have hml : c.maxLocals = 7 := hml0
  have hown : s.vm.findClass "com/example/libmerit/libmerit/index/DocnoTable" = some m.cls := findClass_of_methodNamed Bd.named
  have hnm := (name_of_methodNamed Bd.named Bd.method).1
  have X0 : Stand p l e ({ frames := 1, cells := 0, slots := 0, locals := 40 } : Room) s m #[(.ref t), (.ref xa)] below meth c s₁ [] 0 0 := Stand.of_body Bd
  have e0 : s₁.heap = h0 := by rw [← hh, Bd.state]; rfl
  have N0 := Fr.nil n0
  have hst : entryFrame m #[(.ref t), (.ref xa)] 7 = mkF m 0 #[.val (.ref t), .val (.ref xa), .unset, .unset, .unset, .unset, .unset] [] := by first | (simp [entryFrame, mkF, argsToLocals, Value.category, maxLocals]; done) | rfl
  obtain ⟨F, hF⟩ : ∃ F : State → Outcome → Prop, F = fun s₂ o => (s₂.status = .running ∧ Ended s₂ below o ∧ ∃ v L, o = .returned v ∧ (own_Qz Z t pg en kP kE sz' vs sz ee pv h0 n0) v s₂.heap L ∧ FrameEnd s o s₂ L (Room.cells ({ frames := 1, cells := 0, slots := 0, locals := 40 } : Room)) (Room.slots ({ frames := 1, cells := 0, slots := 0, locals := 40 } : Room))) := ⟨_, rfl⟩
  suffices G : own_Go p.tables e below F (s₁.setTop (mkF m 0 #[.val (.ref t), .val (.ref xa), .unset, .unset, .unset, .unset, .unset] [])) by
    obtain ⟨t, o, a, b⟩ := G
    rw [hF] at b
    exact ⟨t, o, castTop hst a, b⟩
  show own_Go p.tables e below F (s₁.setTop (mkF m 0 #[.val (.ref t), .val (.ref xa), .unset, .unset, .unset, .unset, .unset] []))
  obtain ⟨Et, Fp, Fe, Fs, Vp, Ve, Op⟩ := id TBu
  refine own_st (fun _ k => XS.aloadN X0.here hx rfl (hb hby d_own_addZ_0) rfl rfl k) ?_
  show own_Go p.tables e below F (s₁.setTop (mkF m 1 #[.val (.ref t), .val (.ref xa), .unset, .unset, .unset, .unset, .unset] [(.ref t)]))
  obtain ⟨cq1, kq1, q1a, q1b, q1c⟩ := isOf hZ e0 Et
  obtain ⟨_, _, ⟨T1, L1, k1, n1⟩, -, X1, ⟨Lc1, hQ1, l1, y1, z1⟩, st1⟩ := X0.virtualBack hx (y := (⟨"com/example/libmerit/libmerit/index/DocnoTable", "byteCount", "()I"⟩ : MethodName)) (z := (⟨"com/example/libmerit/libmerit/index/DocnoTable", "byteCount", "()I"⟩ : MethodName)) hown (mvT hZ (hw _ (List.mem_of_getElem? (i := 29) rfl))) (mvT hZ (hw _ (List.mem_of_getElem? (i := 18) rfl))) (notFace_of_selects (args := #[]) (mvT hZ (hw _ (List.mem_of_getElem? (i := 20) rfl)))) (mvT hZ (hw _ (List.mem_of_getElem? (i := 20) rfl))) (mvT hZ (hw _ (List.mem_of_getElem? (i := 19) rfl))) (by decide) (backOf (W := 0) (hcal) hZ (hw _ (List.mem_of_getElem? (i := 21) rfl)) (hw _ (List.mem_of_getElem? (i := 3) rfl)) (by decide) (by decide)) q1a q1c (g := (mkF m 1 #[.val (.ref t), .val (.ref xa), .unset, .unset, .unset, .unset, .unset] [(.ref t)])) rfl (by rw [hml]; rfl) (Steps.refl _) (argsL := []) (rest := []) (lenOf pd_0 rfl) rfl (by show 2 * 0 + _ ≤ _; exact Nat.le_of_eq rfl) (hb hby d_own_addZ_1) (fun _ _ => ⟨rfl, e0, (by decide : 0 + 0 ≤ _), (by decide : 0 + 0 ≤ _)⟩)
  dsimp only [Pt.U, Pt.locs, Pt.cells, Pt.slots] at X1 l1 y1 z1 st1 hQ1
  subst l1 y1 z1
  obtain ⟨rfl, N1q, e1⟩ := hQ1
  have N1 := Fr.app N0 N1q
  refine own_st (fun _ k => st1.trans k) ?_
  show own_Go p.tables e below F (T1.setTop (mkF m 4 #[.val (.ref t), .val (.ref xa), .unset, .unset, .unset, .unset, .unset] [(.int bc)]))
  refine own_st (fun _ k => XS.istoreN X1.here hx rfl (hb hby d_own_addZ_4) rfl (l' := #[.val (.ref t), .val (.ref xa), .val (.int bc), .unset, .unset, .unset, .unset]) rfl k) ?_
  show own_Go p.tables e below F (T1.setTop (mkF m 5 #[.val (.ref t), .val (.ref xa), .val (.int bc), .unset, .unset, .unset, .unset] []))
  refine own_st (fun _ k => XS.iconst X1.here hx rfl (hb hby d_own_addZ_5) k) ?_
  show own_Go p.tables e below F (T1.setTop (mkF m 6 #[.val (.ref t), .val (.ref xa), .val (.int bc), .unset, .unset, .unset, .unset] [(.int (0 : Int32))]))
  refine own_st (fun _ k => XS.istoreN X1.here hx rfl (hb hby d_own_addZ_6) rfl (l' := #[.val (.ref t), .val (.ref xa), .val (.int bc), .val (.int (0 : Int32)), .unset, .unset, .unset]) rfl k) ?_
  show own_Go p.tables e below F (T1.setTop (mkF m 7 #[.val (.ref t), .val (.ref xa), .val (.int bc), .val (.int (0 : Int32)), .unset, .unset, .unset] []))
  refine own_st (fun _ k => XS.iloadN X1.here hx rfl (hb hby d_own_addZ_7) rfl k) ?_
  show own_Go p.tables e below F (T1.setTop (mkF m 8 #[.val (.ref t), .val (.ref xa), .val (.int bc), .val (.int (0 : Int32)), .unset, .unset, .unset] [(.int (0 : Int32))]))
  refine own_st (fun _ k => XS.aloadN X1.here hx rfl (hb hby d_own_addZ_8) rfl rfl k) ?_
  show own_Go p.tables e below F (T1.setTop (mkF m 9 #[.val (.ref t), .val (.ref xa), .val (.int bc), .val (.int (0 : Int32)), .unset, .unset, .unset] [(.ref xa), (.int (0 : Int32))]))
  obtain ⟨cl2, Ar2, qc2, S2, Nn2, Hh2, Gg2⟩ := id XBu
  refine own_st (X1.arraylength hx (by rw [e1]; exact Ar2.1) (State.isArrayOf_alike hZ.alike Ar2.2.1) (g := (mkF m 9 #[.val (.ref t), .val (.ref xa), .val (.int bc), .val (.int (0 : Int32)), .unset, .unset, .unset] [(.ref xa), (.int (0 : Int32))])) rfl rfl (hb hby d_own_addZ_9)) ?_
  rw [len_of S2 Nn2]
  show own_Go p.tables e below F (T1.setTop (mkF m 10 #[.val (.ref t), .val (.ref xa), .val (.int bc), .val (.int (0 : Int32)), .unset, .unset, .unset] [(.int z), (.int (0 : Int32))]))
  refine own_st (fun _ k => XS.icmpYes X1.here hx rfl (pc0 := 10) (pc' := 122) rfl (hb hby d_own_addZ_10) rfl (flt hpos).2.1 (by decide) (by decide) k) ?_
  show own_Go p.tables e below F (T1.setTop (mkF m 122 #[.val (.ref t), .val (.ref xa), .val (.int bc), .val (.int (0 : Int32)), .unset, .unset, .unset] []))
  refine own_st (fun _ k => XS.aloadN X1.here hx rfl (hb hby d_own_addZ_122) rfl rfl k) ?_
  show own_Go p.tables e below F (T1.setTop (mkF m 123 #[.val (.ref t), .val (.ref xa), .val (.int bc), .val (.int (0 : Int32)), .unset, .unset, .unset] [(.ref t)]))
  obtain ⟨T3, X3, e3, st3⟩ := getF X1 hx hZ hown (host := "") (Or.inl (hw _ (List.mem_of_getElem? (i := 15) rfl))) Via.refl e1 Fe (g := (mkF m 123 #[.val (.ref t), .val (.ref xa), .val (.int bc), .val (.int (0 : Int32)), .unset, .unset, .unset] [(.ref t)])) rfl rfl (hb hby d_own_addZ_123)
  refine own_st st3 ?_
  show own_Go p.tables e below F (T3.setTop (mkF m 126 #[.val (.ref t), .val (.ref xa), .val (.int bc), .val (.int (0 : Int32)), .unset, .unset, .unset] [(.ref en)]))
  refine own_st (fun _ k => XS.aloadN X3.here hx rfl (hb hby d_own_addZ_126) rfl rfl k) ?_
  show own_Go p.tables e below F (T3.setTop (mkF m 127 #[.val (.ref t), .val (.ref xa), .val (.int bc), .val (.int (0 : Int32)), .unset, .unset, .unset] [(.ref t), (.ref en)]))
  refine own_st (fun _ k => XS.dup X3.here hx rfl (hb hby d_own_addZ_127) rfl rfl k) ?_
  show own_Go p.tables e below F (T3.setTop (mkF m 128 #[.val (.ref t), .val (.ref xa), .val (.int bc), .val (.int (0 : Int32)), .unset, .unset, .unset] [(.ref t), (.ref t), (.ref en)]))
  obtain ⟨T4, X4, e4, st4⟩ := getF X3 hx hZ hown (host := "") (Or.inl (hw _ (List.mem_of_getElem? (i := 22) rfl))) Via.refl e3 Fs (g := (mkF m 128 #[.val (.ref t), .val (.ref xa), .val (.int bc), .val (.int (0 : Int32)), .unset, .unset, .unset] [(.ref t), (.ref t), (.ref en)])) rfl rfl (hb hby d_own_addZ_128)
  refine own_st st4 ?_
  show own_Go p.tables e below F (T4.setTop (mkF m 131 #[.val (.ref t), .val (.ref xa), .val (.int bc), .val (.int (0 : Int32)), .unset, .unset, .unset] [(.int sz), (.ref t), (.ref en)]))
  refine own_st (fun _ k => XS.dupX1 X4.here hx rfl (hb hby d_own_addZ_131) rfl rfl rfl k) ?_
  show own_Go p.tables e below F (T4.setTop (mkF m 132 #[.val (.ref t), .val (.ref xa), .val (.int bc), .val (.int (0 : Int32)), .unset, .unset, .unset] [(.int sz), (.ref t), (.int sz), (.ref en)]))
  refine own_st (fun _ k => XS.iconst X4.here hx rfl (hb hby d_own_addZ_132) k) ?_
  show own_Go p.tables e below F (T4.setTop (mkF m 133 #[.val (.ref t), .val (.ref xa), .val (.int bc), .val (.int (0 : Int32)), .unset, .unset, .unset] [(.int (1 : Int32)), (.int sz), (.ref t), (.int sz), (.ref en)]))
  refine own_st (fun _ k => XS.iadd X4.here hx rfl (hb hby d_own_addZ_133) rfl k) ?_
  show own_Go p.tables e below F (T4.setTop (mkF m 134 #[.val (.ref t), .val (.ref xa), .val (.int bc), .val (.int (0 : Int32)), .unset, .unset, .unset] [(.int (sz + (1 : Int32))), (.ref t), (.int sz), (.ref en)]))
  rw [← hs1]
  show own_Go p.tables e below F (T4.setTop (mkF m 134 #[.val (.ref t), .val (.ref xa), .val (.int bc), .val (.int (0 : Int32)), .unset, .unset, .unset] [(.int sz'), (.ref t), (.int sz), (.ref en)]))
  obtain ⟨T5, h5, X5, e5, W5, st5⟩ := putF X4 hx hZ hown (host := "") (Or.inl (hw _ (List.mem_of_getElem? (i := 22) rfl))) Via.refl e4 Fs Et (Or.inl (hw _ (List.mem_of_getElem? (i := 23) rfl))) (hw _ (List.mem_of_getElem? (i := 2) rfl)) (ty := .int) (by decide) rfl rfl (g := (mkF m 134 #[.val (.ref t), .val (.ref xa), .val (.int bc), .val (.int (0 : Int32)), .unset, .unset, .unset] [(.int sz'), (.ref t), (.int sz), (.ref en)])) rfl rfl (hb hby d_own_addZ_134)
  have Fw5 := Fs.same W5
  have Et__5 := Et.wr W5
  have Fp__5 := Fp.other W5 (Or.inr (slot_ne (Or.inl (hw _ (List.mem_of_getElem? (i := 13) rfl))) (Or.inl (hw _ (List.mem_of_getElem? (i := 23) rfl))) (by decide) (t := (.array (.array .byte))) (t' := .int) (by decide) (by decide)))
  have Fe__5 := Fe.other W5 (Or.inr (slot_ne (Or.inr (hw _ (List.mem_of_getElem? (i := 16) rfl))) (Or.inl (hw _ (List.mem_of_getElem? (i := 23) rfl))) (by decide) (t := (.array .int)) (t' := .int) (by decide) (by decide)))
  have Vp__5 := Vp.other W5 (Ne.symm ntp)
  have Ve__5 := Ve.other W5 (Ne.symm nte)
  have XBu__5 := XBu.other W5 nxt
  have KW_5 := (Keep.refl h0 [t, en]).wr W5 (Or.inl (List.mem_of_getElem? (i := 0) rfl))
  have N5 := Fr.snoc X5 N1 gn_t
  refine own_st st5 ?_
  show own_Go p.tables e below F (T5.setTop (mkF m 137 #[.val (.ref t), .val (.ref xa), .val (.int bc), .val (.int (0 : Int32)), .unset, .unset, .unset] [(.int sz), (.ref en)]))
  refine own_st (fun _ k => XS.iloadN X5.here hx rfl (hb hby d_own_addZ_137) rfl k) ?_
  show own_Go p.tables e below F (T5.setTop (mkF m 138 #[.val (.ref t), .val (.ref xa), .val (.int bc), .val (.int (0 : Int32)), .unset, .unset, .unset] [(.int bc), (.int sz), (.ref en)]))
  refine own_st (fun _ k => XS.aloadN X5.here hx rfl (hb hby d_own_addZ_138) rfl rfl k) ?_
  show own_Go p.tables e below F (T5.setTop (mkF m 139 #[.val (.ref t), .val (.ref xa), .val (.int bc), .val (.int (0 : Int32)), .unset, .unset, .unset] [(.ref xa), (.int bc), (.int sz), (.ref en)]))
  obtain ⟨cl6, Ar6, qc6, S6, Nn6, Hh6, Gg6⟩ := id XBu__5
  refine own_st (X5.arraylength hx (by rw [e5]; exact Ar6.1) (State.isArrayOf_alike hZ.alike Ar6.2.1) (g := (mkF m 139 #[.val (.ref t), .val (.ref xa), .val (.int bc), .val (.int (0 : Int32)), .unset, .unset, .unset] [(.ref xa), (.int bc), (.int sz), (.ref en)])) rfl rfl (hb hby d_own_addZ_139)) ?_
  rw [len_of S6 Nn6]
  show own_Go p.tables e below F (T5.setTop (mkF m 140 #[.val (.ref t), .val (.ref xa), .val (.int bc), .val (.int (0 : Int32)), .unset, .unset, .unset] [(.int z), (.int bc), (.int sz), (.ref en)]))
  refine own_st (fun _ k => XS.iadd X5.here hx rfl (hb hby d_own_addZ_140) rfl k) ?_
  show own_Go p.tables e below F (T5.setTop (mkF m 141 #[.val (.ref t), .val (.ref xa), .val (.int bc), .val (.int (0 : Int32)), .unset, .unset, .unset] [(.int (bc + z)), (.int sz), (.ref en)]))
  rw [← he]
  show own_Go p.tables e below F (T5.setTop (mkF m 141 #[.val (.ref t), .val (.ref xa), .val (.int bc), .val (.int (0 : Int32)), .unset, .unset, .unset] [(.int ee), (.int sz), (.ref en)]))
  obtain ⟨cl7, Ar7, qc7, S7, Nn7, Hh7, Gg7⟩ := id Ve__5
  have hin8 : ¬ (sz < 0 ∨ cl7.slots.size ≤ (sz).toNatClampNeg) := inb_of S7 hsz
  obtain ⟨T8, h8, X8, e8, W8, st8⟩ := stI X5 hx hZ e5 Ar7 (j := sz) hin8 (g := (mkF m 141 #[.val (.ref t), .val (.ref xa), .val (.int bc), .val (.int (0 : Int32)), .unset, .unset, .unset] [(.int ee), (.int sz), (.ref en)])) rfl rfl (hb hby d_own_addZ_141)
  have V8 : Arv Z h8 en kE .int (3 : Int32) (vs.set sz.toNatClampNeg (.int ee)) (.int (0 : Int32)) := Arv.set Ar7 qc7 S7 Nn7 Hh7 Gg7 rfl W8 sz.toNatClampNeg rfl (by rw [hlen]; exact own_in3 hsz)
  have Et__8 := Et__5.wr W8
  have Fp__8 := Fp__5.other W8 (Or.inl nte)
  have Fe__8 := Fe__5.other W8 (Or.inl nte)
  have Vp__8 := Vp__5.other W8 npe
  have XBu__8 := XBu__5.other W8 nxe
  have Fw5__8 := Fw5.other W8 (Or.inl nte)
  have KW_8 := KW_5.wr W8 (Or.inl (List.mem_of_getElem? (i := 1) rfl))
  have N8 := Fr.snoc X8 N5 gn_en
  refine own_st st8 ?_
  show own_Go p.tables e below F (T8.setTop (mkF m 142 #[.val (.ref t), .val (.ref xa), .val (.int bc), .val (.int (0 : Int32)), .unset, .unset, .unset] []))
  obtain ⟨fs, hrL, hrun, hended, hW, hsame⟩ := X8.leave (v := none) (fun _ => rfl)
  refine own_end hF (o := .returned none) (X8.returnOut hx Bd.returns (hb hby d_own_addZ_142) hrL) ?_
  refine ⟨hrun, hended, _, _, rfl, ?_, ⟨_, rfl⟩, hW, hsame.mono (by decide) (by decide)⟩
  have eh : T8.heap = h8 := e8
  show own_Qz Z t pg en kP kE sz' vs sz ee pv h0 n0 _ T8.heap _
  rw [eh]
  exact ⟨rfl, N8, KW_8, ⟨Et__8, Fp__8, Fe__8, Fw5__8, Vp__8, V8, Op⟩⟩
theorem d_own_addM_0 : decode prog_19_method_3_code 0 = .ok (.aload_n 0, 1) := by decide +kernel
theorem d_own_addM_1 : decode prog_19_method_3_code 1 = .ok (.invokevirtual 23, 3) := by decide +kernel
theorem d_own_addM_4 : decode prog_19_method_3_code 4 = .ok (.istore_n 2, 1) := by decide +kernel
theorem d_own_addM_5 : decode prog_19_method_3_code 5 = .ok (.iconst 0, 1) := by decide +kernel
theorem d_own_addM_6 : decode prog_19_method_3_code 6 = .ok (.istore_n 3, 1) := by decide +kernel
theorem d_own_addM_7 : decode prog_19_method_3_code 7 = .ok (.iload_n 3, 1) := by decide +kernel
theorem d_own_addM_8 : decode prog_19_method_3_code 8 = .ok (.aload_n 1, 1) := by decide +kernel
theorem d_own_addM_9 : decode prog_19_method_3_code 9 = .ok (.arraylength, 1) := by decide +kernel
theorem d_own_addM_10 : decode prog_19_method_3_code 10 = .ok (.if_icmp .ge 112, 3) := by decide +kernel
theorem d_own_addM_13 : decode prog_19_method_3_code 13 = .ok (.iload_n 2, 1) := by decide +kernel
theorem d_own_addM_14 : decode prog_19_method_3_code 14 = .ok (.iload_n 3, 1) := by decide +kernel
theorem d_own_addM_15 : decode prog_19_method_3_code 15 = .ok (.iadd, 1) := by decide +kernel
theorem d_own_addM_16 : decode prog_19_method_3_code 16 = .ok (.istore 4, 2) := by decide +kernel
theorem d_own_addM_18 : decode prog_19_method_3_code 18 = .ok (.iload 4, 2) := by decide +kernel
theorem d_own_addM_20 : decode prog_19_method_3_code 20 = .ok (.bipush 16, 2) := by decide +kernel
theorem d_own_addM_22 : decode prog_19_method_3_code 22 = .ok (.iushr, 1) := by decide +kernel
theorem d_own_addM_23 : decode prog_19_method_3_code 23 = .ok (.istore 5, 2) := by decide +kernel
theorem d_own_addM_25 : decode prog_19_method_3_code 25 = .ok (.iload 5, 2) := by decide +kernel
theorem d_own_addM_27 : decode prog_19_method_3_code 27 = .ok (.aload_n 0, 1) := by decide +kernel
theorem d_own_addM_28 : decode prog_19_method_3_code 28 = .ok (.getfield 11, 3) := by decide +kernel
theorem d_own_addM_31 : decode prog_19_method_3_code 31 = .ok (.arraylength, 1) := by decide +kernel
theorem d_own_addM_32 : decode prog_19_method_3_code 32 = .ok (.if_icmp .ne 25, 3) := by decide +kernel
theorem d_own_addM_57 : decode prog_19_method_3_code 57 = .ok (.aload_n 0, 1) := by decide +kernel
theorem d_own_addM_58 : decode prog_19_method_3_code 58 = .ok (.getfield 11, 3) := by decide +kernel
theorem d_own_addM_61 : decode prog_19_method_3_code 61 = .ok (.iload 5, 2) := by decide +kernel
theorem d_own_addM_63 : decode prog_19_method_3_code 63 = .ok (.aaload, 1) := by decide +kernel
theorem d_own_addM_64 : decode prog_19_method_3_code 64 = .ok (.ifnonnull 14, 3) := by decide +kernel
theorem d_own_addM_67 : decode prog_19_method_3_code 67 = .ok (.aload_n 0, 1) := by decide +kernel
theorem d_own_addM_68 : decode prog_19_method_3_code 68 = .ok (.getfield 11, 3) := by decide +kernel
theorem d_own_addM_71 : decode prog_19_method_3_code 71 = .ok (.iload 5, 2) := by decide +kernel
theorem d_own_addM_73 : decode prog_19_method_3_code 73 = .ok (.ldc 40, 2) := by decide +kernel
theorem d_own_addM_75 : decode prog_19_method_3_code 75 = .ok (.newarray .byte, 2) := by decide +kernel
theorem d_own_addM_77 : decode prog_19_method_3_code 77 = .ok (.aastore, 1) := by decide +kernel
theorem d_own_addM_78 : decode prog_19_method_3_code 78 = .ok (.aload_n 1, 1) := by decide +kernel
theorem d_own_addM_79 : decode prog_19_method_3_code 79 = .ok (.arraylength, 1) := by decide +kernel
theorem d_own_addM_80 : decode prog_19_method_3_code 80 = .ok (.iload_n 3, 1) := by decide +kernel
theorem d_own_addM_81 : decode prog_19_method_3_code 81 = .ok (.isub, 1) := by decide +kernel
theorem d_own_addM_82 : decode prog_19_method_3_code 82 = .ok (.ldc 40, 2) := by decide +kernel
theorem d_own_addM_84 : decode prog_19_method_3_code 84 = .ok (.iload 4, 2) := by decide +kernel
theorem d_own_addM_86 : decode prog_19_method_3_code 86 = .ok (.ldc 41, 2) := by decide +kernel
theorem d_own_addM_88 : decode prog_19_method_3_code 88 = .ok (.iand, 1) := by decide +kernel
theorem d_own_addM_89 : decode prog_19_method_3_code 89 = .ok (.isub, 1) := by decide +kernel
theorem d_own_addM_90 : decode prog_19_method_3_code 90 = .ok (.invokestatic 42, 3) := by decide +kernel
theorem d_own_addM_93 : decode prog_19_method_3_code 93 = .ok (.istore 6, 2) := by decide +kernel
theorem d_own_addM_95 : decode prog_19_method_3_code 95 = .ok (.aload_n 1, 1) := by decide +kernel
theorem d_own_addM_96 : decode prog_19_method_3_code 96 = .ok (.iload_n 3, 1) := by decide +kernel
theorem d_own_addM_97 : decode prog_19_method_3_code 97 = .ok (.aload_n 0, 1) := by decide +kernel
theorem d_own_addM_98 : decode prog_19_method_3_code 98 = .ok (.getfield 11, 3) := by decide +kernel
theorem d_own_addM_101 : decode prog_19_method_3_code 101 = .ok (.iload 5, 2) := by decide +kernel
theorem d_own_addM_103 : decode prog_19_method_3_code 103 = .ok (.aaload, 1) := by decide +kernel
theorem d_own_addM_104 : decode prog_19_method_3_code 104 = .ok (.iload 4, 2) := by decide +kernel
theorem d_own_addM_106 : decode prog_19_method_3_code 106 = .ok (.ldc 41, 2) := by decide +kernel
theorem d_own_addM_108 : decode prog_19_method_3_code 108 = .ok (.iand, 1) := by decide +kernel
theorem d_own_addM_109 : decode prog_19_method_3_code 109 = .ok (.iload 6, 2) := by decide +kernel
theorem d_own_addM_111 : decode prog_19_method_3_code 111 = .ok (.invokestatic 48, 3) := by decide +kernel
theorem d_own_addM_114 : decode prog_19_method_3_code 114 = .ok (.iload_n 3, 1) := by decide +kernel
theorem d_own_addM_115 : decode prog_19_method_3_code 115 = .ok (.iload 6, 2) := by decide +kernel
theorem d_own_addM_117 : decode prog_19_method_3_code 117 = .ok (.iadd, 1) := by decide +kernel
theorem d_own_addM_118 : decode prog_19_method_3_code 118 = .ok (.istore_n 3, 1) := by decide +kernel
theorem d_own_addM_119 : decode prog_19_method_3_code 119 = .ok (.goto (-112), 3) := by decide +kernel
theorem d_own_addM_122 : decode prog_19_method_3_code 122 = .ok (.aload_n 0, 1) := by decide +kernel
theorem d_own_addM_123 : decode prog_19_method_3_code 123 = .ok (.getfield 15, 3) := by decide +kernel
theorem d_own_addM_126 : decode prog_19_method_3_code 126 = .ok (.aload_n 0, 1) := by decide +kernel
theorem d_own_addM_127 : decode prog_19_method_3_code 127 = .ok (.dup, 1) := by decide +kernel
theorem d_own_addM_128 : decode prog_19_method_3_code 128 = .ok (.getfield 19, 3) := by decide +kernel
theorem d_own_addM_131 : decode prog_19_method_3_code 131 = .ok (.dup_x1, 1) := by decide +kernel
theorem d_own_addM_132 : decode prog_19_method_3_code 132 = .ok (.iconst 1, 1) := by decide +kernel
theorem d_own_addM_133 : decode prog_19_method_3_code 133 = .ok (.iadd, 1) := by decide +kernel
theorem d_own_addM_134 : decode prog_19_method_3_code 134 = .ok (.putfield 19, 3) := by decide +kernel
theorem d_own_addM_137 : decode prog_19_method_3_code 137 = .ok (.iload_n 2, 1) := by decide +kernel
theorem d_own_addM_138 : decode prog_19_method_3_code 138 = .ok (.aload_n 1, 1) := by decide +kernel
theorem d_own_addM_139 : decode prog_19_method_3_code 139 = .ok (.arraylength, 1) := by decide +kernel
theorem d_own_addM_140 : decode prog_19_method_3_code 140 = .ok (.iadd, 1) := by decide +kernel
theorem d_own_addM_141 : decode prog_19_method_3_code 141 = .ok (.iastore, 1) := by decide +kernel
theorem d_own_addM_142 : decode prog_19_method_3_code 142 = .ok (.return_, 1) := by decide +kernel
theorem pd_1 : parseMethodDescriptor "(II)I" = some ⟨[.int, .int], some .int⟩ := by decide +kernel
set_option maxRecDepth 65536 in
set_option maxHeartbeats 40000000 in
theorem own_addM (l : Launch) (Z : State) (a0 : Array Value) (hw : ∀ d ∈ tables_1, d.before a0 Z = true) (ws : List Jvm.Cond) (t pg en xa : Addr) (kP kE kx : ClassId) (sz sz' bc z ee : Int32) (vs vx : List Value) (h0 : Heap) (n0 : Nat) (Z0 : n0 ≤ h0.size) (hcal : own_Met l Z (⟨"com/example/libmerit/libmerit/index/DocnoTable", "byteCount", "()I"⟩ : MethodName) prog_19_method_2_code 1 (some .int) [] ({ frames := 0, cells := 0, slots := 0, locals := 0 } : Room) #[(.ref t)] h0 (own_Qp (.int bc) h0 n0)) (hbc : own_B bc) (hz : own_S z) (XBu : Arv Z h0 xa kx .byte z vx (.int (0 : Int32))) (hlen : vs.length = 3) (hsz : ¬ sz < 0 ∧ sz < (3 : Int32)) (hs1 : sz' = sz + (1 : Int32)) (he : ee = bc + z) (gn_t : n0 ≤ t) (gn_pg : n0 ≤ pg) (gn_en : n0 ≤ en) (nte : t ≠ en) (ntp : t ≠ pg) (npe : pg ≠ en) (nxt : xa ≠ t) (nxp : xa ≠ pg) (nxe : xa ≠ en) (hpos : (0 : Int32) < z) (TBu : own_T Z h0 t pg en kP kE sz vs .null) :
    own_Met l Z (⟨"com/example/libmerit/libmerit/index/DocnoTable", "add", "([B)V"⟩ : MethodName) prog_19_method_3_code 7 none ws ({ frames := 1, cells := 1, slots := 65536, locals := 40 } : Room) #[(.ref t), (.ref xa)] h0 (own_Qm Z t pg en kP kE sz' vs sz ee  h0 n0) := by
  refine MetFree.of_bodySF (plainFor_of_name pn_com_example_libmerit_libmerit_index_DocnoTable) hisR ?_
  intro p e s m args below meth c s₁ Bd hml0 hP hK
  obtain ⟨rfl, hZ, hh⟩ := hP
  have hx := Bd.exec
  have hby := Bd.bytes
  have hml : c.maxLocals = 7 := hml0
  have hown : s.vm.findClass "com/example/libmerit/libmerit/index/DocnoTable" = some m.cls := findClass_of_methodNamed Bd.named
  have hnm := (name_of_methodNamed Bd.named Bd.method).1
  have X0 : Stand p l e ({ frames := 1, cells := 1, slots := 65536, locals := 40 } : Room) s m #[(.ref t), (.ref xa)] below meth c s₁ [] 0 0 := Stand.of_body Bd
  have e0 : s₁.heap = h0 := by rw [← hh, Bd.state]; rfl
  have N0 := Fr.nil n0
  have hst : entryFrame m #[(.ref t), (.ref xa)] 7 = mkF m 0 #[.val (.ref t), .val (.ref xa), .unset, .unset, .unset, .unset, .unset] [] := by first | (simp [entryFrame, mkF, argsToLocals, Value.category, maxLocals]; done) | rfl
  obtain ⟨F, hF⟩ : ∃ F : State → Outcome → Prop, F = fun s₂ o => (s₂.status = .running ∧ Ended s₂ below o ∧ ∃ v L, o = .returned v ∧ (own_Qm Z t pg en kP kE sz' vs sz ee  h0 n0) v s₂.heap L ∧ FrameEnd s o s₂ L (Room.cells ({ frames := 1, cells := 1, slots := 65536, locals := 40 } : Room)) (Room.slots ({ frames := 1, cells := 1, slots := 65536, locals := 40 } : Room))) := ⟨_, rfl⟩
  suffices G : own_Go p.tables e below F (s₁.setTop (mkF m 0 #[.val (.ref t), .val (.ref xa), .unset, .unset, .unset, .unset, .unset] [])) by
    obtain ⟨t, o, a, b⟩ := G
    rw [hF] at b
    exact ⟨t, o, castTop hst a, b⟩
  show own_Go p.tables e below F (s₁.setTop (mkF m 0 #[.val (.ref t), .val (.ref xa), .unset, .unset, .unset, .unset, .unset] []))
  obtain ⟨Et, Fp, Fe, Fs, Vp, Ve, Op⟩ := id TBu
  refine own_st (fun _ k => XS.aloadN X0.here hx rfl (hb hby d_own_addM_0) rfl rfl k) ?_
  show own_Go p.tables e below F (s₁.setTop (mkF m 1 #[.val (.ref t), .val (.ref xa), .unset, .unset, .unset, .unset, .unset] [(.ref t)]))
  obtain ⟨cq1, kq1, q1a, q1b, q1c⟩ := isOf hZ e0 Et
  obtain ⟨_, _, ⟨T1, L1, k1, n1⟩, -, X1, ⟨Lc1, hQ1, l1, y1, z1⟩, st1⟩ := X0.virtualBack hx (y := (⟨"com/example/libmerit/libmerit/index/DocnoTable", "byteCount", "()I"⟩ : MethodName)) (z := (⟨"com/example/libmerit/libmerit/index/DocnoTable", "byteCount", "()I"⟩ : MethodName)) hown (mvT hZ (hw _ (List.mem_of_getElem? (i := 29) rfl))) (mvT hZ (hw _ (List.mem_of_getElem? (i := 18) rfl))) (notFace_of_selects (args := #[]) (mvT hZ (hw _ (List.mem_of_getElem? (i := 20) rfl)))) (mvT hZ (hw _ (List.mem_of_getElem? (i := 20) rfl))) (mvT hZ (hw _ (List.mem_of_getElem? (i := 19) rfl))) (by decide) (backOf (W := 0) (hcal) hZ (hw _ (List.mem_of_getElem? (i := 21) rfl)) (hw _ (List.mem_of_getElem? (i := 3) rfl)) (by decide) (by decide)) q1a q1c (g := (mkF m 1 #[.val (.ref t), .val (.ref xa), .unset, .unset, .unset, .unset, .unset] [(.ref t)])) rfl (by rw [hml]; rfl) (Steps.refl _) (argsL := []) (rest := []) (lenOf pd_0 rfl) rfl (by show 2 * 0 + _ ≤ _; exact Nat.le_of_eq rfl) (hb hby d_own_addM_1) (fun _ _ => ⟨rfl, e0, (by decide : 0 + 0 ≤ _), (by decide : 0 + 0 ≤ _)⟩)
  dsimp only [Pt.U, Pt.locs, Pt.cells, Pt.slots] at X1 l1 y1 z1 st1 hQ1
  subst l1 y1 z1
  obtain ⟨rfl, N1q, e1⟩ := hQ1
  have N1 := Fr.app N0 N1q
  refine own_st (fun _ k => st1.trans k) ?_
  show own_Go p.tables e below F (T1.setTop (mkF m 4 #[.val (.ref t), .val (.ref xa), .unset, .unset, .unset, .unset, .unset] [(.int bc)]))
  refine own_st (fun _ k => XS.istoreN X1.here hx rfl (hb hby d_own_addM_4) rfl (l' := #[.val (.ref t), .val (.ref xa), .val (.int bc), .unset, .unset, .unset, .unset]) rfl k) ?_
  show own_Go p.tables e below F (T1.setTop (mkF m 5 #[.val (.ref t), .val (.ref xa), .val (.int bc), .unset, .unset, .unset, .unset] []))
  refine own_st (fun _ k => XS.iconst X1.here hx rfl (hb hby d_own_addM_5) k) ?_
  show own_Go p.tables e below F (T1.setTop (mkF m 6 #[.val (.ref t), .val (.ref xa), .val (.int bc), .unset, .unset, .unset, .unset] [(.int (0 : Int32))]))
  refine own_st (fun _ k => XS.istoreN X1.here hx rfl (hb hby d_own_addM_6) rfl (l' := #[.val (.ref t), .val (.ref xa), .val (.int bc), .val (.int (0 : Int32)), .unset, .unset, .unset]) rfl k) ?_
  show own_Go p.tables e below F (T1.setTop (mkF m 7 #[.val (.ref t), .val (.ref xa), .val (.int bc), .val (.int (0 : Int32)), .unset, .unset, .unset] []))
  refine own_st (fun _ k => XS.iloadN X1.here hx rfl (hb hby d_own_addM_7) rfl k) ?_
  show own_Go p.tables e below F (T1.setTop (mkF m 8 #[.val (.ref t), .val (.ref xa), .val (.int bc), .val (.int (0 : Int32)), .unset, .unset, .unset] [(.int (0 : Int32))]))
  refine own_st (fun _ k => XS.aloadN X1.here hx rfl (hb hby d_own_addM_8) rfl rfl k) ?_
  show own_Go p.tables e below F (T1.setTop (mkF m 9 #[.val (.ref t), .val (.ref xa), .val (.int bc), .val (.int (0 : Int32)), .unset, .unset, .unset] [(.ref xa), (.int (0 : Int32))]))
  obtain ⟨cl2, Ar2, qc2, S2, Nn2, Hh2, Gg2⟩ := id XBu
  refine own_st (X1.arraylength hx (by rw [e1]; exact Ar2.1) (State.isArrayOf_alike hZ.alike Ar2.2.1) (g := (mkF m 9 #[.val (.ref t), .val (.ref xa), .val (.int bc), .val (.int (0 : Int32)), .unset, .unset, .unset] [(.ref xa), (.int (0 : Int32))])) rfl rfl (hb hby d_own_addM_9)) ?_
  rw [len_of S2 Nn2]
  show own_Go p.tables e below F (T1.setTop (mkF m 10 #[.val (.ref t), .val (.ref xa), .val (.int bc), .val (.int (0 : Int32)), .unset, .unset, .unset] [(.int z), (.int (0 : Int32))]))
  refine own_st (fun _ k => XS.icmpNo X1.here hx rfl (hb hby d_own_addM_10) rfl (tlt hpos).2.1 k) ?_
  show own_Go p.tables e below F (T1.setTop (mkF m 13 #[.val (.ref t), .val (.ref xa), .val (.int bc), .val (.int (0 : Int32)), .unset, .unset, .unset] []))
  refine own_st (fun _ k => XS.iloadN X1.here hx rfl (hb hby d_own_addM_13) rfl k) ?_
  show own_Go p.tables e below F (T1.setTop (mkF m 14 #[.val (.ref t), .val (.ref xa), .val (.int bc), .val (.int (0 : Int32)), .unset, .unset, .unset] [(.int bc)]))
  refine own_st (fun _ k => XS.iloadN X1.here hx rfl (hb hby d_own_addM_14) rfl k) ?_
  show own_Go p.tables e below F (T1.setTop (mkF m 15 #[.val (.ref t), .val (.ref xa), .val (.int bc), .val (.int (0 : Int32)), .unset, .unset, .unset] [(.int (0 : Int32)), (.int bc)]))
  refine own_st (fun _ k => XS.iadd X1.here hx rfl (hb hby d_own_addM_15) rfl k) ?_
  show own_Go p.tables e below F (T1.setTop (mkF m 16 #[.val (.ref t), .val (.ref xa), .val (.int bc), .val (.int (0 : Int32)), .unset, .unset, .unset] [(.int (bc + (0 : Int32)))]))
  refine own_st (fun _ k => XS.istore X1.here hx rfl (hb hby d_own_addM_16) rfl (l' := #[.val (.ref t), .val (.ref xa), .val (.int bc), .val (.int (0 : Int32)), .val (.int (bc + (0 : Int32))), .unset, .unset]) rfl k) ?_
  show own_Go p.tables e below F (T1.setTop (mkF m 18 #[.val (.ref t), .val (.ref xa), .val (.int bc), .val (.int (0 : Int32)), .val (.int (bc + (0 : Int32))), .unset, .unset] []))
  rw [Int32.add_zero bc]
  show own_Go p.tables e below F (T1.setTop (mkF m 18 #[.val (.ref t), .val (.ref xa), .val (.int bc), .val (.int (0 : Int32)), .val (.int bc), .unset, .unset] []))
  refine own_st (fun _ k => XS.iload X1.here hx rfl (hb hby d_own_addM_18) rfl k) ?_
  show own_Go p.tables e below F (T1.setTop (mkF m 20 #[.val (.ref t), .val (.ref xa), .val (.int bc), .val (.int (0 : Int32)), .val (.int bc), .unset, .unset] [(.int bc)]))
  refine own_st (fun _ k => XS.bipush X1.here hx rfl (hb hby d_own_addM_20) k) ?_
  show own_Go p.tables e below F (T1.setTop (mkF m 22 #[.val (.ref t), .val (.ref xa), .val (.int bc), .val (.int (0 : Int32)), .val (.int bc), .unset, .unset] [(.int (16 : Int32)), (.int bc)]))
  refine own_st (fun _ k => XS.iushr X1.here hx rfl (hb hby d_own_addM_22) rfl k) ?_
  show own_Go p.tables e below F (T1.setTop (mkF m 23 #[.val (.ref t), .val (.ref xa), .val (.int bc), .val (.int (0 : Int32)), .val (.int bc), .unset, .unset] [(.int ((bc.toUInt32 >>> ((16 : Int32) &&& 31).toUInt32).toInt32))]))
  refine own_st (fun _ k => XS.istore X1.here hx rfl (hb hby d_own_addM_23) rfl (l' := #[.val (.ref t), .val (.ref xa), .val (.int bc), .val (.int (0 : Int32)), .val (.int bc), .val (.int ((bc.toUInt32 >>> ((16 : Int32) &&& 31).toUInt32).toInt32)), .unset]) rfl k) ?_
  show own_Go p.tables e below F (T1.setTop (mkF m 25 #[.val (.ref t), .val (.ref xa), .val (.int bc), .val (.int (0 : Int32)), .val (.int bc), .val (.int ((bc.toUInt32 >>> ((16 : Int32) &&& 31).toUInt32).toInt32)), .unset] []))
  rw [own_page hbc]
  show own_Go p.tables e below F (T1.setTop (mkF m 25 #[.val (.ref t), .val (.ref xa), .val (.int bc), .val (.int (0 : Int32)), .val (.int bc), .val (.int (0 : Int32)), .unset] []))
  refine own_st (fun _ k => XS.iload X1.here hx rfl (hb hby d_own_addM_25) rfl k) ?_
  show own_Go p.tables e below F (T1.setTop (mkF m 27 #[.val (.ref t), .val (.ref xa), .val (.int bc), .val (.int (0 : Int32)), .val (.int bc), .val (.int (0 : Int32)), .unset] [(.int (0 : Int32))]))
  refine own_st (fun _ k => XS.aloadN X1.here hx rfl (hb hby d_own_addM_27) rfl rfl k) ?_
  show own_Go p.tables e below F (T1.setTop (mkF m 28 #[.val (.ref t), .val (.ref xa), .val (.int bc), .val (.int (0 : Int32)), .val (.int bc), .val (.int (0 : Int32)), .unset] [(.ref t), (.int (0 : Int32))]))
  obtain ⟨T3, X3, e3, st3⟩ := getF X1 hx hZ hown (host := "") (Or.inl (hw _ (List.mem_of_getElem? (i := 12) rfl))) Via.refl e1 Fp (g := (mkF m 28 #[.val (.ref t), .val (.ref xa), .val (.int bc), .val (.int (0 : Int32)), .val (.int bc), .val (.int (0 : Int32)), .unset] [(.ref t), (.int (0 : Int32))])) rfl rfl (hb hby d_own_addM_28)
  refine own_st st3 ?_
  show own_Go p.tables e below F (T3.setTop (mkF m 31 #[.val (.ref t), .val (.ref xa), .val (.int bc), .val (.int (0 : Int32)), .val (.int bc), .val (.int (0 : Int32)), .unset] [(.ref pg), (.int (0 : Int32))]))
  obtain ⟨cl4, Ar4, qc4, S4, Nn4, Hh4, Gg4⟩ := id Vp
  refine own_st (X3.arraylength hx (by rw [e3]; exact Ar4.1) (State.isArrayOf_alike hZ.alike Ar4.2.1) (g := (mkF m 31 #[.val (.ref t), .val (.ref xa), .val (.int bc), .val (.int (0 : Int32)), .val (.int bc), .val (.int (0 : Int32)), .unset] [(.ref pg), (.int (0 : Int32))])) rfl rfl (hb hby d_own_addM_31)) ?_
  rw [len_of S4 Nn4]
  show own_Go p.tables e below F (T3.setTop (mkF m 32 #[.val (.ref t), .val (.ref xa), .val (.int bc), .val (.int (0 : Int32)), .val (.int bc), .val (.int (0 : Int32)), .unset] [(.int (1 : Int32)), (.int (0 : Int32))]))
  refine own_st (fun _ k => XS.icmpYes X3.here hx rfl (pc0 := 32) (pc' := 57) rfl (hb hby d_own_addM_32) rfl (feq (by decide : ¬ ((0 : Int32) = (1 : Int32)))).2 (by decide) (by decide) k) ?_
  show own_Go p.tables e below F (T3.setTop (mkF m 57 #[.val (.ref t), .val (.ref xa), .val (.int bc), .val (.int (0 : Int32)), .val (.int bc), .val (.int (0 : Int32)), .unset] []))
  refine own_st (fun _ k => XS.aloadN X3.here hx rfl (hb hby d_own_addM_57) rfl rfl k) ?_
  show own_Go p.tables e below F (T3.setTop (mkF m 58 #[.val (.ref t), .val (.ref xa), .val (.int bc), .val (.int (0 : Int32)), .val (.int bc), .val (.int (0 : Int32)), .unset] [(.ref t)]))
  obtain ⟨T5, X5, e5, st5⟩ := getF X3 hx hZ hown (host := "") (Or.inl (hw _ (List.mem_of_getElem? (i := 12) rfl))) Via.refl e3 Fp (g := (mkF m 58 #[.val (.ref t), .val (.ref xa), .val (.int bc), .val (.int (0 : Int32)), .val (.int bc), .val (.int (0 : Int32)), .unset] [(.ref t)])) rfl rfl (hb hby d_own_addM_58)
  refine own_st st5 ?_
  show own_Go p.tables e below F (T5.setTop (mkF m 61 #[.val (.ref t), .val (.ref xa), .val (.int bc), .val (.int (0 : Int32)), .val (.int bc), .val (.int (0 : Int32)), .unset] [(.ref pg)]))
  refine own_st (fun _ k => XS.iload X5.here hx rfl (hb hby d_own_addM_61) rfl k) ?_
  show own_Go p.tables e below F (T5.setTop (mkF m 63 #[.val (.ref t), .val (.ref xa), .val (.int bc), .val (.int (0 : Int32)), .val (.int bc), .val (.int (0 : Int32)), .unset] [(.int (0 : Int32)), (.ref pg)]))
  obtain ⟨cl6, Ar6, qc6, S6, Nn6, Hh6, Gg6⟩ := id Vp
  have hin7 : ¬ ((0 : Int32) < 0 ∨ cl6.slots.size ≤ ((0 : Int32)).toNatClampNeg) := inb_of S6 ⟨by decide, by decide⟩
  refine own_st (X5.aaload hx (j := (0 : Int32)) (v := .null) (by rw [e5]; exact Ar6.1) (State.isArrayOf_alike hZ.alike Ar6.2.1) rfl Ar6.2.2 hin7 (Has.at Hh6 hin7 rfl) (g := (mkF m 63 #[.val (.ref t), .val (.ref xa), .val (.int bc), .val (.int (0 : Int32)), .val (.int bc), .val (.int (0 : Int32)), .unset] [(.int (0 : Int32)), (.ref pg)])) rfl rfl (hb hby d_own_addM_63)) ?_
  show own_Go p.tables e below F (T5.setTop (mkF m 64 #[.val (.ref t), .val (.ref xa), .val (.int bc), .val (.int (0 : Int32)), .val (.int bc), .val (.int (0 : Int32)), .unset] [.null]))
  refine own_st (fun _ k => XS.ifnonnullNo X5.here hx rfl (hb hby d_own_addM_64) rfl k) ?_
  show own_Go p.tables e below F (T5.setTop (mkF m 67 #[.val (.ref t), .val (.ref xa), .val (.int bc), .val (.int (0 : Int32)), .val (.int bc), .val (.int (0 : Int32)), .unset] []))
  refine own_st (fun _ k => XS.aloadN X5.here hx rfl (hb hby d_own_addM_67) rfl rfl k) ?_
  show own_Go p.tables e below F (T5.setTop (mkF m 68 #[.val (.ref t), .val (.ref xa), .val (.int bc), .val (.int (0 : Int32)), .val (.int bc), .val (.int (0 : Int32)), .unset] [(.ref t)]))
  obtain ⟨T8, X8, e8, st8⟩ := getF X5 hx hZ hown (host := "") (Or.inl (hw _ (List.mem_of_getElem? (i := 12) rfl))) Via.refl e5 Fp (g := (mkF m 68 #[.val (.ref t), .val (.ref xa), .val (.int bc), .val (.int (0 : Int32)), .val (.int bc), .val (.int (0 : Int32)), .unset] [(.ref t)])) rfl rfl (hb hby d_own_addM_68)
  refine own_st st8 ?_
  show own_Go p.tables e below F (T8.setTop (mkF m 71 #[.val (.ref t), .val (.ref xa), .val (.int bc), .val (.int (0 : Int32)), .val (.int bc), .val (.int (0 : Int32)), .unset] [(.ref pg)]))
  refine own_st (fun _ k => XS.iload X8.here hx rfl (hb hby d_own_addM_71) rfl k) ?_
  show own_Go p.tables e below F (T8.setTop (mkF m 73 #[.val (.ref t), .val (.ref xa), .val (.int bc), .val (.int (0 : Int32)), .val (.int bc), .val (.int (0 : Int32)), .unset] [(.int (0 : Int32)), (.ref pg)]))
  refine own_st (X8.ldcInt hx hown (mvT hZ (hw _ (List.mem_of_getElem? (i := 30) rfl))) (g := (mkF m 73 #[.val (.ref t), .val (.ref xa), .val (.int bc), .val (.int (0 : Int32)), .val (.int bc), .val (.int (0 : Int32)), .unset] [(.int (0 : Int32)), (.ref pg)])) rfl (hb hby d_own_addM_73)) ?_
  show own_Go p.tables e below F (T8.setTop (mkF m 75 #[.val (.ref t), .val (.ref xa), .val (.int bc), .val (.int (0 : Int32)), .val (.int bc), .val (.int (0 : Int32)), .unset] [(.int (65536 : Int32)), (.int (0 : Int32)), (.ref pg)]))
  obtain ⟨T9, h9, k9, X9, e9, E9, A9, Ex9, st9⟩ := newPE X8 hx hZ (hw _ (List.mem_of_getElem? (i := 0) rfl)) e8 (g := (mkF m 75 #[.val (.ref t), .val (.ref xa), .val (.int bc), .val (.int (0 : Int32)), .val (.int bc), .val (.int (0 : Int32)), .unset] [(.int (65536 : Int32)), (.int (0 : Int32)), (.ref pg)])) rfl (hb hby d_own_addM_75) rfl (by decide) (cap := 65536) (by decide) (by decide) (by decide) (by decide) (ad := "[B") (by decide)
  obtain ⟨b9, g9⟩ : ∃ z, z = h0.size := ⟨_, rfl⟩
  rw [← g9] at A9 st9 Ex9
  have sz_b9 : h0.size ≤ b9 := Nat.le_trans own_ext_refl.1 (Nat.le_of_eq g9.symm)
  have gn_b9 : n0 ≤ b9 := Nat.le_trans Z0 sz_b9
  have ne_t_b9 : t ≠ b9 := Nat.ne_of_lt (Nat.lt_of_lt_of_le Et.lt (Nat.le_of_eq g9.symm))
  have ne_pg_b9 : pg ≠ b9 := Nat.ne_of_lt (Nat.lt_of_lt_of_le Vp.lt (Nat.le_of_eq g9.symm))
  have ne_en_b9 : en ≠ b9 := Nat.ne_of_lt (Nat.lt_of_lt_of_le Ve.lt (Nat.le_of_eq g9.symm))
  have ne_xa_b9 : xa ≠ b9 := Nat.ne_of_lt (Nat.lt_of_lt_of_le XBu.lt (Nat.le_of_eq g9.symm))
  have Et__9 := Et.ext E9
  have Fp__9 := Fp.ext E9
  have Fe__9 := Fe.ext E9
  have Fs__9 := Fs.ext E9
  have Vp__9 := Vp.ext E9
  have Ve__9 := Ve.ext E9
  have XBu__9 := XBu.ext E9
  have KW_9 := (Keep.refl h0 [t, pg, en]).ext E9
  have K0_9 := own_ext_ext own_ext_refl E9
  have V9 : Arv Z h9 b9 k9 .byte (65536 : Int32) [] (.int (0 : Int32)) := Arv.new A9 (by decide)
  refine own_st st9 ?_
  show own_Go p.tables e below F (T9.setTop (mkF m 77 #[.val (.ref t), .val (.ref xa), .val (.int bc), .val (.int (0 : Int32)), .val (.int bc), .val (.int (0 : Int32)), .unset] [(.ref b9), (.int (0 : Int32)), (.ref pg)]))
  obtain ⟨cl10, Ar10, qc10, S10, Nn10, Hh10, Gg10⟩ := id Vp__9
  have hin11 : ¬ ((0 : Int32) < 0 ∨ cl10.slots.size ≤ ((0 : Int32)).toNatClampNeg) := inb_of S10 ⟨by decide, by decide⟩
  obtain ⟨T11, h11, X11, e11, W11, st11⟩ := stR X9 hx hZ e9 Ar10 (j := (0 : Int32)) hin11 rfl (Sto.ofVA Ar10 qc10 Op (Ins.self Ex9)) (g := (mkF m 77 #[.val (.ref t), .val (.ref xa), .val (.int bc), .val (.int (0 : Int32)), .val (.int bc), .val (.int (0 : Int32)), .unset] [(.ref b9), (.int (0 : Int32)), (.ref pg)])) rfl rfl (hb hby d_own_addM_77)
  have V11 : Arv Z h11 pg kP (.array .byte) (1 : Int32) [(.ref b9)] .null := Arv.set Ar10 qc10 S10 Nn10 Hh10 Gg10 rfl W11 0 rfl (Nat.le_of_ble_eq_true rfl)
  have Et__11 := Et__9.wr W11
  have Fp__11 := Fp__9.other W11 (Or.inl ntp)
  have Fe__11 := Fe__9.other W11 (Or.inl ntp)
  have Fs__11 := Fs__9.other W11 (Or.inl ntp)
  have Ve__11 := Ve__9.other W11 (Ne.symm npe)
  have XBu__11 := XBu__9.other W11 nxp
  have V9__11 := V9.other W11 (Ne.symm ne_pg_b9)
  have Ex9__11 := Ex9.wr W11
  have KW_11 := KW_9.wr W11 (Or.inl (List.mem_of_getElem? (i := 1) rfl))
  have N11 := Fr.snoc X11 N1 gn_pg
  refine own_st st11 ?_
  show own_Go p.tables e below F (T11.setTop (mkF m 78 #[.val (.ref t), .val (.ref xa), .val (.int bc), .val (.int (0 : Int32)), .val (.int bc), .val (.int (0 : Int32)), .unset] []))
  refine own_st (fun _ k => XS.aloadN X11.here hx rfl (hb hby d_own_addM_78) rfl rfl k) ?_
  show own_Go p.tables e below F (T11.setTop (mkF m 79 #[.val (.ref t), .val (.ref xa), .val (.int bc), .val (.int (0 : Int32)), .val (.int bc), .val (.int (0 : Int32)), .unset] [(.ref xa)]))
  obtain ⟨cl12, Ar12, qc12, S12, Nn12, Hh12, Gg12⟩ := id XBu__11
  refine own_st (X11.arraylength hx (by rw [e11]; exact Ar12.1) (State.isArrayOf_alike hZ.alike Ar12.2.1) (g := (mkF m 79 #[.val (.ref t), .val (.ref xa), .val (.int bc), .val (.int (0 : Int32)), .val (.int bc), .val (.int (0 : Int32)), .unset] [(.ref xa)])) rfl rfl (hb hby d_own_addM_79)) ?_
  rw [len_of S12 Nn12]
  show own_Go p.tables e below F (T11.setTop (mkF m 80 #[.val (.ref t), .val (.ref xa), .val (.int bc), .val (.int (0 : Int32)), .val (.int bc), .val (.int (0 : Int32)), .unset] [(.int z)]))
  refine own_st (fun _ k => XS.iloadN X11.here hx rfl (hb hby d_own_addM_80) rfl k) ?_
  show own_Go p.tables e below F (T11.setTop (mkF m 81 #[.val (.ref t), .val (.ref xa), .val (.int bc), .val (.int (0 : Int32)), .val (.int bc), .val (.int (0 : Int32)), .unset] [(.int (0 : Int32)), (.int z)]))
  refine own_st (fun _ k => XS.isub X11.here hx rfl (hb hby d_own_addM_81) rfl k) ?_
  show own_Go p.tables e below F (T11.setTop (mkF m 82 #[.val (.ref t), .val (.ref xa), .val (.int bc), .val (.int (0 : Int32)), .val (.int bc), .val (.int (0 : Int32)), .unset] [(.int (z - (0 : Int32)))]))
  rw [Int32.sub_zero z]
  show own_Go p.tables e below F (T11.setTop (mkF m 82 #[.val (.ref t), .val (.ref xa), .val (.int bc), .val (.int (0 : Int32)), .val (.int bc), .val (.int (0 : Int32)), .unset] [(.int z)]))
  refine own_st (X11.ldcInt hx hown (mvT hZ (hw _ (List.mem_of_getElem? (i := 30) rfl))) (g := (mkF m 82 #[.val (.ref t), .val (.ref xa), .val (.int bc), .val (.int (0 : Int32)), .val (.int bc), .val (.int (0 : Int32)), .unset] [(.int z)])) rfl (hb hby d_own_addM_82)) ?_
  show own_Go p.tables e below F (T11.setTop (mkF m 84 #[.val (.ref t), .val (.ref xa), .val (.int bc), .val (.int (0 : Int32)), .val (.int bc), .val (.int (0 : Int32)), .unset] [(.int (65536 : Int32)), (.int z)]))
  refine own_st (fun _ k => XS.iload X11.here hx rfl (hb hby d_own_addM_84) rfl k) ?_
  show own_Go p.tables e below F (T11.setTop (mkF m 86 #[.val (.ref t), .val (.ref xa), .val (.int bc), .val (.int (0 : Int32)), .val (.int bc), .val (.int (0 : Int32)), .unset] [(.int bc), (.int (65536 : Int32)), (.int z)]))
  refine own_st (X11.ldcInt hx hown (mvT hZ (hw _ (List.mem_of_getElem? (i := 32) rfl))) (g := (mkF m 86 #[.val (.ref t), .val (.ref xa), .val (.int bc), .val (.int (0 : Int32)), .val (.int bc), .val (.int (0 : Int32)), .unset] [(.int bc), (.int (65536 : Int32)), (.int z)])) rfl (hb hby d_own_addM_86)) ?_
  show own_Go p.tables e below F (T11.setTop (mkF m 88 #[.val (.ref t), .val (.ref xa), .val (.int bc), .val (.int (0 : Int32)), .val (.int bc), .val (.int (0 : Int32)), .unset] [(.int (65535 : Int32)), (.int bc), (.int (65536 : Int32)), (.int z)]))
  refine own_st (fun _ k => XS.iand X11.here hx rfl (hb hby d_own_addM_88) rfl k) ?_
  show own_Go p.tables e below F (T11.setTop (mkF m 89 #[.val (.ref t), .val (.ref xa), .val (.int bc), .val (.int (0 : Int32)), .val (.int bc), .val (.int (0 : Int32)), .unset] [(.int (bc &&& (65535 : Int32))), (.int (65536 : Int32)), (.int z)]))
  rw [own_low hbc]
  show own_Go p.tables e below F (T11.setTop (mkF m 89 #[.val (.ref t), .val (.ref xa), .val (.int bc), .val (.int (0 : Int32)), .val (.int bc), .val (.int (0 : Int32)), .unset] [(.int bc), (.int (65536 : Int32)), (.int z)]))
  refine own_st (fun _ k => XS.isub X11.here hx rfl (hb hby d_own_addM_89) rfl k) ?_
  show own_Go p.tables e below F (T11.setTop (mkF m 90 #[.val (.ref t), .val (.ref xa), .val (.int bc), .val (.int (0 : Int32)), .val (.int bc), .val (.int (0 : Int32)), .unset] [(.int ((65536 : Int32) - bc)), (.int z)]))
  obtain ⟨_, _, ⟨T13, L13, k13, n13⟩, -, X13, ⟨Lc13, hQ13, l13, y13, z13⟩, st13⟩ := Jvm.LawKit.callS X11 hx (y := (⟨"java/lang/Math", "min", "(II)I"⟩ : MethodName)) hown (mvT hZ (hw _ (List.mem_of_getElem? (i := 33) rfl))) (mvT hZ (hw _ (List.mem_of_getElem? (i := 34) rfl))) (mvT hZ (hw _ (List.mem_of_getElem? (i := 35) rfl))) (mvT hZ (hw _ (List.mem_of_getElem? (i := 36) rfl))) (by decide) (backOf (W := 0) (own_minm l Z a0 hw [] z ((65536 : Int32) - bc) h11 n0) hZ (hw _ (List.mem_of_getElem? (i := 36) rfl)) (hw _ (List.mem_of_getElem? (i := 35) rfl)) (by decide) (by decide)) (g := (mkF m 90 #[.val (.ref t), .val (.ref xa), .val (.int bc), .val (.int (0 : Int32)), .val (.int bc), .val (.int (0 : Int32)), .unset] [(.int ((65536 : Int32) - bc)), (.int z)])) rfl (by rw [hml]; rfl) (argsL := [(.int z), (.int ((65536 : Int32) - bc))]) (rest := []) (lenOf pd_1 rfl) rfl (by show 2 * 0 + _ ≤ _; exact Nat.le_of_eq rfl) (hb hby d_own_addM_90) (fun _ _ => ⟨rfl, e11, (by decide : 1 + 0 ≤ _), (by decide : 65536 + 0 ≤ _)⟩)
  dsimp only [Pt.U, Pt.locs, Pt.cells, Pt.slots] at X13 l13 y13 z13 st13 hQ13
  subst l13 y13 z13
  obtain ⟨rfl, N13q, e13⟩ := hQ13
  have N13 := Fr.app N11 N13q
  refine own_st (st13) ?_
  show own_Go p.tables e below F (T13.setTop (mkF m 93 #[.val (.ref t), .val (.ref xa), .val (.int bc), .val (.int (0 : Int32)), .val (.int bc), .val (.int (0 : Int32)), .unset] [(.int (own_min z ((65536 : Int32) - bc)))]))
  rw [own_cnt hbc hz]
  show own_Go p.tables e below F (T13.setTop (mkF m 93 #[.val (.ref t), .val (.ref xa), .val (.int bc), .val (.int (0 : Int32)), .val (.int bc), .val (.int (0 : Int32)), .unset] [(.int z)]))
  refine own_st (fun _ k => XS.istore X13.here hx rfl (hb hby d_own_addM_93) rfl (l' := #[.val (.ref t), .val (.ref xa), .val (.int bc), .val (.int (0 : Int32)), .val (.int bc), .val (.int (0 : Int32)), .val (.int z)]) rfl k) ?_
  show own_Go p.tables e below F (T13.setTop (mkF m 95 #[.val (.ref t), .val (.ref xa), .val (.int bc), .val (.int (0 : Int32)), .val (.int bc), .val (.int (0 : Int32)), .val (.int z)] []))
  refine own_st (fun _ k => XS.aloadN X13.here hx rfl (hb hby d_own_addM_95) rfl rfl k) ?_
  show own_Go p.tables e below F (T13.setTop (mkF m 96 #[.val (.ref t), .val (.ref xa), .val (.int bc), .val (.int (0 : Int32)), .val (.int bc), .val (.int (0 : Int32)), .val (.int z)] [(.ref xa)]))
  refine own_st (fun _ k => XS.iloadN X13.here hx rfl (hb hby d_own_addM_96) rfl k) ?_
  show own_Go p.tables e below F (T13.setTop (mkF m 97 #[.val (.ref t), .val (.ref xa), .val (.int bc), .val (.int (0 : Int32)), .val (.int bc), .val (.int (0 : Int32)), .val (.int z)] [(.int (0 : Int32)), (.ref xa)]))
  refine own_st (fun _ k => XS.aloadN X13.here hx rfl (hb hby d_own_addM_97) rfl rfl k) ?_
  show own_Go p.tables e below F (T13.setTop (mkF m 98 #[.val (.ref t), .val (.ref xa), .val (.int bc), .val (.int (0 : Int32)), .val (.int bc), .val (.int (0 : Int32)), .val (.int z)] [(.ref t), (.int (0 : Int32)), (.ref xa)]))
  obtain ⟨T14, X14, e14, st14⟩ := getF X13 hx hZ hown (host := "") (Or.inl (hw _ (List.mem_of_getElem? (i := 12) rfl))) Via.refl e13 Fp__11 (g := (mkF m 98 #[.val (.ref t), .val (.ref xa), .val (.int bc), .val (.int (0 : Int32)), .val (.int bc), .val (.int (0 : Int32)), .val (.int z)] [(.ref t), (.int (0 : Int32)), (.ref xa)])) rfl rfl (hb hby d_own_addM_98)
  refine own_st st14 ?_
  show own_Go p.tables e below F (T14.setTop (mkF m 101 #[.val (.ref t), .val (.ref xa), .val (.int bc), .val (.int (0 : Int32)), .val (.int bc), .val (.int (0 : Int32)), .val (.int z)] [(.ref pg), (.int (0 : Int32)), (.ref xa)]))
  refine own_st (fun _ k => XS.iload X14.here hx rfl (hb hby d_own_addM_101) rfl k) ?_
  show own_Go p.tables e below F (T14.setTop (mkF m 103 #[.val (.ref t), .val (.ref xa), .val (.int bc), .val (.int (0 : Int32)), .val (.int bc), .val (.int (0 : Int32)), .val (.int z)] [(.int (0 : Int32)), (.ref pg), (.int (0 : Int32)), (.ref xa)]))
  obtain ⟨cl15, Ar15, qc15, S15, Nn15, Hh15, Gg15⟩ := id V11
  have hin16 : ¬ ((0 : Int32) < 0 ∨ cl15.slots.size ≤ ((0 : Int32)).toNatClampNeg) := inb_of S15 ⟨by decide, by decide⟩
  refine own_st (X14.aaload hx (j := (0 : Int32)) (v := (.ref b9)) (by rw [e14]; exact Ar15.1) (State.isArrayOf_alike hZ.alike Ar15.2.1) rfl Ar15.2.2 hin16 (Has.at Hh15 hin16 rfl) (g := (mkF m 103 #[.val (.ref t), .val (.ref xa), .val (.int bc), .val (.int (0 : Int32)), .val (.int bc), .val (.int (0 : Int32)), .val (.int z)] [(.int (0 : Int32)), (.ref pg), (.int (0 : Int32)), (.ref xa)])) rfl rfl (hb hby d_own_addM_103)) ?_
  show own_Go p.tables e below F (T14.setTop (mkF m 104 #[.val (.ref t), .val (.ref xa), .val (.int bc), .val (.int (0 : Int32)), .val (.int bc), .val (.int (0 : Int32)), .val (.int z)] [(.ref b9), (.int (0 : Int32)), (.ref xa)]))
  refine own_st (fun _ k => XS.iload X14.here hx rfl (hb hby d_own_addM_104) rfl k) ?_
  show own_Go p.tables e below F (T14.setTop (mkF m 106 #[.val (.ref t), .val (.ref xa), .val (.int bc), .val (.int (0 : Int32)), .val (.int bc), .val (.int (0 : Int32)), .val (.int z)] [(.int bc), (.ref b9), (.int (0 : Int32)), (.ref xa)]))
  refine own_st (X14.ldcInt hx hown (mvT hZ (hw _ (List.mem_of_getElem? (i := 32) rfl))) (g := (mkF m 106 #[.val (.ref t), .val (.ref xa), .val (.int bc), .val (.int (0 : Int32)), .val (.int bc), .val (.int (0 : Int32)), .val (.int z)] [(.int bc), (.ref b9), (.int (0 : Int32)), (.ref xa)])) rfl (hb hby d_own_addM_106)) ?_
  show own_Go p.tables e below F (T14.setTop (mkF m 108 #[.val (.ref t), .val (.ref xa), .val (.int bc), .val (.int (0 : Int32)), .val (.int bc), .val (.int (0 : Int32)), .val (.int z)] [(.int (65535 : Int32)), (.int bc), (.ref b9), (.int (0 : Int32)), (.ref xa)]))
  refine own_st (fun _ k => XS.iand X14.here hx rfl (hb hby d_own_addM_108) rfl k) ?_
  show own_Go p.tables e below F (T14.setTop (mkF m 109 #[.val (.ref t), .val (.ref xa), .val (.int bc), .val (.int (0 : Int32)), .val (.int bc), .val (.int (0 : Int32)), .val (.int z)] [(.int (bc &&& (65535 : Int32))), (.ref b9), (.int (0 : Int32)), (.ref xa)]))
  rw [own_low hbc]
  show own_Go p.tables e below F (T14.setTop (mkF m 109 #[.val (.ref t), .val (.ref xa), .val (.int bc), .val (.int (0 : Int32)), .val (.int bc), .val (.int (0 : Int32)), .val (.int z)] [(.int bc), (.ref b9), (.int (0 : Int32)), (.ref xa)]))
  refine own_st (fun _ k => XS.iload X14.here hx rfl (hb hby d_own_addM_109) rfl k) ?_
  show own_Go p.tables e below F (T14.setTop (mkF m 111 #[.val (.ref t), .val (.ref xa), .val (.int bc), .val (.int (0 : Int32)), .val (.int bc), .val (.int (0 : Int32)), .val (.int z)] [(.int z), (.int bc), (.ref b9), (.int (0 : Int32)), (.ref xa)]))
  obtain ⟨T17, h17, L17, X17, e17, N17, K17, V17, st17⟩ := cpA X14 hx hZ hown (hw _ (List.mem_of_getElem? (i := 37) rfl)) (hw _ (List.mem_of_getElem? (i := 40) rfl)) (hw _ (List.mem_of_getElem? (i := 38) rfl)) (hw _ (List.mem_of_getElem? (i := 39) rfl)) e14 XBu__11 (V9__11.pad (pad_rep [] (.int (0 : Int32)) 128)) (us := _) (Or.inl ⟨rfl, rfl⟩) (sp := (0 : Int32)) (dp := bc) (nn := z) (by decide) (own_Bnn hbc) (own_nn hz) (Nat.le_of_eq (Nat.zero_add _)) (Nat.le_trans (own_room hbc hz) (by decide)) rfl (Nat.le_trans (own_room hbc hz) (by decide)) N13 gn_b9 (g := (mkF m 111 #[.val (.ref t), .val (.ref xa), .val (.int bc), .val (.int (0 : Int32)), .val (.int bc), .val (.int (0 : Int32)), .val (.int z)] [(.int z), (.int bc), (.ref b9), (.int (0 : Int32)), (.ref xa)])) rfl (by rw [hml]; rfl) rfl (hb hby d_own_addM_111) (by decide) (W := 0) (by show 2 * 0 + _ ≤ _; exact Nat.le_of_eq rfl) (by decide)
  have G17 : own_Pg Z h17 b9 := ⟨_, _, (by simp only [List.length_append, List.length_take, List.length_drop, List.length_map, List.length_range, List.length_replicate, List.length_nil]; have hl := own_room hbc hz; omega), V17⟩
  have Et__17 := Et__11.keep K17
  have Fp__17 := Fp__11.keep K17 (ninS ne_t_b9 nin0)
  have Fe__17 := Fe__11.keep K17 (ninS ne_t_b9 nin0)
  have Fs__17 := Fs__11.keep K17 (ninS ne_t_b9 nin0)
  have Ve__17 := Ve__11.keep K17 (ninS ne_en_b9 nin0)
  have XBu__17 := XBu__11.keep K17 (ninS ne_xa_b9 nin0)
  have Ex9__17 := Ex9__11.keep K17
  have V11__17 := V11.keep K17 (ninS ne_pg_b9 nin0)
  have KW_17 := KW_11.trans K17 (allS (Or.inr sz_b9) all0)
  refine own_st st17 ?_
  show own_Go p.tables e below F (T17.setTop (mkF m 114 #[.val (.ref t), .val (.ref xa), .val (.int bc), .val (.int (0 : Int32)), .val (.int bc), .val (.int (0 : Int32)), .val (.int z)] []))
  refine own_st (fun _ k => XS.iloadN X17.here hx rfl (hb hby d_own_addM_114) rfl k) ?_
  show own_Go p.tables e below F (T17.setTop (mkF m 115 #[.val (.ref t), .val (.ref xa), .val (.int bc), .val (.int (0 : Int32)), .val (.int bc), .val (.int (0 : Int32)), .val (.int z)] [(.int (0 : Int32))]))
  refine own_st (fun _ k => XS.iload X17.here hx rfl (hb hby d_own_addM_115) rfl k) ?_
  show own_Go p.tables e below F (T17.setTop (mkF m 117 #[.val (.ref t), .val (.ref xa), .val (.int bc), .val (.int (0 : Int32)), .val (.int bc), .val (.int (0 : Int32)), .val (.int z)] [(.int z), (.int (0 : Int32))]))
  refine own_st (fun _ k => XS.iadd X17.here hx rfl (hb hby d_own_addM_117) rfl k) ?_
  show own_Go p.tables e below F (T17.setTop (mkF m 118 #[.val (.ref t), .val (.ref xa), .val (.int bc), .val (.int (0 : Int32)), .val (.int bc), .val (.int (0 : Int32)), .val (.int z)] [(.int ((0 : Int32) + z))]))
  rw [Int32.zero_add z]
  show own_Go p.tables e below F (T17.setTop (mkF m 118 #[.val (.ref t), .val (.ref xa), .val (.int bc), .val (.int (0 : Int32)), .val (.int bc), .val (.int (0 : Int32)), .val (.int z)] [(.int z)]))
  refine own_st (fun _ k => XS.istoreN X17.here hx rfl (hb hby d_own_addM_118) rfl (l' := #[.val (.ref t), .val (.ref xa), .val (.int bc), .val (.int z), .val (.int bc), .val (.int (0 : Int32)), .val (.int z)]) rfl k) ?_
  show own_Go p.tables e below F (T17.setTop (mkF m 119 #[.val (.ref t), .val (.ref xa), .val (.int bc), .val (.int z), .val (.int bc), .val (.int (0 : Int32)), .val (.int z)] []))
  refine own_st (fun _ k => XS.goto X17.here hx rfl (pc0 := 119) (pc' := 7) rfl (hb hby d_own_addM_119) (by decide) (by decide) k) ?_
  show own_Go p.tables e below F (T17.setTop (mkF m 7 #[.val (.ref t), .val (.ref xa), .val (.int bc), .val (.int z), .val (.int bc), .val (.int (0 : Int32)), .val (.int z)] []))
  refine own_st (fun _ k => XS.iloadN X17.here hx rfl (hb hby d_own_addM_7) rfl k) ?_
  show own_Go p.tables e below F (T17.setTop (mkF m 8 #[.val (.ref t), .val (.ref xa), .val (.int bc), .val (.int z), .val (.int bc), .val (.int (0 : Int32)), .val (.int z)] [(.int z)]))
  refine own_st (fun _ k => XS.aloadN X17.here hx rfl (hb hby d_own_addM_8) rfl rfl k) ?_
  show own_Go p.tables e below F (T17.setTop (mkF m 9 #[.val (.ref t), .val (.ref xa), .val (.int bc), .val (.int z), .val (.int bc), .val (.int (0 : Int32)), .val (.int z)] [(.ref xa), (.int z)]))
  obtain ⟨cl18, Ar18, qc18, S18, Nn18, Hh18, Gg18⟩ := id XBu__17
  refine own_st (X17.arraylength hx (by rw [e17]; exact Ar18.1) (State.isArrayOf_alike hZ.alike Ar18.2.1) (g := (mkF m 9 #[.val (.ref t), .val (.ref xa), .val (.int bc), .val (.int z), .val (.int bc), .val (.int (0 : Int32)), .val (.int z)] [(.ref xa), (.int z)])) rfl rfl (hb hby d_own_addM_9)) ?_
  rw [len_of S18 Nn18]
  show own_Go p.tables e below F (T17.setTop (mkF m 10 #[.val (.ref t), .val (.ref xa), .val (.int bc), .val (.int z), .val (.int bc), .val (.int (0 : Int32)), .val (.int z)] [(.int z), (.int z)]))
  refine own_st (fun _ k => XS.icmpYes X17.here hx rfl (pc0 := 10) (pc' := 122) rfl (hb hby d_own_addM_10) rfl (flt (Int32.lt_irrefl : ¬ (z < z))).2.1 (by decide) (by decide) k) ?_
  show own_Go p.tables e below F (T17.setTop (mkF m 122 #[.val (.ref t), .val (.ref xa), .val (.int bc), .val (.int z), .val (.int bc), .val (.int (0 : Int32)), .val (.int z)] []))
  refine own_st (fun _ k => XS.aloadN X17.here hx rfl (hb hby d_own_addM_122) rfl rfl k) ?_
  show own_Go p.tables e below F (T17.setTop (mkF m 123 #[.val (.ref t), .val (.ref xa), .val (.int bc), .val (.int z), .val (.int bc), .val (.int (0 : Int32)), .val (.int z)] [(.ref t)]))
  obtain ⟨T19, X19, e19, st19⟩ := getF X17 hx hZ hown (host := "") (Or.inl (hw _ (List.mem_of_getElem? (i := 15) rfl))) Via.refl e17 Fe__17 (g := (mkF m 123 #[.val (.ref t), .val (.ref xa), .val (.int bc), .val (.int z), .val (.int bc), .val (.int (0 : Int32)), .val (.int z)] [(.ref t)])) rfl rfl (hb hby d_own_addM_123)
  refine own_st st19 ?_
  show own_Go p.tables e below F (T19.setTop (mkF m 126 #[.val (.ref t), .val (.ref xa), .val (.int bc), .val (.int z), .val (.int bc), .val (.int (0 : Int32)), .val (.int z)] [(.ref en)]))
  refine own_st (fun _ k => XS.aloadN X19.here hx rfl (hb hby d_own_addM_126) rfl rfl k) ?_
  show own_Go p.tables e below F (T19.setTop (mkF m 127 #[.val (.ref t), .val (.ref xa), .val (.int bc), .val (.int z), .val (.int bc), .val (.int (0 : Int32)), .val (.int z)] [(.ref t), (.ref en)]))
  refine own_st (fun _ k => XS.dup X19.here hx rfl (hb hby d_own_addM_127) rfl rfl k) ?_
  show own_Go p.tables e below F (T19.setTop (mkF m 128 #[.val (.ref t), .val (.ref xa), .val (.int bc), .val (.int z), .val (.int bc), .val (.int (0 : Int32)), .val (.int z)] [(.ref t), (.ref t), (.ref en)]))
  obtain ⟨T20, X20, e20, st20⟩ := getF X19 hx hZ hown (host := "") (Or.inl (hw _ (List.mem_of_getElem? (i := 22) rfl))) Via.refl e19 Fs__17 (g := (mkF m 128 #[.val (.ref t), .val (.ref xa), .val (.int bc), .val (.int z), .val (.int bc), .val (.int (0 : Int32)), .val (.int z)] [(.ref t), (.ref t), (.ref en)])) rfl rfl (hb hby d_own_addM_128)
  refine own_st st20 ?_
  show own_Go p.tables e below F (T20.setTop (mkF m 131 #[.val (.ref t), .val (.ref xa), .val (.int bc), .val (.int z), .val (.int bc), .val (.int (0 : Int32)), .val (.int z)] [(.int sz), (.ref t), (.ref en)]))
  refine own_st (fun _ k => XS.dupX1 X20.here hx rfl (hb hby d_own_addM_131) rfl rfl rfl k) ?_
  show own_Go p.tables e below F (T20.setTop (mkF m 132 #[.val (.ref t), .val (.ref xa), .val (.int bc), .val (.int z), .val (.int bc), .val (.int (0 : Int32)), .val (.int z)] [(.int sz), (.ref t), (.int sz), (.ref en)]))
  refine own_st (fun _ k => XS.iconst X20.here hx rfl (hb hby d_own_addM_132) k) ?_
  show own_Go p.tables e below F (T20.setTop (mkF m 133 #[.val (.ref t), .val (.ref xa), .val (.int bc), .val (.int z), .val (.int bc), .val (.int (0 : Int32)), .val (.int z)] [(.int (1 : Int32)), (.int sz), (.ref t), (.int sz), (.ref en)]))
  refine own_st (fun _ k => XS.iadd X20.here hx rfl (hb hby d_own_addM_133) rfl k) ?_
  show own_Go p.tables e below F (T20.setTop (mkF m 134 #[.val (.ref t), .val (.ref xa), .val (.int bc), .val (.int z), .val (.int bc), .val (.int (0 : Int32)), .val (.int z)] [(.int (sz + (1 : Int32))), (.ref t), (.int sz), (.ref en)]))
  rw [← hs1]
  show own_Go p.tables e below F (T20.setTop (mkF m 134 #[.val (.ref t), .val (.ref xa), .val (.int bc), .val (.int z), .val (.int bc), .val (.int (0 : Int32)), .val (.int z)] [(.int sz'), (.ref t), (.int sz), (.ref en)]))
  obtain ⟨T21, h21, X21, e21, W21, st21⟩ := putF X20 hx hZ hown (host := "") (Or.inl (hw _ (List.mem_of_getElem? (i := 22) rfl))) Via.refl e20 Fs__17 Et__17 (Or.inl (hw _ (List.mem_of_getElem? (i := 23) rfl))) (hw _ (List.mem_of_getElem? (i := 2) rfl)) (ty := .int) (by decide) rfl rfl (g := (mkF m 134 #[.val (.ref t), .val (.ref xa), .val (.int bc), .val (.int z), .val (.int bc), .val (.int (0 : Int32)), .val (.int z)] [(.int sz'), (.ref t), (.int sz), (.ref en)])) rfl rfl (hb hby d_own_addM_134)
  have Fw21 := Fs__17.same W21
  have Et__21 := Et__17.wr W21
  have Fp__21 := Fp__17.other W21 (Or.inr (slot_ne (Or.inl (hw _ (List.mem_of_getElem? (i := 13) rfl))) (Or.inl (hw _ (List.mem_of_getElem? (i := 23) rfl))) (by decide) (t := (.array (.array .byte))) (t' := .int) (by decide) (by decide)))
  have Fe__21 := Fe__17.other W21 (Or.inr (slot_ne (Or.inr (hw _ (List.mem_of_getElem? (i := 16) rfl))) (Or.inl (hw _ (List.mem_of_getElem? (i := 23) rfl))) (by decide) (t := (.array .int)) (t' := .int) (by decide) (by decide)))
  have Ve__21 := Ve__17.other W21 (Ne.symm nte)
  have XBu__21 := XBu__17.other W21 nxt
  have Ex9__21 := Ex9__17.wr W21
  have V11__21 := V11__17.other W21 (Ne.symm ntp)
  have G17__21 := own_Pg_keep G17 (Keep.of_wr W21) (ninS (Ne.symm ne_t_b9) nin0)
  have KW_21 := KW_17.wr W21 (Or.inl (List.mem_of_getElem? (i := 0) rfl))
  have N21 := Fr.snoc X21 N17 gn_t
  refine own_st st21 ?_
  show own_Go p.tables e below F (T21.setTop (mkF m 137 #[.val (.ref t), .val (.ref xa), .val (.int bc), .val (.int z), .val (.int bc), .val (.int (0 : Int32)), .val (.int z)] [(.int sz), (.ref en)]))
  refine own_st (fun _ k => XS.iloadN X21.here hx rfl (hb hby d_own_addM_137) rfl k) ?_
  show own_Go p.tables e below F (T21.setTop (mkF m 138 #[.val (.ref t), .val (.ref xa), .val (.int bc), .val (.int z), .val (.int bc), .val (.int (0 : Int32)), .val (.int z)] [(.int bc), (.int sz), (.ref en)]))
  refine own_st (fun _ k => XS.aloadN X21.here hx rfl (hb hby d_own_addM_138) rfl rfl k) ?_
  show own_Go p.tables e below F (T21.setTop (mkF m 139 #[.val (.ref t), .val (.ref xa), .val (.int bc), .val (.int z), .val (.int bc), .val (.int (0 : Int32)), .val (.int z)] [(.ref xa), (.int bc), (.int sz), (.ref en)]))
  obtain ⟨cl22, Ar22, qc22, S22, Nn22, Hh22, Gg22⟩ := id XBu__21
  refine own_st (X21.arraylength hx (by rw [e21]; exact Ar22.1) (State.isArrayOf_alike hZ.alike Ar22.2.1) (g := (mkF m 139 #[.val (.ref t), .val (.ref xa), .val (.int bc), .val (.int z), .val (.int bc), .val (.int (0 : Int32)), .val (.int z)] [(.ref xa), (.int bc), (.int sz), (.ref en)])) rfl rfl (hb hby d_own_addM_139)) ?_
  rw [len_of S22 Nn22]
  show own_Go p.tables e below F (T21.setTop (mkF m 140 #[.val (.ref t), .val (.ref xa), .val (.int bc), .val (.int z), .val (.int bc), .val (.int (0 : Int32)), .val (.int z)] [(.int z), (.int bc), (.int sz), (.ref en)]))
  refine own_st (fun _ k => XS.iadd X21.here hx rfl (hb hby d_own_addM_140) rfl k) ?_
  show own_Go p.tables e below F (T21.setTop (mkF m 141 #[.val (.ref t), .val (.ref xa), .val (.int bc), .val (.int z), .val (.int bc), .val (.int (0 : Int32)), .val (.int z)] [(.int (bc + z)), (.int sz), (.ref en)]))
  rw [← he]
  show own_Go p.tables e below F (T21.setTop (mkF m 141 #[.val (.ref t), .val (.ref xa), .val (.int bc), .val (.int z), .val (.int bc), .val (.int (0 : Int32)), .val (.int z)] [(.int ee), (.int sz), (.ref en)]))
  obtain ⟨cl23, Ar23, qc23, S23, Nn23, Hh23, Gg23⟩ := id Ve__21
  have hin24 : ¬ (sz < 0 ∨ cl23.slots.size ≤ (sz).toNatClampNeg) := inb_of S23 hsz
  obtain ⟨T24, h24, X24, e24, W24, st24⟩ := stI X21 hx hZ e21 Ar23 (j := sz) hin24 (g := (mkF m 141 #[.val (.ref t), .val (.ref xa), .val (.int bc), .val (.int z), .val (.int bc), .val (.int (0 : Int32)), .val (.int z)] [(.int ee), (.int sz), (.ref en)])) rfl rfl (hb hby d_own_addM_141)
  have V24 : Arv Z h24 en kE .int (3 : Int32) (vs.set sz.toNatClampNeg (.int ee)) (.int (0 : Int32)) := Arv.set Ar23 qc23 S23 Nn23 Hh23 Gg23 rfl W24 sz.toNatClampNeg rfl (by rw [hlen]; exact own_in3 hsz)
  have Et__24 := Et__21.wr W24
  have Fp__24 := Fp__21.other W24 (Or.inl nte)
  have Fe__24 := Fe__21.other W24 (Or.inl nte)
  have XBu__24 := XBu__21.other W24 nxe
  have Ex9__24 := Ex9__21.wr W24
  have V11__24 := V11__21.other W24 npe
  have G17__24 := own_Pg_keep G17__21 (Keep.of_wr W24) (ninS (Ne.symm ne_en_b9) nin0)
  have Fw21__24 := Fw21.other W24 (Or.inl nte)
  have KW_24 := KW_21.wr W24 (Or.inl (List.mem_of_getElem? (i := 2) rfl))
  have N24 := Fr.snoc X24 N21 gn_en
  refine own_st st24 ?_
  show own_Go p.tables e below F (T24.setTop (mkF m 142 #[.val (.ref t), .val (.ref xa), .val (.int bc), .val (.int z), .val (.int bc), .val (.int (0 : Int32)), .val (.int z)] []))
  obtain ⟨fs, hrL, hrun, hended, hW, hsame⟩ := X24.leave (v := none) (fun _ => rfl)
  refine own_end hF (o := .returned none) (X24.returnOut hx Bd.returns (hb hby d_own_addM_142) hrL) ?_
  refine ⟨hrun, hended, _, _, rfl, ?_, ⟨_, rfl⟩, hW, hsame.mono (by decide) (by decide)⟩
  have eh : T24.heap = h24 := e24
  show own_Qm Z t pg en kP kE sz' vs sz ee  h0 n0 _ T24.heap _
  rw [eh]
  exact ⟨b9, rfl, N24, KW_24, sz_b9, ⟨Et__24, Fp__24, Fe__24, Fw21__24, V11__24, V24, Op⟩, G17__24⟩
theorem d_own_addO_0 : decode prog_19_method_3_code 0 = .ok (.aload_n 0, 1) := by decide +kernel
theorem d_own_addO_1 : decode prog_19_method_3_code 1 = .ok (.invokevirtual 23, 3) := by decide +kernel
theorem d_own_addO_4 : decode prog_19_method_3_code 4 = .ok (.istore_n 2, 1) := by decide +kernel
theorem d_own_addO_5 : decode prog_19_method_3_code 5 = .ok (.iconst 0, 1) := by decide +kernel
theorem d_own_addO_6 : decode prog_19_method_3_code 6 = .ok (.istore_n 3, 1) := by decide +kernel
theorem d_own_addO_7 : decode prog_19_method_3_code 7 = .ok (.iload_n 3, 1) := by decide +kernel
theorem d_own_addO_8 : decode prog_19_method_3_code 8 = .ok (.aload_n 1, 1) := by decide +kernel
theorem d_own_addO_9 : decode prog_19_method_3_code 9 = .ok (.arraylength, 1) := by decide +kernel
theorem d_own_addO_10 : decode prog_19_method_3_code 10 = .ok (.if_icmp .ge 112, 3) := by decide +kernel
theorem d_own_addO_13 : decode prog_19_method_3_code 13 = .ok (.iload_n 2, 1) := by decide +kernel
theorem d_own_addO_14 : decode prog_19_method_3_code 14 = .ok (.iload_n 3, 1) := by decide +kernel
theorem d_own_addO_15 : decode prog_19_method_3_code 15 = .ok (.iadd, 1) := by decide +kernel
theorem d_own_addO_16 : decode prog_19_method_3_code 16 = .ok (.istore 4, 2) := by decide +kernel
theorem d_own_addO_18 : decode prog_19_method_3_code 18 = .ok (.iload 4, 2) := by decide +kernel
theorem d_own_addO_20 : decode prog_19_method_3_code 20 = .ok (.bipush 16, 2) := by decide +kernel
theorem d_own_addO_22 : decode prog_19_method_3_code 22 = .ok (.iushr, 1) := by decide +kernel
theorem d_own_addO_23 : decode prog_19_method_3_code 23 = .ok (.istore 5, 2) := by decide +kernel
theorem d_own_addO_25 : decode prog_19_method_3_code 25 = .ok (.iload 5, 2) := by decide +kernel
theorem d_own_addO_27 : decode prog_19_method_3_code 27 = .ok (.aload_n 0, 1) := by decide +kernel
theorem d_own_addO_28 : decode prog_19_method_3_code 28 = .ok (.getfield 11, 3) := by decide +kernel
theorem d_own_addO_31 : decode prog_19_method_3_code 31 = .ok (.arraylength, 1) := by decide +kernel
theorem d_own_addO_32 : decode prog_19_method_3_code 32 = .ok (.if_icmp .ne 25, 3) := by decide +kernel
theorem d_own_addO_57 : decode prog_19_method_3_code 57 = .ok (.aload_n 0, 1) := by decide +kernel
theorem d_own_addO_58 : decode prog_19_method_3_code 58 = .ok (.getfield 11, 3) := by decide +kernel
theorem d_own_addO_61 : decode prog_19_method_3_code 61 = .ok (.iload 5, 2) := by decide +kernel
theorem d_own_addO_63 : decode prog_19_method_3_code 63 = .ok (.aaload, 1) := by decide +kernel
theorem d_own_addO_64 : decode prog_19_method_3_code 64 = .ok (.ifnonnull 14, 3) := by decide +kernel
theorem d_own_addO_78 : decode prog_19_method_3_code 78 = .ok (.aload_n 1, 1) := by decide +kernel
theorem d_own_addO_79 : decode prog_19_method_3_code 79 = .ok (.arraylength, 1) := by decide +kernel
theorem d_own_addO_80 : decode prog_19_method_3_code 80 = .ok (.iload_n 3, 1) := by decide +kernel
theorem d_own_addO_81 : decode prog_19_method_3_code 81 = .ok (.isub, 1) := by decide +kernel
theorem d_own_addO_82 : decode prog_19_method_3_code 82 = .ok (.ldc 40, 2) := by decide +kernel
theorem d_own_addO_84 : decode prog_19_method_3_code 84 = .ok (.iload 4, 2) := by decide +kernel
theorem d_own_addO_86 : decode prog_19_method_3_code 86 = .ok (.ldc 41, 2) := by decide +kernel
theorem d_own_addO_88 : decode prog_19_method_3_code 88 = .ok (.iand, 1) := by decide +kernel
theorem d_own_addO_89 : decode prog_19_method_3_code 89 = .ok (.isub, 1) := by decide +kernel
theorem d_own_addO_90 : decode prog_19_method_3_code 90 = .ok (.invokestatic 42, 3) := by decide +kernel
theorem d_own_addO_93 : decode prog_19_method_3_code 93 = .ok (.istore 6, 2) := by decide +kernel
theorem d_own_addO_95 : decode prog_19_method_3_code 95 = .ok (.aload_n 1, 1) := by decide +kernel
theorem d_own_addO_96 : decode prog_19_method_3_code 96 = .ok (.iload_n 3, 1) := by decide +kernel
theorem d_own_addO_97 : decode prog_19_method_3_code 97 = .ok (.aload_n 0, 1) := by decide +kernel
theorem d_own_addO_98 : decode prog_19_method_3_code 98 = .ok (.getfield 11, 3) := by decide +kernel
theorem d_own_addO_101 : decode prog_19_method_3_code 101 = .ok (.iload 5, 2) := by decide +kernel
theorem d_own_addO_103 : decode prog_19_method_3_code 103 = .ok (.aaload, 1) := by decide +kernel
theorem d_own_addO_104 : decode prog_19_method_3_code 104 = .ok (.iload 4, 2) := by decide +kernel
theorem d_own_addO_106 : decode prog_19_method_3_code 106 = .ok (.ldc 41, 2) := by decide +kernel
theorem d_own_addO_108 : decode prog_19_method_3_code 108 = .ok (.iand, 1) := by decide +kernel
theorem d_own_addO_109 : decode prog_19_method_3_code 109 = .ok (.iload 6, 2) := by decide +kernel
theorem d_own_addO_111 : decode prog_19_method_3_code 111 = .ok (.invokestatic 48, 3) := by decide +kernel
theorem d_own_addO_114 : decode prog_19_method_3_code 114 = .ok (.iload_n 3, 1) := by decide +kernel
theorem d_own_addO_115 : decode prog_19_method_3_code 115 = .ok (.iload 6, 2) := by decide +kernel
theorem d_own_addO_117 : decode prog_19_method_3_code 117 = .ok (.iadd, 1) := by decide +kernel
theorem d_own_addO_118 : decode prog_19_method_3_code 118 = .ok (.istore_n 3, 1) := by decide +kernel
theorem d_own_addO_119 : decode prog_19_method_3_code 119 = .ok (.goto (-112), 3) := by decide +kernel
theorem d_own_addO_122 : decode prog_19_method_3_code 122 = .ok (.aload_n 0, 1) := by decide +kernel
theorem d_own_addO_123 : decode prog_19_method_3_code 123 = .ok (.getfield 15, 3) := by decide +kernel
theorem d_own_addO_126 : decode prog_19_method_3_code 126 = .ok (.aload_n 0, 1) := by decide +kernel
theorem d_own_addO_127 : decode prog_19_method_3_code 127 = .ok (.dup, 1) := by decide +kernel
theorem d_own_addO_128 : decode prog_19_method_3_code 128 = .ok (.getfield 19, 3) := by decide +kernel
theorem d_own_addO_131 : decode prog_19_method_3_code 131 = .ok (.dup_x1, 1) := by decide +kernel
theorem d_own_addO_132 : decode prog_19_method_3_code 132 = .ok (.iconst 1, 1) := by decide +kernel
theorem d_own_addO_133 : decode prog_19_method_3_code 133 = .ok (.iadd, 1) := by decide +kernel
theorem d_own_addO_134 : decode prog_19_method_3_code 134 = .ok (.putfield 19, 3) := by decide +kernel
theorem d_own_addO_137 : decode prog_19_method_3_code 137 = .ok (.iload_n 2, 1) := by decide +kernel
theorem d_own_addO_138 : decode prog_19_method_3_code 138 = .ok (.aload_n 1, 1) := by decide +kernel
theorem d_own_addO_139 : decode prog_19_method_3_code 139 = .ok (.arraylength, 1) := by decide +kernel
theorem d_own_addO_140 : decode prog_19_method_3_code 140 = .ok (.iadd, 1) := by decide +kernel
theorem d_own_addO_141 : decode prog_19_method_3_code 141 = .ok (.iastore, 1) := by decide +kernel
theorem d_own_addO_142 : decode prog_19_method_3_code 142 = .ok (.return_, 1) := by decide +kernel
set_option maxRecDepth 65536 in
set_option maxHeartbeats 40000000 in
theorem own_addO (l : Launch) (Z : State) (a0 : Array Value) (hw : ∀ d ∈ tables_1, d.before a0 Z = true) (ws : List Jvm.Cond) (t pg en xa : Addr) (kP kE kx : ClassId) (sz sz' bc z ee : Int32) (vs vx : List Value) (q : Addr) (h0 : Heap) (n0 : Nat) (Z0 : n0 ≤ h0.size) (hcal : own_Met l Z (⟨"com/example/libmerit/libmerit/index/DocnoTable", "byteCount", "()I"⟩ : MethodName) prog_19_method_2_code 1 (some .int) [] ({ frames := 0, cells := 0, slots := 0, locals := 0 } : Room) #[(.ref t)] h0 (own_Qp (.int bc) h0 n0)) (hbc : own_B bc) (hz : own_S z) (XBu : Arv Z h0 xa kx .byte z vx (.int (0 : Int32))) (hlen : vs.length = 3) (hsz : ¬ sz < 0 ∧ sz < (3 : Int32)) (hs1 : sz' = sz + (1 : Int32)) (he : ee = bc + z) (gn_t : n0 ≤ t) (gn_pg : n0 ≤ pg) (gn_en : n0 ≤ en) (nte : t ≠ en) (ntp : t ≠ pg) (npe : pg ≠ en) (nxt : xa ≠ t) (nxp : xa ≠ pg) (nxe : xa ≠ en) (hpos : (0 : Int32) < z) (TBu : own_T Z h0 t pg en kP kE sz vs (.ref q)) (GBu : own_Pg Z h0 q) (gn_q : n0 ≤ q) (nxq : xa ≠ q) (ntq : t ≠ q) (npq : pg ≠ q) (neq : en ≠ q) :
    own_Met l Z (⟨"com/example/libmerit/libmerit/index/DocnoTable", "add", "([B)V"⟩ : MethodName) prog_19_method_3_code 7 none ws ({ frames := 1, cells := 0, slots := 0, locals := 40 } : Room) #[(.ref t), (.ref xa)] h0 (own_Qo Z t pg en kP kE sz' vs sz ee q h0 n0) := by
  refine MetFree.of_bodySF (plainFor_of_name pn_com_example_libmerit_libmerit_index_DocnoTable) hisR ?_
  intro p e s m args below meth c s₁ Bd hml0 hP hK
  obtain ⟨rfl, hZ, hh⟩ := hP
  have hx := Bd.exec
  have hby := Bd.bytes
  have hml : c.maxLocals = 7 := hml0
  have hown : s.vm.findClass "com/example/libmerit/libmerit/index/DocnoTable" = some m.cls := findClass_of_methodNamed Bd.named
  have hnm := (name_of_methodNamed Bd.named Bd.method).1
  have X0 : Stand p l e ({ frames := 1, cells := 0, slots := 0, locals := 40 } : Room) s m #[(.ref t), (.ref xa)] below meth c s₁ [] 0 0 := Stand.of_body Bd
  have e0 : s₁.heap = h0 := by rw [← hh, Bd.state]; rfl
  have N0 := Fr.nil n0
  have hst : entryFrame m #[(.ref t), (.ref xa)] 7 = mkF m 0 #[.val (.ref t), .val (.ref xa), .unset, .unset, .unset, .unset, .unset] [] := by first | (simp [entryFrame, mkF, argsToLocals, Value.category, maxLocals]; done) | rfl
  obtain ⟨F, hF⟩ : ∃ F : State → Outcome → Prop, F = fun s₂ o => (s₂.status = .running ∧ Ended s₂ below o ∧ ∃ v L, o = .returned v ∧ (own_Qo Z t pg en kP kE sz' vs sz ee q h0 n0) v s₂.heap L ∧ FrameEnd s o s₂ L (Room.cells ({ frames := 1, cells := 0, slots := 0, locals := 40 } : Room)) (Room.slots ({ frames := 1, cells := 0, slots := 0, locals := 40 } : Room))) := ⟨_, rfl⟩
  suffices G : own_Go p.tables e below F (s₁.setTop (mkF m 0 #[.val (.ref t), .val (.ref xa), .unset, .unset, .unset, .unset, .unset] [])) by
    obtain ⟨t, o, a, b⟩ := G
    rw [hF] at b
    exact ⟨t, o, castTop hst a, b⟩
  show own_Go p.tables e below F (s₁.setTop (mkF m 0 #[.val (.ref t), .val (.ref xa), .unset, .unset, .unset, .unset, .unset] []))
  obtain ⟨Et, Fp, Fe, Fs, Vp, Ve, Op⟩ := id TBu
  refine own_st (fun _ k => XS.aloadN X0.here hx rfl (hb hby d_own_addO_0) rfl rfl k) ?_
  show own_Go p.tables e below F (s₁.setTop (mkF m 1 #[.val (.ref t), .val (.ref xa), .unset, .unset, .unset, .unset, .unset] [(.ref t)]))
  obtain ⟨cq1, kq1, q1a, q1b, q1c⟩ := isOf hZ e0 Et
  obtain ⟨_, _, ⟨T1, L1, k1, n1⟩, -, X1, ⟨Lc1, hQ1, l1, y1, z1⟩, st1⟩ := X0.virtualBack hx (y := (⟨"com/example/libmerit/libmerit/index/DocnoTable", "byteCount", "()I"⟩ : MethodName)) (z := (⟨"com/example/libmerit/libmerit/index/DocnoTable", "byteCount", "()I"⟩ : MethodName)) hown (mvT hZ (hw _ (List.mem_of_getElem? (i := 29) rfl))) (mvT hZ (hw _ (List.mem_of_getElem? (i := 18) rfl))) (notFace_of_selects (args := #[]) (mvT hZ (hw _ (List.mem_of_getElem? (i := 20) rfl)))) (mvT hZ (hw _ (List.mem_of_getElem? (i := 20) rfl))) (mvT hZ (hw _ (List.mem_of_getElem? (i := 19) rfl))) (by decide) (backOf (W := 0) (hcal) hZ (hw _ (List.mem_of_getElem? (i := 21) rfl)) (hw _ (List.mem_of_getElem? (i := 3) rfl)) (by decide) (by decide)) q1a q1c (g := (mkF m 1 #[.val (.ref t), .val (.ref xa), .unset, .unset, .unset, .unset, .unset] [(.ref t)])) rfl (by rw [hml]; rfl) (Steps.refl _) (argsL := []) (rest := []) (lenOf pd_0 rfl) rfl (by show 2 * 0 + _ ≤ _; exact Nat.le_of_eq rfl) (hb hby d_own_addO_1) (fun _ _ => ⟨rfl, e0, (by decide : 0 + 0 ≤ _), (by decide : 0 + 0 ≤ _)⟩)
  dsimp only [Pt.U, Pt.locs, Pt.cells, Pt.slots] at X1 l1 y1 z1 st1 hQ1
  subst l1 y1 z1
  obtain ⟨rfl, N1q, e1⟩ := hQ1
  have N1 := Fr.app N0 N1q
  refine own_st (fun _ k => st1.trans k) ?_
  show own_Go p.tables e below F (T1.setTop (mkF m 4 #[.val (.ref t), .val (.ref xa), .unset, .unset, .unset, .unset, .unset] [(.int bc)]))
  refine own_st (fun _ k => XS.istoreN X1.here hx rfl (hb hby d_own_addO_4) rfl (l' := #[.val (.ref t), .val (.ref xa), .val (.int bc), .unset, .unset, .unset, .unset]) rfl k) ?_
  show own_Go p.tables e below F (T1.setTop (mkF m 5 #[.val (.ref t), .val (.ref xa), .val (.int bc), .unset, .unset, .unset, .unset] []))
  refine own_st (fun _ k => XS.iconst X1.here hx rfl (hb hby d_own_addO_5) k) ?_
  show own_Go p.tables e below F (T1.setTop (mkF m 6 #[.val (.ref t), .val (.ref xa), .val (.int bc), .unset, .unset, .unset, .unset] [(.int (0 : Int32))]))
  refine own_st (fun _ k => XS.istoreN X1.here hx rfl (hb hby d_own_addO_6) rfl (l' := #[.val (.ref t), .val (.ref xa), .val (.int bc), .val (.int (0 : Int32)), .unset, .unset, .unset]) rfl k) ?_
  show own_Go p.tables e below F (T1.setTop (mkF m 7 #[.val (.ref t), .val (.ref xa), .val (.int bc), .val (.int (0 : Int32)), .unset, .unset, .unset] []))
  refine own_st (fun _ k => XS.iloadN X1.here hx rfl (hb hby d_own_addO_7) rfl k) ?_
  show own_Go p.tables e below F (T1.setTop (mkF m 8 #[.val (.ref t), .val (.ref xa), .val (.int bc), .val (.int (0 : Int32)), .unset, .unset, .unset] [(.int (0 : Int32))]))
  refine own_st (fun _ k => XS.aloadN X1.here hx rfl (hb hby d_own_addO_8) rfl rfl k) ?_
  show own_Go p.tables e below F (T1.setTop (mkF m 9 #[.val (.ref t), .val (.ref xa), .val (.int bc), .val (.int (0 : Int32)), .unset, .unset, .unset] [(.ref xa), (.int (0 : Int32))]))
  obtain ⟨cl2, Ar2, qc2, S2, Nn2, Hh2, Gg2⟩ := id XBu
  refine own_st (X1.arraylength hx (by rw [e1]; exact Ar2.1) (State.isArrayOf_alike hZ.alike Ar2.2.1) (g := (mkF m 9 #[.val (.ref t), .val (.ref xa), .val (.int bc), .val (.int (0 : Int32)), .unset, .unset, .unset] [(.ref xa), (.int (0 : Int32))])) rfl rfl (hb hby d_own_addO_9)) ?_
  rw [len_of S2 Nn2]
  show own_Go p.tables e below F (T1.setTop (mkF m 10 #[.val (.ref t), .val (.ref xa), .val (.int bc), .val (.int (0 : Int32)), .unset, .unset, .unset] [(.int z), (.int (0 : Int32))]))
  refine own_st (fun _ k => XS.icmpNo X1.here hx rfl (hb hby d_own_addO_10) rfl (tlt hpos).2.1 k) ?_
  show own_Go p.tables e below F (T1.setTop (mkF m 13 #[.val (.ref t), .val (.ref xa), .val (.int bc), .val (.int (0 : Int32)), .unset, .unset, .unset] []))
  refine own_st (fun _ k => XS.iloadN X1.here hx rfl (hb hby d_own_addO_13) rfl k) ?_
  show own_Go p.tables e below F (T1.setTop (mkF m 14 #[.val (.ref t), .val (.ref xa), .val (.int bc), .val (.int (0 : Int32)), .unset, .unset, .unset] [(.int bc)]))
  refine own_st (fun _ k => XS.iloadN X1.here hx rfl (hb hby d_own_addO_14) rfl k) ?_
  show own_Go p.tables e below F (T1.setTop (mkF m 15 #[.val (.ref t), .val (.ref xa), .val (.int bc), .val (.int (0 : Int32)), .unset, .unset, .unset] [(.int (0 : Int32)), (.int bc)]))
  refine own_st (fun _ k => XS.iadd X1.here hx rfl (hb hby d_own_addO_15) rfl k) ?_
  show own_Go p.tables e below F (T1.setTop (mkF m 16 #[.val (.ref t), .val (.ref xa), .val (.int bc), .val (.int (0 : Int32)), .unset, .unset, .unset] [(.int (bc + (0 : Int32)))]))
  refine own_st (fun _ k => XS.istore X1.here hx rfl (hb hby d_own_addO_16) rfl (l' := #[.val (.ref t), .val (.ref xa), .val (.int bc), .val (.int (0 : Int32)), .val (.int (bc + (0 : Int32))), .unset, .unset]) rfl k) ?_
  show own_Go p.tables e below F (T1.setTop (mkF m 18 #[.val (.ref t), .val (.ref xa), .val (.int bc), .val (.int (0 : Int32)), .val (.int (bc + (0 : Int32))), .unset, .unset] []))
  rw [Int32.add_zero bc]
  show own_Go p.tables e below F (T1.setTop (mkF m 18 #[.val (.ref t), .val (.ref xa), .val (.int bc), .val (.int (0 : Int32)), .val (.int bc), .unset, .unset] []))
  refine own_st (fun _ k => XS.iload X1.here hx rfl (hb hby d_own_addO_18) rfl k) ?_
  show own_Go p.tables e below F (T1.setTop (mkF m 20 #[.val (.ref t), .val (.ref xa), .val (.int bc), .val (.int (0 : Int32)), .val (.int bc), .unset, .unset] [(.int bc)]))
  refine own_st (fun _ k => XS.bipush X1.here hx rfl (hb hby d_own_addO_20) k) ?_
  show own_Go p.tables e below F (T1.setTop (mkF m 22 #[.val (.ref t), .val (.ref xa), .val (.int bc), .val (.int (0 : Int32)), .val (.int bc), .unset, .unset] [(.int (16 : Int32)), (.int bc)]))
  refine own_st (fun _ k => XS.iushr X1.here hx rfl (hb hby d_own_addO_22) rfl k) ?_
  show own_Go p.tables e below F (T1.setTop (mkF m 23 #[.val (.ref t), .val (.ref xa), .val (.int bc), .val (.int (0 : Int32)), .val (.int bc), .unset, .unset] [(.int ((bc.toUInt32 >>> ((16 : Int32) &&& 31).toUInt32).toInt32))]))
  refine own_st (fun _ k => XS.istore X1.here hx rfl (hb hby d_own_addO_23) rfl (l' := #[.val (.ref t), .val (.ref xa), .val (.int bc), .val (.int (0 : Int32)), .val (.int bc), .val (.int ((bc.toUInt32 >>> ((16 : Int32) &&& 31).toUInt32).toInt32)), .unset]) rfl k) ?_
  show own_Go p.tables e below F (T1.setTop (mkF m 25 #[.val (.ref t), .val (.ref xa), .val (.int bc), .val (.int (0 : Int32)), .val (.int bc), .val (.int ((bc.toUInt32 >>> ((16 : Int32) &&& 31).toUInt32).toInt32)), .unset] []))
  rw [own_page hbc]
  show own_Go p.tables e below F (T1.setTop (mkF m 25 #[.val (.ref t), .val (.ref xa), .val (.int bc), .val (.int (0 : Int32)), .val (.int bc), .val (.int (0 : Int32)), .unset] []))
  refine own_st (fun _ k => XS.iload X1.here hx rfl (hb hby d_own_addO_25) rfl k) ?_
  show own_Go p.tables e below F (T1.setTop (mkF m 27 #[.val (.ref t), .val (.ref xa), .val (.int bc), .val (.int (0 : Int32)), .val (.int bc), .val (.int (0 : Int32)), .unset] [(.int (0 : Int32))]))
  refine own_st (fun _ k => XS.aloadN X1.here hx rfl (hb hby d_own_addO_27) rfl rfl k) ?_
  show own_Go p.tables e below F (T1.setTop (mkF m 28 #[.val (.ref t), .val (.ref xa), .val (.int bc), .val (.int (0 : Int32)), .val (.int bc), .val (.int (0 : Int32)), .unset] [(.ref t), (.int (0 : Int32))]))
  obtain ⟨T3, X3, e3, st3⟩ := getF X1 hx hZ hown (host := "") (Or.inl (hw _ (List.mem_of_getElem? (i := 12) rfl))) Via.refl e1 Fp (g := (mkF m 28 #[.val (.ref t), .val (.ref xa), .val (.int bc), .val (.int (0 : Int32)), .val (.int bc), .val (.int (0 : Int32)), .unset] [(.ref t), (.int (0 : Int32))])) rfl rfl (hb hby d_own_addO_28)
  refine own_st st3 ?_
  show own_Go p.tables e below F (T3.setTop (mkF m 31 #[.val (.ref t), .val (.ref xa), .val (.int bc), .val (.int (0 : Int32)), .val (.int bc), .val (.int (0 : Int32)), .unset] [(.ref pg), (.int (0 : Int32))]))
  obtain ⟨cl4, Ar4, qc4, S4, Nn4, Hh4, Gg4⟩ := id Vp
  refine own_st (X3.arraylength hx (by rw [e3]; exact Ar4.1) (State.isArrayOf_alike hZ.alike Ar4.2.1) (g := (mkF m 31 #[.val (.ref t), .val (.ref xa), .val (.int bc), .val (.int (0 : Int32)), .val (.int bc), .val (.int (0 : Int32)), .unset] [(.ref pg), (.int (0 : Int32))])) rfl rfl (hb hby d_own_addO_31)) ?_
  rw [len_of S4 Nn4]
  show own_Go p.tables e below F (T3.setTop (mkF m 32 #[.val (.ref t), .val (.ref xa), .val (.int bc), .val (.int (0 : Int32)), .val (.int bc), .val (.int (0 : Int32)), .unset] [(.int (1 : Int32)), (.int (0 : Int32))]))
  refine own_st (fun _ k => XS.icmpYes X3.here hx rfl (pc0 := 32) (pc' := 57) rfl (hb hby d_own_addO_32) rfl (feq (by decide : ¬ ((0 : Int32) = (1 : Int32)))).2 (by decide) (by decide) k) ?_
  show own_Go p.tables e below F (T3.setTop (mkF m 57 #[.val (.ref t), .val (.ref xa), .val (.int bc), .val (.int (0 : Int32)), .val (.int bc), .val (.int (0 : Int32)), .unset] []))
  refine own_st (fun _ k => XS.aloadN X3.here hx rfl (hb hby d_own_addO_57) rfl rfl k) ?_
  show own_Go p.tables e below F (T3.setTop (mkF m 58 #[.val (.ref t), .val (.ref xa), .val (.int bc), .val (.int (0 : Int32)), .val (.int bc), .val (.int (0 : Int32)), .unset] [(.ref t)]))
  obtain ⟨T5, X5, e5, st5⟩ := getF X3 hx hZ hown (host := "") (Or.inl (hw _ (List.mem_of_getElem? (i := 12) rfl))) Via.refl e3 Fp (g := (mkF m 58 #[.val (.ref t), .val (.ref xa), .val (.int bc), .val (.int (0 : Int32)), .val (.int bc), .val (.int (0 : Int32)), .unset] [(.ref t)])) rfl rfl (hb hby d_own_addO_58)
  refine own_st st5 ?_
  show own_Go p.tables e below F (T5.setTop (mkF m 61 #[.val (.ref t), .val (.ref xa), .val (.int bc), .val (.int (0 : Int32)), .val (.int bc), .val (.int (0 : Int32)), .unset] [(.ref pg)]))
  refine own_st (fun _ k => XS.iload X5.here hx rfl (hb hby d_own_addO_61) rfl k) ?_
  show own_Go p.tables e below F (T5.setTop (mkF m 63 #[.val (.ref t), .val (.ref xa), .val (.int bc), .val (.int (0 : Int32)), .val (.int bc), .val (.int (0 : Int32)), .unset] [(.int (0 : Int32)), (.ref pg)]))
  obtain ⟨cl6, Ar6, qc6, S6, Nn6, Hh6, Gg6⟩ := id Vp
  have hin7 : ¬ ((0 : Int32) < 0 ∨ cl6.slots.size ≤ ((0 : Int32)).toNatClampNeg) := inb_of S6 ⟨by decide, by decide⟩
  refine own_st (X5.aaload hx (j := (0 : Int32)) (v := (.ref q)) (by rw [e5]; exact Ar6.1) (State.isArrayOf_alike hZ.alike Ar6.2.1) rfl Ar6.2.2 hin7 (Has.at Hh6 hin7 rfl) (g := (mkF m 63 #[.val (.ref t), .val (.ref xa), .val (.int bc), .val (.int (0 : Int32)), .val (.int bc), .val (.int (0 : Int32)), .unset] [(.int (0 : Int32)), (.ref pg)])) rfl rfl (hb hby d_own_addO_63)) ?_
  show own_Go p.tables e below F (T5.setTop (mkF m 64 #[.val (.ref t), .val (.ref xa), .val (.int bc), .val (.int (0 : Int32)), .val (.int bc), .val (.int (0 : Int32)), .unset] [(.ref q)]))
  refine own_st (fun _ k => XS.ifnonnullYes X5.here hx rfl (pc0 := 64) (pc' := 78) rfl (hb hby d_own_addO_64) rfl (by decide) (by decide) k) ?_
  show own_Go p.tables e below F (T5.setTop (mkF m 78 #[.val (.ref t), .val (.ref xa), .val (.int bc), .val (.int (0 : Int32)), .val (.int bc), .val (.int (0 : Int32)), .unset] []))
  refine own_st (fun _ k => XS.aloadN X5.here hx rfl (hb hby d_own_addO_78) rfl rfl k) ?_
  show own_Go p.tables e below F (T5.setTop (mkF m 79 #[.val (.ref t), .val (.ref xa), .val (.int bc), .val (.int (0 : Int32)), .val (.int bc), .val (.int (0 : Int32)), .unset] [(.ref xa)]))
  obtain ⟨cl8, Ar8, qc8, S8, Nn8, Hh8, Gg8⟩ := id XBu
  refine own_st (X5.arraylength hx (by rw [e5]; exact Ar8.1) (State.isArrayOf_alike hZ.alike Ar8.2.1) (g := (mkF m 79 #[.val (.ref t), .val (.ref xa), .val (.int bc), .val (.int (0 : Int32)), .val (.int bc), .val (.int (0 : Int32)), .unset] [(.ref xa)])) rfl rfl (hb hby d_own_addO_79)) ?_
  rw [len_of S8 Nn8]
  show own_Go p.tables e below F (T5.setTop (mkF m 80 #[.val (.ref t), .val (.ref xa), .val (.int bc), .val (.int (0 : Int32)), .val (.int bc), .val (.int (0 : Int32)), .unset] [(.int z)]))
  refine own_st (fun _ k => XS.iloadN X5.here hx rfl (hb hby d_own_addO_80) rfl k) ?_
  show own_Go p.tables e below F (T5.setTop (mkF m 81 #[.val (.ref t), .val (.ref xa), .val (.int bc), .val (.int (0 : Int32)), .val (.int bc), .val (.int (0 : Int32)), .unset] [(.int (0 : Int32)), (.int z)]))
  refine own_st (fun _ k => XS.isub X5.here hx rfl (hb hby d_own_addO_81) rfl k) ?_
  show own_Go p.tables e below F (T5.setTop (mkF m 82 #[.val (.ref t), .val (.ref xa), .val (.int bc), .val (.int (0 : Int32)), .val (.int bc), .val (.int (0 : Int32)), .unset] [(.int (z - (0 : Int32)))]))
  rw [Int32.sub_zero z]
  show own_Go p.tables e below F (T5.setTop (mkF m 82 #[.val (.ref t), .val (.ref xa), .val (.int bc), .val (.int (0 : Int32)), .val (.int bc), .val (.int (0 : Int32)), .unset] [(.int z)]))
  refine own_st (X5.ldcInt hx hown (mvT hZ (hw _ (List.mem_of_getElem? (i := 30) rfl))) (g := (mkF m 82 #[.val (.ref t), .val (.ref xa), .val (.int bc), .val (.int (0 : Int32)), .val (.int bc), .val (.int (0 : Int32)), .unset] [(.int z)])) rfl (hb hby d_own_addO_82)) ?_
  show own_Go p.tables e below F (T5.setTop (mkF m 84 #[.val (.ref t), .val (.ref xa), .val (.int bc), .val (.int (0 : Int32)), .val (.int bc), .val (.int (0 : Int32)), .unset] [(.int (65536 : Int32)), (.int z)]))
  refine own_st (fun _ k => XS.iload X5.here hx rfl (hb hby d_own_addO_84) rfl k) ?_
  show own_Go p.tables e below F (T5.setTop (mkF m 86 #[.val (.ref t), .val (.ref xa), .val (.int bc), .val (.int (0 : Int32)), .val (.int bc), .val (.int (0 : Int32)), .unset] [(.int bc), (.int (65536 : Int32)), (.int z)]))
  refine own_st (X5.ldcInt hx hown (mvT hZ (hw _ (List.mem_of_getElem? (i := 32) rfl))) (g := (mkF m 86 #[.val (.ref t), .val (.ref xa), .val (.int bc), .val (.int (0 : Int32)), .val (.int bc), .val (.int (0 : Int32)), .unset] [(.int bc), (.int (65536 : Int32)), (.int z)])) rfl (hb hby d_own_addO_86)) ?_
  show own_Go p.tables e below F (T5.setTop (mkF m 88 #[.val (.ref t), .val (.ref xa), .val (.int bc), .val (.int (0 : Int32)), .val (.int bc), .val (.int (0 : Int32)), .unset] [(.int (65535 : Int32)), (.int bc), (.int (65536 : Int32)), (.int z)]))
  refine own_st (fun _ k => XS.iand X5.here hx rfl (hb hby d_own_addO_88) rfl k) ?_
  show own_Go p.tables e below F (T5.setTop (mkF m 89 #[.val (.ref t), .val (.ref xa), .val (.int bc), .val (.int (0 : Int32)), .val (.int bc), .val (.int (0 : Int32)), .unset] [(.int (bc &&& (65535 : Int32))), (.int (65536 : Int32)), (.int z)]))
  rw [own_low hbc]
  show own_Go p.tables e below F (T5.setTop (mkF m 89 #[.val (.ref t), .val (.ref xa), .val (.int bc), .val (.int (0 : Int32)), .val (.int bc), .val (.int (0 : Int32)), .unset] [(.int bc), (.int (65536 : Int32)), (.int z)]))
  refine own_st (fun _ k => XS.isub X5.here hx rfl (hb hby d_own_addO_89) rfl k) ?_
  show own_Go p.tables e below F (T5.setTop (mkF m 90 #[.val (.ref t), .val (.ref xa), .val (.int bc), .val (.int (0 : Int32)), .val (.int bc), .val (.int (0 : Int32)), .unset] [(.int ((65536 : Int32) - bc)), (.int z)]))
  obtain ⟨_, _, ⟨T9, L9, k9, n9⟩, -, X9, ⟨Lc9, hQ9, l9, y9, z9⟩, st9⟩ := Jvm.LawKit.callS X5 hx (y := (⟨"java/lang/Math", "min", "(II)I"⟩ : MethodName)) hown (mvT hZ (hw _ (List.mem_of_getElem? (i := 33) rfl))) (mvT hZ (hw _ (List.mem_of_getElem? (i := 34) rfl))) (mvT hZ (hw _ (List.mem_of_getElem? (i := 35) rfl))) (mvT hZ (hw _ (List.mem_of_getElem? (i := 36) rfl))) (by decide) (backOf (W := 0) (own_minm l Z a0 hw [] z ((65536 : Int32) - bc) h0 n0) hZ (hw _ (List.mem_of_getElem? (i := 36) rfl)) (hw _ (List.mem_of_getElem? (i := 35) rfl)) (by decide) (by decide)) (g := (mkF m 90 #[.val (.ref t), .val (.ref xa), .val (.int bc), .val (.int (0 : Int32)), .val (.int bc), .val (.int (0 : Int32)), .unset] [(.int ((65536 : Int32) - bc)), (.int z)])) rfl (by rw [hml]; rfl) (argsL := [(.int z), (.int ((65536 : Int32) - bc))]) (rest := []) (lenOf pd_1 rfl) rfl (by show 2 * 0 + _ ≤ _; exact Nat.le_of_eq rfl) (hb hby d_own_addO_90) (fun _ _ => ⟨rfl, e5, (by decide : 0 + 0 ≤ _), (by decide : 0 + 0 ≤ _)⟩)
  dsimp only [Pt.U, Pt.locs, Pt.cells, Pt.slots] at X9 l9 y9 z9 st9 hQ9
  subst l9 y9 z9
  obtain ⟨rfl, N9q, e9⟩ := hQ9
  have N9 := Fr.app N1 N9q
  refine own_st (st9) ?_
  show own_Go p.tables e below F (T9.setTop (mkF m 93 #[.val (.ref t), .val (.ref xa), .val (.int bc), .val (.int (0 : Int32)), .val (.int bc), .val (.int (0 : Int32)), .unset] [(.int (own_min z ((65536 : Int32) - bc)))]))
  rw [own_cnt hbc hz]
  show own_Go p.tables e below F (T9.setTop (mkF m 93 #[.val (.ref t), .val (.ref xa), .val (.int bc), .val (.int (0 : Int32)), .val (.int bc), .val (.int (0 : Int32)), .unset] [(.int z)]))
  refine own_st (fun _ k => XS.istore X9.here hx rfl (hb hby d_own_addO_93) rfl (l' := #[.val (.ref t), .val (.ref xa), .val (.int bc), .val (.int (0 : Int32)), .val (.int bc), .val (.int (0 : Int32)), .val (.int z)]) rfl k) ?_
  show own_Go p.tables e below F (T9.setTop (mkF m 95 #[.val (.ref t), .val (.ref xa), .val (.int bc), .val (.int (0 : Int32)), .val (.int bc), .val (.int (0 : Int32)), .val (.int z)] []))
  refine own_st (fun _ k => XS.aloadN X9.here hx rfl (hb hby d_own_addO_95) rfl rfl k) ?_
  show own_Go p.tables e below F (T9.setTop (mkF m 96 #[.val (.ref t), .val (.ref xa), .val (.int bc), .val (.int (0 : Int32)), .val (.int bc), .val (.int (0 : Int32)), .val (.int z)] [(.ref xa)]))
  refine own_st (fun _ k => XS.iloadN X9.here hx rfl (hb hby d_own_addO_96) rfl k) ?_
  show own_Go p.tables e below F (T9.setTop (mkF m 97 #[.val (.ref t), .val (.ref xa), .val (.int bc), .val (.int (0 : Int32)), .val (.int bc), .val (.int (0 : Int32)), .val (.int z)] [(.int (0 : Int32)), (.ref xa)]))
  refine own_st (fun _ k => XS.aloadN X9.here hx rfl (hb hby d_own_addO_97) rfl rfl k) ?_
  show own_Go p.tables e below F (T9.setTop (mkF m 98 #[.val (.ref t), .val (.ref xa), .val (.int bc), .val (.int (0 : Int32)), .val (.int bc), .val (.int (0 : Int32)), .val (.int z)] [(.ref t), (.int (0 : Int32)), (.ref xa)]))
  obtain ⟨T10, X10, e10, st10⟩ := getF X9 hx hZ hown (host := "") (Or.inl (hw _ (List.mem_of_getElem? (i := 12) rfl))) Via.refl e9 Fp (g := (mkF m 98 #[.val (.ref t), .val (.ref xa), .val (.int bc), .val (.int (0 : Int32)), .val (.int bc), .val (.int (0 : Int32)), .val (.int z)] [(.ref t), (.int (0 : Int32)), (.ref xa)])) rfl rfl (hb hby d_own_addO_98)
  refine own_st st10 ?_
  show own_Go p.tables e below F (T10.setTop (mkF m 101 #[.val (.ref t), .val (.ref xa), .val (.int bc), .val (.int (0 : Int32)), .val (.int bc), .val (.int (0 : Int32)), .val (.int z)] [(.ref pg), (.int (0 : Int32)), (.ref xa)]))
  refine own_st (fun _ k => XS.iload X10.here hx rfl (hb hby d_own_addO_101) rfl k) ?_
  show own_Go p.tables e below F (T10.setTop (mkF m 103 #[.val (.ref t), .val (.ref xa), .val (.int bc), .val (.int (0 : Int32)), .val (.int bc), .val (.int (0 : Int32)), .val (.int z)] [(.int (0 : Int32)), (.ref pg), (.int (0 : Int32)), (.ref xa)]))
  obtain ⟨cl11, Ar11, qc11, S11, Nn11, Hh11, Gg11⟩ := id Vp
  have hin12 : ¬ ((0 : Int32) < 0 ∨ cl11.slots.size ≤ ((0 : Int32)).toNatClampNeg) := inb_of S11 ⟨by decide, by decide⟩
  refine own_st (X10.aaload hx (j := (0 : Int32)) (v := (.ref q)) (by rw [e10]; exact Ar11.1) (State.isArrayOf_alike hZ.alike Ar11.2.1) rfl Ar11.2.2 hin12 (Has.at Hh11 hin12 rfl) (g := (mkF m 103 #[.val (.ref t), .val (.ref xa), .val (.int bc), .val (.int (0 : Int32)), .val (.int bc), .val (.int (0 : Int32)), .val (.int z)] [(.int (0 : Int32)), (.ref pg), (.int (0 : Int32)), (.ref xa)])) rfl rfl (hb hby d_own_addO_103)) ?_
  show own_Go p.tables e below F (T10.setTop (mkF m 104 #[.val (.ref t), .val (.ref xa), .val (.int bc), .val (.int (0 : Int32)), .val (.int bc), .val (.int (0 : Int32)), .val (.int z)] [(.ref q), (.int (0 : Int32)), (.ref xa)]))
  refine own_st (fun _ k => XS.iload X10.here hx rfl (hb hby d_own_addO_104) rfl k) ?_
  show own_Go p.tables e below F (T10.setTop (mkF m 106 #[.val (.ref t), .val (.ref xa), .val (.int bc), .val (.int (0 : Int32)), .val (.int bc), .val (.int (0 : Int32)), .val (.int z)] [(.int bc), (.ref q), (.int (0 : Int32)), (.ref xa)]))
  refine own_st (X10.ldcInt hx hown (mvT hZ (hw _ (List.mem_of_getElem? (i := 32) rfl))) (g := (mkF m 106 #[.val (.ref t), .val (.ref xa), .val (.int bc), .val (.int (0 : Int32)), .val (.int bc), .val (.int (0 : Int32)), .val (.int z)] [(.int bc), (.ref q), (.int (0 : Int32)), (.ref xa)])) rfl (hb hby d_own_addO_106)) ?_
  show own_Go p.tables e below F (T10.setTop (mkF m 108 #[.val (.ref t), .val (.ref xa), .val (.int bc), .val (.int (0 : Int32)), .val (.int bc), .val (.int (0 : Int32)), .val (.int z)] [(.int (65535 : Int32)), (.int bc), (.ref q), (.int (0 : Int32)), (.ref xa)]))
  refine own_st (fun _ k => XS.iand X10.here hx rfl (hb hby d_own_addO_108) rfl k) ?_
  show own_Go p.tables e below F (T10.setTop (mkF m 109 #[.val (.ref t), .val (.ref xa), .val (.int bc), .val (.int (0 : Int32)), .val (.int bc), .val (.int (0 : Int32)), .val (.int z)] [(.int (bc &&& (65535 : Int32))), (.ref q), (.int (0 : Int32)), (.ref xa)]))
  rw [own_low hbc]
  show own_Go p.tables e below F (T10.setTop (mkF m 109 #[.val (.ref t), .val (.ref xa), .val (.int bc), .val (.int (0 : Int32)), .val (.int bc), .val (.int (0 : Int32)), .val (.int z)] [(.int bc), (.ref q), (.int (0 : Int32)), (.ref xa)]))
  refine own_st (fun _ k => XS.iload X10.here hx rfl (hb hby d_own_addO_109) rfl k) ?_
  show own_Go p.tables e below F (T10.setTop (mkF m 111 #[.val (.ref t), .val (.ref xa), .val (.int bc), .val (.int (0 : Int32)), .val (.int bc), .val (.int (0 : Int32)), .val (.int z)] [(.int z), (.int bc), (.ref q), (.int (0 : Int32)), (.ref xa)]))
  obtain ⟨kq, vd, hvd, Vq⟩ := GBu
  obtain ⟨T13, h13, L13, X13, e13, N13, K13, V13, st13⟩ := cpA X10 hx hZ hown (hw _ (List.mem_of_getElem? (i := 37) rfl)) (hw _ (List.mem_of_getElem? (i := 40) rfl)) (hw _ (List.mem_of_getElem? (i := 38) rfl)) (hw _ (List.mem_of_getElem? (i := 39) rfl)) e10 XBu Vq (us := _) (Or.inl ⟨rfl, rfl⟩) (sp := (0 : Int32)) (dp := bc) (nn := z) (by decide) (own_Bnn hbc) (own_nn hz) (Nat.le_of_eq (Nat.zero_add _)) (Nat.le_trans (own_room hbc hz) (by decide)) rfl (Nat.le_trans (own_room hbc hz) (Nat.le_trans (by decide : 93 ≤ 128) hvd)) N9 gn_q (g := (mkF m 111 #[.val (.ref t), .val (.ref xa), .val (.int bc), .val (.int (0 : Int32)), .val (.int bc), .val (.int (0 : Int32)), .val (.int z)] [(.int z), (.int bc), (.ref q), (.int (0 : Int32)), (.ref xa)])) rfl (by rw [hml]; rfl) rfl (hb hby d_own_addO_111) (by decide) (W := 0) (by show 2 * 0 + _ ≤ _; exact Nat.le_of_eq rfl) (by decide)
  have G13 : own_Pg Z h13 q := ⟨_, _, (by simp only [List.length_append, List.length_take, List.length_drop, List.length_map, List.length_range, List.length_replicate, List.length_nil]; have hl := own_room hbc hz; omega), V13⟩
  have Et__13 := Et.keep K13
  have Fp__13 := Fp.keep K13 (ninS ntq nin0)
  have Fe__13 := Fe.keep K13 (ninS ntq nin0)
  have Fs__13 := Fs.keep K13 (ninS ntq nin0)
  have Vp__13 := Vp.keep K13 (ninS npq nin0)
  have Ve__13 := Ve.keep K13 (ninS neq nin0)
  have XBu__13 := XBu.keep K13 (ninS nxq nin0)
  have KW_13 := (Keep.refl h0 [t, en, q]).trans K13 (allS (Or.inl (List.mem_of_getElem? (i := 2) rfl)) all0)
  refine own_st st13 ?_
  show own_Go p.tables e below F (T13.setTop (mkF m 114 #[.val (.ref t), .val (.ref xa), .val (.int bc), .val (.int (0 : Int32)), .val (.int bc), .val (.int (0 : Int32)), .val (.int z)] []))
  refine own_st (fun _ k => XS.iloadN X13.here hx rfl (hb hby d_own_addO_114) rfl k) ?_
  show own_Go p.tables e below F (T13.setTop (mkF m 115 #[.val (.ref t), .val (.ref xa), .val (.int bc), .val (.int (0 : Int32)), .val (.int bc), .val (.int (0 : Int32)), .val (.int z)] [(.int (0 : Int32))]))
  refine own_st (fun _ k => XS.iload X13.here hx rfl (hb hby d_own_addO_115) rfl k) ?_
  show own_Go p.tables e below F (T13.setTop (mkF m 117 #[.val (.ref t), .val (.ref xa), .val (.int bc), .val (.int (0 : Int32)), .val (.int bc), .val (.int (0 : Int32)), .val (.int z)] [(.int z), (.int (0 : Int32))]))
  refine own_st (fun _ k => XS.iadd X13.here hx rfl (hb hby d_own_addO_117) rfl k) ?_
  show own_Go p.tables e below F (T13.setTop (mkF m 118 #[.val (.ref t), .val (.ref xa), .val (.int bc), .val (.int (0 : Int32)), .val (.int bc), .val (.int (0 : Int32)), .val (.int z)] [(.int ((0 : Int32) + z))]))
  rw [Int32.zero_add z]
  show own_Go p.tables e below F (T13.setTop (mkF m 118 #[.val (.ref t), .val (.ref xa), .val (.int bc), .val (.int (0 : Int32)), .val (.int bc), .val (.int (0 : Int32)), .val (.int z)] [(.int z)]))
  refine own_st (fun _ k => XS.istoreN X13.here hx rfl (hb hby d_own_addO_118) rfl (l' := #[.val (.ref t), .val (.ref xa), .val (.int bc), .val (.int z), .val (.int bc), .val (.int (0 : Int32)), .val (.int z)]) rfl k) ?_
  show own_Go p.tables e below F (T13.setTop (mkF m 119 #[.val (.ref t), .val (.ref xa), .val (.int bc), .val (.int z), .val (.int bc), .val (.int (0 : Int32)), .val (.int z)] []))
  refine own_st (fun _ k => XS.goto X13.here hx rfl (pc0 := 119) (pc' := 7) rfl (hb hby d_own_addO_119) (by decide) (by decide) k) ?_
  show own_Go p.tables e below F (T13.setTop (mkF m 7 #[.val (.ref t), .val (.ref xa), .val (.int bc), .val (.int z), .val (.int bc), .val (.int (0 : Int32)), .val (.int z)] []))
  refine own_st (fun _ k => XS.iloadN X13.here hx rfl (hb hby d_own_addO_7) rfl k) ?_
  show own_Go p.tables e below F (T13.setTop (mkF m 8 #[.val (.ref t), .val (.ref xa), .val (.int bc), .val (.int z), .val (.int bc), .val (.int (0 : Int32)), .val (.int z)] [(.int z)]))
  refine own_st (fun _ k => XS.aloadN X13.here hx rfl (hb hby d_own_addO_8) rfl rfl k) ?_
  show own_Go p.tables e below F (T13.setTop (mkF m 9 #[.val (.ref t), .val (.ref xa), .val (.int bc), .val (.int z), .val (.int bc), .val (.int (0 : Int32)), .val (.int z)] [(.ref xa), (.int z)]))
  obtain ⟨cl14, Ar14, qc14, S14, Nn14, Hh14, Gg14⟩ := id XBu__13
  refine own_st (X13.arraylength hx (by rw [e13]; exact Ar14.1) (State.isArrayOf_alike hZ.alike Ar14.2.1) (g := (mkF m 9 #[.val (.ref t), .val (.ref xa), .val (.int bc), .val (.int z), .val (.int bc), .val (.int (0 : Int32)), .val (.int z)] [(.ref xa), (.int z)])) rfl rfl (hb hby d_own_addO_9)) ?_
  rw [len_of S14 Nn14]
  show own_Go p.tables e below F (T13.setTop (mkF m 10 #[.val (.ref t), .val (.ref xa), .val (.int bc), .val (.int z), .val (.int bc), .val (.int (0 : Int32)), .val (.int z)] [(.int z), (.int z)]))
  refine own_st (fun _ k => XS.icmpYes X13.here hx rfl (pc0 := 10) (pc' := 122) rfl (hb hby d_own_addO_10) rfl (flt (Int32.lt_irrefl : ¬ (z < z))).2.1 (by decide) (by decide) k) ?_
  show own_Go p.tables e below F (T13.setTop (mkF m 122 #[.val (.ref t), .val (.ref xa), .val (.int bc), .val (.int z), .val (.int bc), .val (.int (0 : Int32)), .val (.int z)] []))
  refine own_st (fun _ k => XS.aloadN X13.here hx rfl (hb hby d_own_addO_122) rfl rfl k) ?_
  show own_Go p.tables e below F (T13.setTop (mkF m 123 #[.val (.ref t), .val (.ref xa), .val (.int bc), .val (.int z), .val (.int bc), .val (.int (0 : Int32)), .val (.int z)] [(.ref t)]))
  obtain ⟨T15, X15, e15, st15⟩ := getF X13 hx hZ hown (host := "") (Or.inl (hw _ (List.mem_of_getElem? (i := 15) rfl))) Via.refl e13 Fe__13 (g := (mkF m 123 #[.val (.ref t), .val (.ref xa), .val (.int bc), .val (.int z), .val (.int bc), .val (.int (0 : Int32)), .val (.int z)] [(.ref t)])) rfl rfl (hb hby d_own_addO_123)
  refine own_st st15 ?_
  show own_Go p.tables e below F (T15.setTop (mkF m 126 #[.val (.ref t), .val (.ref xa), .val (.int bc), .val (.int z), .val (.int bc), .val (.int (0 : Int32)), .val (.int z)] [(.ref en)]))
  refine own_st (fun _ k => XS.aloadN X15.here hx rfl (hb hby d_own_addO_126) rfl rfl k) ?_
  show own_Go p.tables e below F (T15.setTop (mkF m 127 #[.val (.ref t), .val (.ref xa), .val (.int bc), .val (.int z), .val (.int bc), .val (.int (0 : Int32)), .val (.int z)] [(.ref t), (.ref en)]))
  refine own_st (fun _ k => XS.dup X15.here hx rfl (hb hby d_own_addO_127) rfl rfl k) ?_
  show own_Go p.tables e below F (T15.setTop (mkF m 128 #[.val (.ref t), .val (.ref xa), .val (.int bc), .val (.int z), .val (.int bc), .val (.int (0 : Int32)), .val (.int z)] [(.ref t), (.ref t), (.ref en)]))
  obtain ⟨T16, X16, e16, st16⟩ := getF X15 hx hZ hown (host := "") (Or.inl (hw _ (List.mem_of_getElem? (i := 22) rfl))) Via.refl e15 Fs__13 (g := (mkF m 128 #[.val (.ref t), .val (.ref xa), .val (.int bc), .val (.int z), .val (.int bc), .val (.int (0 : Int32)), .val (.int z)] [(.ref t), (.ref t), (.ref en)])) rfl rfl (hb hby d_own_addO_128)
  refine own_st st16 ?_
  show own_Go p.tables e below F (T16.setTop (mkF m 131 #[.val (.ref t), .val (.ref xa), .val (.int bc), .val (.int z), .val (.int bc), .val (.int (0 : Int32)), .val (.int z)] [(.int sz), (.ref t), (.ref en)]))
  refine own_st (fun _ k => XS.dupX1 X16.here hx rfl (hb hby d_own_addO_131) rfl rfl rfl k) ?_
  show own_Go p.tables e below F (T16.setTop (mkF m 132 #[.val (.ref t), .val (.ref xa), .val (.int bc), .val (.int z), .val (.int bc), .val (.int (0 : Int32)), .val (.int z)] [(.int sz), (.ref t), (.int sz), (.ref en)]))
  refine own_st (fun _ k => XS.iconst X16.here hx rfl (hb hby d_own_addO_132) k) ?_
  show own_Go p.tables e below F (T16.setTop (mkF m 133 #[.val (.ref t), .val (.ref xa), .val (.int bc), .val (.int z), .val (.int bc), .val (.int (0 : Int32)), .val (.int z)] [(.int (1 : Int32)), (.int sz), (.ref t), (.int sz), (.ref en)]))
  refine own_st (fun _ k => XS.iadd X16.here hx rfl (hb hby d_own_addO_133) rfl k) ?_
  show own_Go p.tables e below F (T16.setTop (mkF m 134 #[.val (.ref t), .val (.ref xa), .val (.int bc), .val (.int z), .val (.int bc), .val (.int (0 : Int32)), .val (.int z)] [(.int (sz + (1 : Int32))), (.ref t), (.int sz), (.ref en)]))
  rw [← hs1]
  show own_Go p.tables e below F (T16.setTop (mkF m 134 #[.val (.ref t), .val (.ref xa), .val (.int bc), .val (.int z), .val (.int bc), .val (.int (0 : Int32)), .val (.int z)] [(.int sz'), (.ref t), (.int sz), (.ref en)]))
  obtain ⟨T17, h17, X17, e17, W17, st17⟩ := putF X16 hx hZ hown (host := "") (Or.inl (hw _ (List.mem_of_getElem? (i := 22) rfl))) Via.refl e16 Fs__13 Et__13 (Or.inl (hw _ (List.mem_of_getElem? (i := 23) rfl))) (hw _ (List.mem_of_getElem? (i := 2) rfl)) (ty := .int) (by decide) rfl rfl (g := (mkF m 134 #[.val (.ref t), .val (.ref xa), .val (.int bc), .val (.int z), .val (.int bc), .val (.int (0 : Int32)), .val (.int z)] [(.int sz'), (.ref t), (.int sz), (.ref en)])) rfl rfl (hb hby d_own_addO_134)
  have Fw17 := Fs__13.same W17
  have Et__17 := Et__13.wr W17
  have Fp__17 := Fp__13.other W17 (Or.inr (slot_ne (Or.inl (hw _ (List.mem_of_getElem? (i := 13) rfl))) (Or.inl (hw _ (List.mem_of_getElem? (i := 23) rfl))) (by decide) (t := (.array (.array .byte))) (t' := .int) (by decide) (by decide)))
  have Fe__17 := Fe__13.other W17 (Or.inr (slot_ne (Or.inr (hw _ (List.mem_of_getElem? (i := 16) rfl))) (Or.inl (hw _ (List.mem_of_getElem? (i := 23) rfl))) (by decide) (t := (.array .int)) (t' := .int) (by decide) (by decide)))
  have Vp__17 := Vp__13.other W17 (Ne.symm ntp)
  have Ve__17 := Ve__13.other W17 (Ne.symm nte)
  have XBu__17 := XBu__13.other W17 nxt
  have G13__17 := own_Pg_keep G13 (Keep.of_wr W17) (ninS (Ne.symm ntq) nin0)
  have KW_17 := KW_13.wr W17 (Or.inl (List.mem_of_getElem? (i := 0) rfl))
  have N17 := Fr.snoc X17 N13 gn_t
  refine own_st st17 ?_
  show own_Go p.tables e below F (T17.setTop (mkF m 137 #[.val (.ref t), .val (.ref xa), .val (.int bc), .val (.int z), .val (.int bc), .val (.int (0 : Int32)), .val (.int z)] [(.int sz), (.ref en)]))
  refine own_st (fun _ k => XS.iloadN X17.here hx rfl (hb hby d_own_addO_137) rfl k) ?_
  show own_Go p.tables e below F (T17.setTop (mkF m 138 #[.val (.ref t), .val (.ref xa), .val (.int bc), .val (.int z), .val (.int bc), .val (.int (0 : Int32)), .val (.int z)] [(.int bc), (.int sz), (.ref en)]))
  refine own_st (fun _ k => XS.aloadN X17.here hx rfl (hb hby d_own_addO_138) rfl rfl k) ?_
  show own_Go p.tables e below F (T17.setTop (mkF m 139 #[.val (.ref t), .val (.ref xa), .val (.int bc), .val (.int z), .val (.int bc), .val (.int (0 : Int32)), .val (.int z)] [(.ref xa), (.int bc), (.int sz), (.ref en)]))
  obtain ⟨cl18, Ar18, qc18, S18, Nn18, Hh18, Gg18⟩ := id XBu__17
  refine own_st (X17.arraylength hx (by rw [e17]; exact Ar18.1) (State.isArrayOf_alike hZ.alike Ar18.2.1) (g := (mkF m 139 #[.val (.ref t), .val (.ref xa), .val (.int bc), .val (.int z), .val (.int bc), .val (.int (0 : Int32)), .val (.int z)] [(.ref xa), (.int bc), (.int sz), (.ref en)])) rfl rfl (hb hby d_own_addO_139)) ?_
  rw [len_of S18 Nn18]
  show own_Go p.tables e below F (T17.setTop (mkF m 140 #[.val (.ref t), .val (.ref xa), .val (.int bc), .val (.int z), .val (.int bc), .val (.int (0 : Int32)), .val (.int z)] [(.int z), (.int bc), (.int sz), (.ref en)]))
  refine own_st (fun _ k => XS.iadd X17.here hx rfl (hb hby d_own_addO_140) rfl k) ?_
  show own_Go p.tables e below F (T17.setTop (mkF m 141 #[.val (.ref t), .val (.ref xa), .val (.int bc), .val (.int z), .val (.int bc), .val (.int (0 : Int32)), .val (.int z)] [(.int (bc + z)), (.int sz), (.ref en)]))
  rw [← he]
  show own_Go p.tables e below F (T17.setTop (mkF m 141 #[.val (.ref t), .val (.ref xa), .val (.int bc), .val (.int z), .val (.int bc), .val (.int (0 : Int32)), .val (.int z)] [(.int ee), (.int sz), (.ref en)]))
  obtain ⟨cl19, Ar19, qc19, S19, Nn19, Hh19, Gg19⟩ := id Ve__17
  have hin20 : ¬ (sz < 0 ∨ cl19.slots.size ≤ (sz).toNatClampNeg) := inb_of S19 hsz
  obtain ⟨T20, h20, X20, e20, W20, st20⟩ := stI X17 hx hZ e17 Ar19 (j := sz) hin20 (g := (mkF m 141 #[.val (.ref t), .val (.ref xa), .val (.int bc), .val (.int z), .val (.int bc), .val (.int (0 : Int32)), .val (.int z)] [(.int ee), (.int sz), (.ref en)])) rfl rfl (hb hby d_own_addO_141)
  have V20 : Arv Z h20 en kE .int (3 : Int32) (vs.set sz.toNatClampNeg (.int ee)) (.int (0 : Int32)) := Arv.set Ar19 qc19 S19 Nn19 Hh19 Gg19 rfl W20 sz.toNatClampNeg rfl (by rw [hlen]; exact own_in3 hsz)
  have Et__20 := Et__17.wr W20
  have Fp__20 := Fp__17.other W20 (Or.inl nte)
  have Fe__20 := Fe__17.other W20 (Or.inl nte)
  have Vp__20 := Vp__17.other W20 npe
  have XBu__20 := XBu__17.other W20 nxe
  have G13__20 := own_Pg_keep G13__17 (Keep.of_wr W20) (ninS (Ne.symm neq) nin0)
  have Fw17__20 := Fw17.other W20 (Or.inl nte)
  have KW_20 := KW_17.wr W20 (Or.inl (List.mem_of_getElem? (i := 1) rfl))
  have N20 := Fr.snoc X20 N17 gn_en
  refine own_st st20 ?_
  show own_Go p.tables e below F (T20.setTop (mkF m 142 #[.val (.ref t), .val (.ref xa), .val (.int bc), .val (.int z), .val (.int bc), .val (.int (0 : Int32)), .val (.int z)] []))
  obtain ⟨fs, hrL, hrun, hended, hW, hsame⟩ := X20.leave (v := none) (fun _ => rfl)
  refine own_end hF (o := .returned none) (X20.returnOut hx Bd.returns (hb hby d_own_addO_142) hrL) ?_
  refine ⟨hrun, hended, _, _, rfl, ?_, ⟨_, rfl⟩, hW, hsame.mono (by decide) (by decide)⟩
  have eh : T20.heap = h20 := e20
  show own_Qo Z t pg en kP kE sz' vs sz ee q h0 n0 _ T20.heap _
  rw [eh]
  exact ⟨rfl, N20, KW_20, ⟨Et__20, Fp__20, Fe__20, Fw17__20, Vp__20, V20, Op⟩, G13__20⟩
theorem pn_com_example_libmerit_libmerit_index_DocnoTableByteCountPinLaw : plainName "com/example/libmerit/libmerit/index/DocnoTableByteCountPinLaw" = true := by first | (simp [plainName, overriddenIn]; done) | decide +kernel
theorem pd_2 : parseMethodDescriptor "(I)V" = some ⟨[.int], none⟩ := by decide +kernel
theorem pd_3 : parseMethodDescriptor "([B)V" = some ⟨[(.array .byte)], none⟩ := by decide +kernel
set_option maxRecDepth 65536 in
set_option maxHeartbeats 40000000 in
theorem own_law (l : Launch) (Z : State) (a0 : Array Value) (hw : ∀ d ∈ tables_1, d.before a0 Z = true) (ws : List Jvm.Cond) (p0 p1 p2 p3 : Int32) (h0 : Heap) (n0 : Nat) (Z0 : n0 ≤ h0.size) :
    own_Met l Z x code maxLocals ret ws room_1 #[(.int p0), (.int p1), (.int p2), (.int p3)] h0 (own_Q0 h0 n0) := by
  refine MetFree.of_bodySF (plainFor_of_name pn_com_example_libmerit_libmerit_index_DocnoTableByteCountPinLaw) hisR ?_
  intro p e s m args below meth c s₁ Bd hml0 hP hK
  obtain ⟨rfl, hZ, hh⟩ := hP
  have hx := Bd.exec
  have hby := Bd.bytes
  have hml : c.maxLocals = 13 := hml0
  have hown : s.vm.findClass "com/example/libmerit/libmerit/index/DocnoTableByteCountPinLaw" = some m.cls := findClass_of_methodNamed Bd.named
  have hnm := (name_of_methodNamed Bd.named Bd.method).1
  have X0 : Stand p l e room_1 s m #[(.int p0), (.int p1), (.int p2), (.int p3)] below meth c s₁ [] 0 0 := Stand.of_body Bd
  have e0 : s₁.heap = h0 := by rw [← hh, Bd.state]; rfl
  have N0 := Fr.nil n0
  have hst : entryFrame m #[(.int p0), (.int p1), (.int p2), (.int p3)] maxLocals = mkF m 0 #[.val (.int p0), .val (.int p1), .val (.int p2), .val (.int p3), .unset, .unset, .unset, .unset, .unset, .unset, .unset, .unset, .unset] [] := by first | (simp [entryFrame, mkF, argsToLocals, Value.category, maxLocals]; done) | rfl
  obtain ⟨F, hF⟩ : ∃ F : State → Outcome → Prop, F = fun s₂ o => (s₂.status = .running ∧ Ended s₂ below o ∧ ∃ v L, o = .returned v ∧ (own_Q0 h0 n0) v s₂.heap L ∧ FrameEnd s o s₂ L (Room.cells room_1) (Room.slots room_1)) := ⟨_, rfl⟩
  suffices G : own_Go p.tables e below F (s₁.setTop (mkF m 0 #[.val (.int p0), .val (.int p1), .val (.int p2), .val (.int p3), .unset, .unset, .unset, .unset, .unset, .unset, .unset, .unset, .unset] [])) by
    obtain ⟨t, o, a, b⟩ := G
    rw [hF] at b
    exact ⟨t, o, castTop hst a, b⟩
  show own_Go p.tables e below F (s₁.setTop (mkF m 0 #[.val (.int p0), .val (.int p1), .val (.int p2), .val (.int p3), .unset, .unset, .unset, .unset, .unset, .unset, .unset, .unset, .unset] []))
  refine own_st (fun _ k => XS.iloadN X0.here hx rfl (hb hby at_0) rfl k) ?_
  show own_Go p.tables e below F (s₁.setTop (mkF m 1 #[.val (.int p0), .val (.int p1), .val (.int p2), .val (.int p3), .unset, .unset, .unset, .unset, .unset, .unset, .unset, .unset, .unset] [(.int p0)]))
  refine own_st (fun _ k => XS.iconst X0.here hx rfl (hb hby at_1) k) ?_
  show own_Go p.tables e below F (s₁.setTop (mkF m 2 #[.val (.int p0), .val (.int p1), .val (.int p2), .val (.int p3), .unset, .unset, .unset, .unset, .unset, .unset, .unset, .unset, .unset] [(.int (3 : Int32)), (.int p0)]))
  refine own_st (fun _ k => XS.iand X0.here hx rfl (hb hby at_2) rfl k) ?_
  show own_Go p.tables e below F (s₁.setTop (mkF m 3 #[.val (.int p0), .val (.int p1), .val (.int p2), .val (.int p3), .unset, .unset, .unset, .unset, .unset, .unset, .unset, .unset, .unset] [(.int (p0 &&& (3 : Int32)))]))
  refine own_st (fun _ k => XS.istore X0.here hx rfl (hb hby at_3) rfl (l' := #[.val (.int p0), .val (.int p1), .val (.int p2), .val (.int p3), .val (.int (p0 &&& (3 : Int32))), .unset, .unset, .unset, .unset, .unset, .unset, .unset, .unset]) rfl k) ?_
  show own_Go p.tables e below F (s₁.setTop (mkF m 5 #[.val (.int p0), .val (.int p1), .val (.int p2), .val (.int p3), .val (.int (p0 &&& (3 : Int32))), .unset, .unset, .unset, .unset, .unset, .unset, .unset, .unset] []))
  refine own_st (fun _ k => XS.iloadN X0.here hx rfl (hb hby at_5) rfl k) ?_
  show own_Go p.tables e below F (s₁.setTop (mkF m 6 #[.val (.int p0), .val (.int p1), .val (.int p2), .val (.int p3), .val (.int (p0 &&& (3 : Int32))), .unset, .unset, .unset, .unset, .unset, .unset, .unset, .unset] [(.int p1)]))
  refine own_st (fun _ k => XS.bipush X0.here hx rfl (hb hby at_6) k) ?_
  show own_Go p.tables e below F (s₁.setTop (mkF m 8 #[.val (.int p0), .val (.int p1), .val (.int p2), .val (.int p3), .val (.int (p0 &&& (3 : Int32))), .unset, .unset, .unset, .unset, .unset, .unset, .unset, .unset] [(.int (31 : Int32)), (.int p1)]))
  refine own_st (fun _ k => XS.iand X0.here hx rfl (hb hby at_8) rfl k) ?_
  show own_Go p.tables e below F (s₁.setTop (mkF m 9 #[.val (.int p0), .val (.int p1), .val (.int p2), .val (.int p3), .val (.int (p0 &&& (3 : Int32))), .unset, .unset, .unset, .unset, .unset, .unset, .unset, .unset] [(.int (p1 &&& (31 : Int32)))]))
  refine own_st (fun _ k => XS.istore X0.here hx rfl (hb hby at_9) rfl (l' := #[.val (.int p0), .val (.int p1), .val (.int p2), .val (.int p3), .val (.int (p0 &&& (3 : Int32))), .val (.int (p1 &&& (31 : Int32))), .unset, .unset, .unset, .unset, .unset, .unset, .unset]) rfl k) ?_
  show own_Go p.tables e below F (s₁.setTop (mkF m 11 #[.val (.int p0), .val (.int p1), .val (.int p2), .val (.int p3), .val (.int (p0 &&& (3 : Int32))), .val (.int (p1 &&& (31 : Int32))), .unset, .unset, .unset, .unset, .unset, .unset, .unset] []))
  refine own_st (fun _ k => XS.iloadN X0.here hx rfl (hb hby at_11) rfl k) ?_
  show own_Go p.tables e below F (s₁.setTop (mkF m 12 #[.val (.int p0), .val (.int p1), .val (.int p2), .val (.int p3), .val (.int (p0 &&& (3 : Int32))), .val (.int (p1 &&& (31 : Int32))), .unset, .unset, .unset, .unset, .unset, .unset, .unset] [(.int p2)]))
  refine own_st (fun _ k => XS.bipush X0.here hx rfl (hb hby at_12) k) ?_
  show own_Go p.tables e below F (s₁.setTop (mkF m 14 #[.val (.int p0), .val (.int p1), .val (.int p2), .val (.int p3), .val (.int (p0 &&& (3 : Int32))), .val (.int (p1 &&& (31 : Int32))), .unset, .unset, .unset, .unset, .unset, .unset, .unset] [(.int (31 : Int32)), (.int p2)]))
  refine own_st (fun _ k => XS.iand X0.here hx rfl (hb hby at_14) rfl k) ?_
  show own_Go p.tables e below F (s₁.setTop (mkF m 15 #[.val (.int p0), .val (.int p1), .val (.int p2), .val (.int p3), .val (.int (p0 &&& (3 : Int32))), .val (.int (p1 &&& (31 : Int32))), .unset, .unset, .unset, .unset, .unset, .unset, .unset] [(.int (p2 &&& (31 : Int32)))]))
  refine own_st (fun _ k => XS.istore X0.here hx rfl (hb hby at_15) rfl (l' := #[.val (.int p0), .val (.int p1), .val (.int p2), .val (.int p3), .val (.int (p0 &&& (3 : Int32))), .val (.int (p1 &&& (31 : Int32))), .val (.int (p2 &&& (31 : Int32))), .unset, .unset, .unset, .unset, .unset, .unset]) rfl k) ?_
  show own_Go p.tables e below F (s₁.setTop (mkF m 17 #[.val (.int p0), .val (.int p1), .val (.int p2), .val (.int p3), .val (.int (p0 &&& (3 : Int32))), .val (.int (p1 &&& (31 : Int32))), .val (.int (p2 &&& (31 : Int32))), .unset, .unset, .unset, .unset, .unset, .unset] []))
  refine own_st (fun _ k => XS.iloadN X0.here hx rfl (hb hby at_17) rfl k) ?_
  show own_Go p.tables e below F (s₁.setTop (mkF m 18 #[.val (.int p0), .val (.int p1), .val (.int p2), .val (.int p3), .val (.int (p0 &&& (3 : Int32))), .val (.int (p1 &&& (31 : Int32))), .val (.int (p2 &&& (31 : Int32))), .unset, .unset, .unset, .unset, .unset, .unset] [(.int p3)]))
  refine own_st (fun _ k => XS.bipush X0.here hx rfl (hb hby at_18) k) ?_
  show own_Go p.tables e below F (s₁.setTop (mkF m 20 #[.val (.int p0), .val (.int p1), .val (.int p2), .val (.int p3), .val (.int (p0 &&& (3 : Int32))), .val (.int (p1 &&& (31 : Int32))), .val (.int (p2 &&& (31 : Int32))), .unset, .unset, .unset, .unset, .unset, .unset] [(.int (31 : Int32)), (.int p3)]))
  refine own_st (fun _ k => XS.iand X0.here hx rfl (hb hby at_20) rfl k) ?_
  show own_Go p.tables e below F (s₁.setTop (mkF m 21 #[.val (.int p0), .val (.int p1), .val (.int p2), .val (.int p3), .val (.int (p0 &&& (3 : Int32))), .val (.int (p1 &&& (31 : Int32))), .val (.int (p2 &&& (31 : Int32))), .unset, .unset, .unset, .unset, .unset, .unset] [(.int (p3 &&& (31 : Int32)))]))
  refine own_st (fun _ k => XS.istore X0.here hx rfl (hb hby at_21) rfl (l' := #[.val (.int p0), .val (.int p1), .val (.int p2), .val (.int p3), .val (.int (p0 &&& (3 : Int32))), .val (.int (p1 &&& (31 : Int32))), .val (.int (p2 &&& (31 : Int32))), .val (.int (p3 &&& (31 : Int32))), .unset, .unset, .unset, .unset, .unset]) rfl k) ?_
  show own_Go p.tables e below F (s₁.setTop (mkF m 23 #[.val (.int p0), .val (.int p1), .val (.int p2), .val (.int p3), .val (.int (p0 &&& (3 : Int32))), .val (.int (p1 &&& (31 : Int32))), .val (.int (p2 &&& (31 : Int32))), .val (.int (p3 &&& (31 : Int32))), .unset, .unset, .unset, .unset, .unset] []))
  have hA := own_mask p1
  generalize (p1 &&& (31 : Int32)) = la at hA ⊢
  have hB := own_mask p2
  generalize (p2 &&& (31 : Int32)) = lb at hB ⊢
  have hC := own_mask p3
  generalize (p3 &&& (31 : Int32)) = lc at hC ⊢
  show own_Go p.tables e below F (s₁.setTop (mkF m 23 #[.val (.int p0), .val (.int p1), .val (.int p2), .val (.int p3), .val (.int (p0 &&& (3 : Int32))), .val (.int la), .val (.int lb), .val (.int lc), .unset, .unset, .unset, .unset, .unset] []))
  refine own_st (fun _ k => XS.iload X0.here hx rfl (hb hby at_23) rfl k) ?_
  show own_Go p.tables e below F (s₁.setTop (mkF m 25 #[.val (.int p0), .val (.int p1), .val (.int p2), .val (.int p3), .val (.int (p0 &&& (3 : Int32))), .val (.int la), .val (.int lb), .val (.int lc), .unset, .unset, .unset, .unset, .unset] [(.int la)]))
  obtain ⟨T1, h1, k1, X1, e1, E1, A1, st1⟩ := newP X0 hx hZ (hw _ (List.mem_of_getElem? (i := 0) rfl)) e0 (g := (mkF m 25 #[.val (.int p0), .val (.int p1), .val (.int p2), .val (.int p3), .val (.int (p0 &&& (3 : Int32))), .val (.int la), .val (.int lb), .val (.int lc), .unset, .unset, .unset, .unset, .unset] [(.int la)])) rfl (hb hby at_25) rfl (own_nn hA) (cap := 31) (own_le hA) (by decide) (by decide) (by decide)
  obtain ⟨b1, g1⟩ : ∃ z, z = h0.size := ⟨_, rfl⟩
  rw [← g1] at A1 st1
  have sz_b1 : h0.size ≤ b1 := Nat.le_trans own_ext_refl.1 (Nat.le_of_eq g1.symm)
  have gn_b1 : n0 ≤ b1 := Nat.le_trans Z0 sz_b1
  have K0_1 := own_ext_ext own_ext_refl E1
  have V1 : Arv Z h1 b1 k1 .byte la [] (.int (0 : Int32)) := Arv.new A1 (own_nn hA)
  refine own_st st1 ?_
  show own_Go p.tables e below F (T1.setTop (mkF m 27 #[.val (.int p0), .val (.int p1), .val (.int p2), .val (.int p3), .val (.int (p0 &&& (3 : Int32))), .val (.int la), .val (.int lb), .val (.int lc), .unset, .unset, .unset, .unset, .unset] [(.ref b1)]))
  refine own_st (fun _ k => XS.astore X1.here hx rfl (hb hby at_27) rfl rfl (l' := #[.val (.int p0), .val (.int p1), .val (.int p2), .val (.int p3), .val (.int (p0 &&& (3 : Int32))), .val (.int la), .val (.int lb), .val (.int lc), .val (.ref b1), .unset, .unset, .unset, .unset]) rfl k) ?_
  show own_Go p.tables e below F (T1.setTop (mkF m 29 #[.val (.int p0), .val (.int p1), .val (.int p2), .val (.int p3), .val (.int (p0 &&& (3 : Int32))), .val (.int la), .val (.int lb), .val (.int lc), .val (.ref b1), .unset, .unset, .unset, .unset] []))
  refine own_st (fun _ k => XS.iload X1.here hx rfl (hb hby at_29) rfl k) ?_
  show own_Go p.tables e below F (T1.setTop (mkF m 31 #[.val (.int p0), .val (.int p1), .val (.int p2), .val (.int p3), .val (.int (p0 &&& (3 : Int32))), .val (.int la), .val (.int lb), .val (.int lc), .val (.ref b1), .unset, .unset, .unset, .unset] [(.int lb)]))
  obtain ⟨T2, h2, k2, X2, e2, E2, A2, st2⟩ := newP X1 hx hZ (hw _ (List.mem_of_getElem? (i := 0) rfl)) e1 (g := (mkF m 31 #[.val (.int p0), .val (.int p1), .val (.int p2), .val (.int p3), .val (.int (p0 &&& (3 : Int32))), .val (.int la), .val (.int lb), .val (.int lc), .val (.ref b1), .unset, .unset, .unset, .unset] [(.int lb)])) rfl (hb hby at_31) rfl (own_nn hB) (cap := 31) (own_le hB) (by decide) (by decide) (by decide)
  obtain ⟨b2, g2⟩ : ∃ z, z = h1.size := ⟨_, rfl⟩
  rw [← g2] at A2 st2
  have sz_b2 : h0.size ≤ b2 := Nat.le_trans K0_1.1 (Nat.le_of_eq g2.symm)
  have gn_b2 : n0 ≤ b2 := Nat.le_trans Z0 sz_b2
  have ne_b1_b2 : b1 ≠ b2 := Nat.ne_of_lt (Nat.lt_of_lt_of_le V1.lt (Nat.le_of_eq g2.symm))
  have V1__2 := V1.ext E2
  have K0_2 := own_ext_ext K0_1 E2
  have V2 : Arv Z h2 b2 k2 .byte lb [] (.int (0 : Int32)) := Arv.new A2 (own_nn hB)
  refine own_st st2 ?_
  show own_Go p.tables e below F (T2.setTop (mkF m 33 #[.val (.int p0), .val (.int p1), .val (.int p2), .val (.int p3), .val (.int (p0 &&& (3 : Int32))), .val (.int la), .val (.int lb), .val (.int lc), .val (.ref b1), .unset, .unset, .unset, .unset] [(.ref b2)]))
  refine own_st (fun _ k => XS.astore X2.here hx rfl (hb hby at_33) rfl rfl (l' := #[.val (.int p0), .val (.int p1), .val (.int p2), .val (.int p3), .val (.int (p0 &&& (3 : Int32))), .val (.int la), .val (.int lb), .val (.int lc), .val (.ref b1), .val (.ref b2), .unset, .unset, .unset]) rfl k) ?_
  show own_Go p.tables e below F (T2.setTop (mkF m 35 #[.val (.int p0), .val (.int p1), .val (.int p2), .val (.int p3), .val (.int (p0 &&& (3 : Int32))), .val (.int la), .val (.int lb), .val (.int lc), .val (.ref b1), .val (.ref b2), .unset, .unset, .unset] []))
  refine own_st (fun _ k => XS.iload X2.here hx rfl (hb hby at_35) rfl k) ?_
  show own_Go p.tables e below F (T2.setTop (mkF m 37 #[.val (.int p0), .val (.int p1), .val (.int p2), .val (.int p3), .val (.int (p0 &&& (3 : Int32))), .val (.int la), .val (.int lb), .val (.int lc), .val (.ref b1), .val (.ref b2), .unset, .unset, .unset] [(.int lc)]))
  obtain ⟨T3, h3, k3, X3, e3, E3, A3, st3⟩ := newP X2 hx hZ (hw _ (List.mem_of_getElem? (i := 0) rfl)) e2 (g := (mkF m 37 #[.val (.int p0), .val (.int p1), .val (.int p2), .val (.int p3), .val (.int (p0 &&& (3 : Int32))), .val (.int la), .val (.int lb), .val (.int lc), .val (.ref b1), .val (.ref b2), .unset, .unset, .unset] [(.int lc)])) rfl (hb hby at_37) rfl (own_nn hC) (cap := 31) (own_le hC) (by decide) (by decide) (by decide)
  obtain ⟨b3, g3⟩ : ∃ z, z = h2.size := ⟨_, rfl⟩
  rw [← g3] at A3 st3
  have sz_b3 : h0.size ≤ b3 := Nat.le_trans K0_2.1 (Nat.le_of_eq g3.symm)
  have gn_b3 : n0 ≤ b3 := Nat.le_trans Z0 sz_b3
  have ne_b1_b3 : b1 ≠ b3 := Nat.ne_of_lt (Nat.lt_of_lt_of_le V1__2.lt (Nat.le_of_eq g3.symm))
  have ne_b2_b3 : b2 ≠ b3 := Nat.ne_of_lt (Nat.lt_of_lt_of_le V2.lt (Nat.le_of_eq g3.symm))
  have V1__3 := V1__2.ext E3
  have V2__3 := V2.ext E3
  have K0_3 := own_ext_ext K0_2 E3
  have V3 : Arv Z h3 b3 k3 .byte lc [] (.int (0 : Int32)) := Arv.new A3 (own_nn hC)
  refine own_st st3 ?_
  show own_Go p.tables e below F (T3.setTop (mkF m 39 #[.val (.int p0), .val (.int p1), .val (.int p2), .val (.int p3), .val (.int (p0 &&& (3 : Int32))), .val (.int la), .val (.int lb), .val (.int lc), .val (.ref b1), .val (.ref b2), .unset, .unset, .unset] [(.ref b3)]))
  refine own_st (fun _ k => XS.astore X3.here hx rfl (hb hby at_39) rfl rfl (l' := #[.val (.int p0), .val (.int p1), .val (.int p2), .val (.int p3), .val (.int (p0 &&& (3 : Int32))), .val (.int la), .val (.int lb), .val (.int lc), .val (.ref b1), .val (.ref b2), .val (.ref b3), .unset, .unset]) rfl k) ?_
  show own_Go p.tables e below F (T3.setTop (mkF m 41 #[.val (.int p0), .val (.int p1), .val (.int p2), .val (.int p3), .val (.int (p0 &&& (3 : Int32))), .val (.int la), .val (.int lb), .val (.int lc), .val (.ref b1), .val (.ref b2), .val (.ref b3), .unset, .unset] []))
  obtain ⟨T4, h4, X4, e4, E4, A4, D4, -, st4⟩ := newO X3 hx hZ hown (hw _ (List.mem_of_getElem? (i := 1) rfl)) (hw _ (List.mem_of_getElem? (i := 2) rfl)) (hw _ (List.mem_of_getElem? (i := 3) rfl)) e3 (g := (mkF m 41 #[.val (.int p0), .val (.int p1), .val (.int p2), .val (.int p3), .val (.int (p0 &&& (3 : Int32))), .val (.int la), .val (.int lb), .val (.int lc), .val (.ref b1), .val (.ref b2), .val (.ref b3), .unset, .unset] [])) rfl (hb hby at_41) (by decide) (by decide)
  obtain ⟨b4, g4⟩ : ∃ z, z = h3.size := ⟨_, rfl⟩
  rw [← g4] at A4 D4 st4
  have sz_b4 : h0.size ≤ b4 := Nat.le_trans K0_3.1 (Nat.le_of_eq g4.symm)
  have gn_b4 : n0 ≤ b4 := Nat.le_trans Z0 sz_b4
  have ne_b1_b4 : b1 ≠ b4 := Nat.ne_of_lt (Nat.lt_of_lt_of_le V1__3.lt (Nat.le_of_eq g4.symm))
  have ne_b2_b4 : b2 ≠ b4 := Nat.ne_of_lt (Nat.lt_of_lt_of_le V2__3.lt (Nat.le_of_eq g4.symm))
  have ne_b3_b4 : b3 ≠ b4 := Nat.ne_of_lt (Nat.lt_of_lt_of_le V3.lt (Nat.le_of_eq g4.symm))
  have V1__4 := V1__3.ext E4
  have V2__4 := V2__3.ext E4
  have V3__4 := V3.ext E4
  have K0_4 := own_ext_ext K0_3 E4
  have F4_pages : Fld Z h4 b4 "com/example/libmerit/libmerit/index/DocnoTable" "pages" "[[B" .null := D4 (Or.inl (hw _ (List.mem_of_getElem? (i := 13) rfl))) (ty := (.array (.array .byte))) (by decide)
  have F4_ends : Fld Z h4 b4 "com/example/libmerit/libmerit/index/DocnoTable" "ends" "[I" .null := D4 (Or.inr (hw _ (List.mem_of_getElem? (i := 16) rfl))) (ty := (.array .int)) (by decide)
  have F4_size : Fld Z h4 b4 "com/example/libmerit/libmerit/index/DocnoTable" "size" "I" (.int (0 : Int32)) := D4 (Or.inl (hw _ (List.mem_of_getElem? (i := 23) rfl))) (ty := .int) (by decide)
  refine own_st st4 ?_
  show own_Go p.tables e below F (T4.setTop (mkF m 44 #[.val (.int p0), .val (.int p1), .val (.int p2), .val (.int p3), .val (.int (p0 &&& (3 : Int32))), .val (.int la), .val (.int lb), .val (.int lc), .val (.ref b1), .val (.ref b2), .val (.ref b3), .unset, .unset] [(.ref b4)]))
  refine own_st (fun _ k => XS.dup X4.here hx rfl (hb hby at_44) rfl rfl k) ?_
  show own_Go p.tables e below F (T4.setTop (mkF m 45 #[.val (.int p0), .val (.int p1), .val (.int p2), .val (.int p3), .val (.int (p0 &&& (3 : Int32))), .val (.int la), .val (.int lb), .val (.int lc), .val (.ref b1), .val (.ref b2), .val (.ref b3), .unset, .unset] [(.ref b4), (.ref b4)]))
  refine own_st (fun _ k => XS.iconst X4.here hx rfl (hb hby at_45) k) ?_
  show own_Go p.tables e below F (T4.setTop (mkF m 46 #[.val (.int p0), .val (.int p1), .val (.int p2), .val (.int p3), .val (.int (p0 &&& (3 : Int32))), .val (.int la), .val (.int lb), .val (.int lc), .val (.ref b1), .val (.ref b2), .val (.ref b3), .unset, .unset] [(.int (3 : Int32)), (.ref b4), (.ref b4)]))
  obtain ⟨_, _, ⟨T5, L5, k5, n5⟩, -, X5, ⟨Lc5, hQ5, l5, y5, z5⟩, st5⟩ := X4.specialBack hx (y := (⟨"com/example/libmerit/libmerit/index/DocnoTable", "<init>", "(I)V"⟩ : MethodName)) rfl hown (mvT hZ (hw _ (List.mem_of_getElem? (i := 4) rfl))) (mvT hZ (hw _ (List.mem_of_getElem? (i := 5) rfl))) (mvT hZ (hw _ (List.mem_of_getElem? (i := 6) rfl))) (by decide) (backOf (W := 1) (own_init l Z a0 hw [] b4 h4 n0 (Nat.le_trans Z0 K0_4.1) A4 F4_pages F4_ends F4_size gn_b4) hZ (hw _ (List.mem_of_getElem? (i := 6) rfl)) (hw _ (List.mem_of_getElem? (i := 3) rfl)) (by decide) (by decide)) (g := (mkF m 46 #[.val (.int p0), .val (.int p1), .val (.int p2), .val (.int p3), .val (.int (p0 &&& (3 : Int32))), .val (.int la), .val (.int lb), .val (.int lc), .val (.ref b1), .val (.ref b2), .val (.ref b3), .unset, .unset] [(.int (3 : Int32)), (.ref b4), (.ref b4)])) rfl (by rw [hml]; rfl) (Steps.refl _) (a := b4) (argsL := [(.int (3 : Int32))]) (rest := [(.ref b4)]) (lenOf pd_2 rfl) rfl (by show 2 * 0 + _ ≤ _; exact Nat.le_of_eq rfl) (hb hby at_46) (fun _ _ => ⟨rfl, e4, (by decide : 4 + 2 ≤ _), (by decide : 96 + 4 ≤ _)⟩)
  dsimp only [Pt.U, Pt.locs, Pt.cells, Pt.slots] at X5 l5 y5 z5 st5 hQ5
  subst l5 y5 z5
  obtain ⟨pg, en, kP, kE, rfl, N5q, K5, hpg, hen, npe, TT5⟩ := hQ5
  have N5 := Fr.app N0 N5q
  refine own_st (fun _ k => st5.trans k) ?_
  have ne_b1_pg : b1 ≠ pg := Nat.ne_of_lt (Nat.lt_of_lt_of_le V1__4.lt hpg)
  have ne_b2_pg : b2 ≠ pg := Nat.ne_of_lt (Nat.lt_of_lt_of_le V2__4.lt hpg)
  have ne_b3_pg : b3 ≠ pg := Nat.ne_of_lt (Nat.lt_of_lt_of_le V3__4.lt hpg)
  have ne_b4_pg : b4 ≠ pg := Nat.ne_of_lt (Nat.lt_of_lt_of_le A4.lt hpg)
  have sz_pg : h0.size ≤ pg := Nat.le_trans K0_4.1 hpg
  have gn_pg : n0 ≤ pg := Nat.le_trans Z0 sz_pg
  have ne_b1_en : b1 ≠ en := Nat.ne_of_lt (Nat.lt_of_lt_of_le V1__4.lt hen)
  have ne_b2_en : b2 ≠ en := Nat.ne_of_lt (Nat.lt_of_lt_of_le V2__4.lt hen)
  have ne_b3_en : b3 ≠ en := Nat.ne_of_lt (Nat.lt_of_lt_of_le V3__4.lt hen)
  have ne_b4_en : b4 ≠ en := Nat.ne_of_lt (Nat.lt_of_lt_of_le A4.lt hen)
  have sz_en : h0.size ≤ en := Nat.le_trans K0_4.1 hen
  have gn_en : n0 ≤ en := Nat.le_trans Z0 sz_en
  have V1__5 := V1__4.keep K5 (ninS ne_b1_b4 nin0)
  have V2__5 := V2__4.keep K5 (ninS ne_b2_b4 nin0)
  have V3__5 := V3__4.keep K5 (ninS ne_b3_b4 nin0)
  have A4__5 := A4.keep K5
  have K0_5 := own_ext_keep K0_4 K5 (allS sz_b4 all0)
  show own_Go p.tables e below F (T5.setTop (mkF m 49 #[.val (.int p0), .val (.int p1), .val (.int p2), .val (.int p3), .val (.int (p0 &&& (3 : Int32))), .val (.int la), .val (.int lb), .val (.int lc), .val (.ref b1), .val (.ref b2), .val (.ref b3), .unset, .unset] [(.ref b4)]))
  refine own_st (fun _ k => XS.astore X5.here hx rfl (hb hby at_49) rfl rfl (l' := #[.val (.int p0), .val (.int p1), .val (.int p2), .val (.int p3), .val (.int (p0 &&& (3 : Int32))), .val (.int la), .val (.int lb), .val (.int lc), .val (.ref b1), .val (.ref b2), .val (.ref b3), .val (.ref b4), .unset]) rfl k) ?_
  show own_Go p.tables e below F (T5.setTop (mkF m 51 #[.val (.int p0), .val (.int p1), .val (.int p2), .val (.int p3), .val (.int (p0 &&& (3 : Int32))), .val (.int la), .val (.int lb), .val (.int lc), .val (.ref b1), .val (.ref b2), .val (.ref b3), .val (.ref b4), .unset] []))
  refine own_st (fun _ k => XS.aload X5.here hx rfl (hb hby at_51) rfl rfl k) ?_
  show own_Go p.tables e below F (T5.setTop (mkF m 53 #[.val (.int p0), .val (.int p1), .val (.int p2), .val (.int p3), .val (.int (p0 &&& (3 : Int32))), .val (.int la), .val (.int lb), .val (.int lc), .val (.ref b1), .val (.ref b2), .val (.ref b3), .val (.ref b4), .unset] [(.ref b4)]))
  obtain ⟨cq6, kq6, q6a, q6b, q6c⟩ := isOf hZ rfl TT5.1
  obtain ⟨_, _, ⟨T6, L6, k6, n6⟩, -, X6, ⟨Lc6, hQ6, l6, y6, z6⟩, st6⟩ := X5.virtualBack hx (y := (⟨"com/example/libmerit/libmerit/index/DocnoTable", "byteCount", "()I"⟩ : MethodName)) (z := (⟨"com/example/libmerit/libmerit/index/DocnoTable", "byteCount", "()I"⟩ : MethodName)) hown (mvT hZ (hw _ (List.mem_of_getElem? (i := 17) rfl))) (mvT hZ (hw _ (List.mem_of_getElem? (i := 18) rfl))) (notFace_of_selects (args := #[]) (mvT hZ (hw _ (List.mem_of_getElem? (i := 20) rfl)))) (mvT hZ (hw _ (List.mem_of_getElem? (i := 20) rfl))) (mvT hZ (hw _ (List.mem_of_getElem? (i := 19) rfl))) (by decide) (backOf (W := 0) (own_bc0 l Z a0 hw [] b4 pg en kP kE _ _ T5.heap n0 TT5) hZ (hw _ (List.mem_of_getElem? (i := 21) rfl)) (hw _ (List.mem_of_getElem? (i := 3) rfl)) (by decide) (by decide)) q6a q6c (g := (mkF m 53 #[.val (.int p0), .val (.int p1), .val (.int p2), .val (.int p3), .val (.int (p0 &&& (3 : Int32))), .val (.int la), .val (.int lb), .val (.int lc), .val (.ref b1), .val (.ref b2), .val (.ref b3), .val (.ref b4), .unset] [(.ref b4)])) rfl (by rw [hml]; rfl) (Steps.refl _) (argsL := []) (rest := []) (lenOf pd_0 rfl) rfl (by show 2 * 0 + _ ≤ _; exact Nat.le_of_eq rfl) (hb hby at_53) (fun _ _ => ⟨rfl, rfl, (by decide : 6 + 0 ≤ _), (by decide : 100 + 0 ≤ _)⟩)
  dsimp only [Pt.U, Pt.locs, Pt.cells, Pt.slots] at X6 l6 y6 z6 st6 hQ6
  subst l6 y6 z6
  obtain ⟨rfl, N6q, e6⟩ := hQ6
  have N6 := Fr.app N5 N6q
  refine own_st (fun _ k => st6.trans k) ?_
  show own_Go p.tables e below F (T6.setTop (mkF m 56 #[.val (.int p0), .val (.int p1), .val (.int p2), .val (.int p3), .val (.int (p0 &&& (3 : Int32))), .val (.int la), .val (.int lb), .val (.int lc), .val (.ref b1), .val (.ref b2), .val (.ref b3), .val (.ref b4), .unset] [(.int (0 : Int32))]))
  refine own_st (fun _ k => XS.ifNo X6.here hx rfl (hb hby at_56) rfl ((if0 _ _).trans (teq (by decide : (0 : Int32) = (0 : Int32))).2) k) ?_
  show own_Go p.tables e below F (T6.setTop (mkF m 59 #[.val (.int p0), .val (.int p1), .val (.int p2), .val (.int p3), .val (.int (p0 &&& (3 : Int32))), .val (.int la), .val (.int lb), .val (.int lc), .val (.ref b1), .val (.ref b2), .val (.ref b3), .val (.ref b4), .unset] []))
  refine own_st (fun _ k => XS.iconst X6.here hx rfl (hb hby at_59) k) ?_
  show own_Go p.tables e below F (T6.setTop (mkF m 60 #[.val (.int p0), .val (.int p1), .val (.int p2), .val (.int p3), .val (.int (p0 &&& (3 : Int32))), .val (.int la), .val (.int lb), .val (.int lc), .val (.ref b1), .val (.ref b2), .val (.ref b3), .val (.ref b4), .unset] [(.int (1 : Int32))]))
  refine own_st (fun _ k => XS.goto X6.here hx rfl (pc0 := 60) (pc' := 64) rfl (hb hby at_60) (by decide) (by decide) k) ?_
  show own_Go p.tables e below F (T6.setTop (mkF m 64 #[.val (.int p0), .val (.int p1), .val (.int p2), .val (.int p3), .val (.int (p0 &&& (3 : Int32))), .val (.int la), .val (.int lb), .val (.int lc), .val (.ref b1), .val (.ref b2), .val (.ref b3), .val (.ref b4), .unset] [(.int (1 : Int32))]))
  refine own_st (fun _ k => XS.istore X6.here hx rfl (hb hby at_64) rfl (l' := #[.val (.int p0), .val (.int p1), .val (.int p2), .val (.int p3), .val (.int (p0 &&& (3 : Int32))), .val (.int la), .val (.int lb), .val (.int lc), .val (.ref b1), .val (.ref b2), .val (.ref b3), .val (.ref b4), .val (.int (1 : Int32))]) rfl k) ?_
  show own_Go p.tables e below F (T6.setTop (mkF m 66 #[.val (.int p0), .val (.int p1), .val (.int p2), .val (.int p3), .val (.int (p0 &&& (3 : Int32))), .val (.int la), .val (.int lb), .val (.int lc), .val (.ref b1), .val (.ref b2), .val (.ref b3), .val (.ref b4), .val (.int (1 : Int32))] []))
  rcases own_four p0 with hk | hk | hk | hk
  ·
    rw [hk]
    show own_Go p.tables e below F (T6.setTop (mkF m 66 #[.val (.int p0), .val (.int p1), .val (.int p2), .val (.int p3), .val (.int (0 : Int32)), .val (.int la), .val (.int lb), .val (.int lc), .val (.ref b1), .val (.ref b2), .val (.ref b3), .val (.ref b4), .val (.int (1 : Int32))] []))
    refine own_st (fun _ k => XS.iload X6.here hx rfl (hb hby at_66) rfl k) ?_
    show own_Go p.tables e below F (T6.setTop (mkF m 68 #[.val (.int p0), .val (.int p1), .val (.int p2), .val (.int p3), .val (.int (0 : Int32)), .val (.int la), .val (.int lb), .val (.int lc), .val (.ref b1), .val (.ref b2), .val (.ref b3), .val (.ref b4), .val (.int (1 : Int32))] [(.int (0 : Int32))]))
    refine own_st (fun _ k => XS.iconst X6.here hx rfl (hb hby at_68) k) ?_
    show own_Go p.tables e below F (T6.setTop (mkF m 69 #[.val (.int p0), .val (.int p1), .val (.int p2), .val (.int p3), .val (.int (0 : Int32)), .val (.int la), .val (.int lb), .val (.int lc), .val (.ref b1), .val (.ref b2), .val (.ref b3), .val (.ref b4), .val (.int (1 : Int32))] [(.int (1 : Int32)), (.int (0 : Int32))]))
    refine own_st (fun _ k => XS.icmpYes X6.here hx rfl (pc0 := 69) (pc' := 101) rfl (hb hby at_69) rfl (tlt (by decide : (0 : Int32) < (1 : Int32))).1 (by decide) (by decide) k) ?_
    show own_Go p.tables e below F (T6.setTop (mkF m 101 #[.val (.int p0), .val (.int p1), .val (.int p2), .val (.int p3), .val (.int (0 : Int32)), .val (.int la), .val (.int lb), .val (.int lc), .val (.ref b1), .val (.ref b2), .val (.ref b3), .val (.ref b4), .val (.int (1 : Int32))] []))
    refine own_st (fun _ k => XS.iload X6.here hx rfl (hb hby at_101) rfl k) ?_
    show own_Go p.tables e below F (T6.setTop (mkF m 103 #[.val (.int p0), .val (.int p1), .val (.int p2), .val (.int p3), .val (.int (0 : Int32)), .val (.int la), .val (.int lb), .val (.int lc), .val (.ref b1), .val (.ref b2), .val (.ref b3), .val (.ref b4), .val (.int (1 : Int32))] [(.int (0 : Int32))]))
    refine own_st (fun _ k => XS.iconst X6.here hx rfl (hb hby at_103) k) ?_
    show own_Go p.tables e below F (T6.setTop (mkF m 104 #[.val (.int p0), .val (.int p1), .val (.int p2), .val (.int p3), .val (.int (0 : Int32)), .val (.int la), .val (.int lb), .val (.int lc), .val (.ref b1), .val (.ref b2), .val (.ref b3), .val (.ref b4), .val (.int (1 : Int32))] [(.int (2 : Int32)), (.int (0 : Int32))]))
    refine own_st (fun _ k => XS.icmpYes X6.here hx rfl (pc0 := 104) (pc' := 139) rfl (hb hby at_104) rfl (tlt (by decide : (0 : Int32) < (2 : Int32))).1 (by decide) (by decide) k) ?_
    show own_Go p.tables e below F (T6.setTop (mkF m 139 #[.val (.int p0), .val (.int p1), .val (.int p2), .val (.int p3), .val (.int (0 : Int32)), .val (.int la), .val (.int lb), .val (.int lc), .val (.ref b1), .val (.ref b2), .val (.ref b3), .val (.ref b4), .val (.int (1 : Int32))] []))
    refine own_st (fun _ k => XS.iload X6.here hx rfl (hb hby at_139) rfl k) ?_
    show own_Go p.tables e below F (T6.setTop (mkF m 141 #[.val (.int p0), .val (.int p1), .val (.int p2), .val (.int p3), .val (.int (0 : Int32)), .val (.int la), .val (.int lb), .val (.int lc), .val (.ref b1), .val (.ref b2), .val (.ref b3), .val (.ref b4), .val (.int (1 : Int32))] [(.int (0 : Int32))]))
    refine own_st (fun _ k => XS.iconst X6.here hx rfl (hb hby at_141) k) ?_
    show own_Go p.tables e below F (T6.setTop (mkF m 142 #[.val (.int p0), .val (.int p1), .val (.int p2), .val (.int p3), .val (.int (0 : Int32)), .val (.int la), .val (.int lb), .val (.int lc), .val (.ref b1), .val (.ref b2), .val (.ref b3), .val (.ref b4), .val (.int (1 : Int32))] [(.int (3 : Int32)), (.int (0 : Int32))]))
    refine own_st (fun _ k => XS.icmpYes X6.here hx rfl (pc0 := 142) (pc' := 180) rfl (hb hby at_142) rfl (tlt (by decide : (0 : Int32) < (3 : Int32))).1 (by decide) (by decide) k) ?_
    show own_Go p.tables e below F (T6.setTop (mkF m 180 #[.val (.int p0), .val (.int p1), .val (.int p2), .val (.int p3), .val (.int (0 : Int32)), .val (.int la), .val (.int lb), .val (.int lc), .val (.ref b1), .val (.ref b2), .val (.ref b3), .val (.ref b4), .val (.int (1 : Int32))] []))
    refine own_st (fun _ k => XS.iload X6.here hx rfl (hb hby at_180) rfl k) ?_
    show own_Go p.tables e below F (T6.setTop (mkF m 182 #[.val (.int p0), .val (.int p1), .val (.int p2), .val (.int p3), .val (.int (0 : Int32)), .val (.int la), .val (.int lb), .val (.int lc), .val (.ref b1), .val (.ref b2), .val (.ref b3), .val (.ref b4), .val (.int (1 : Int32))] [(.int (1 : Int32))]))
    obtain ⟨fs, hrL, hrun, hended, hW, hsame⟩ := X6.leave (v := some (.int (1 : Int32))) (fun h => by rw [Bd.returns] at h; cases h)
    refine own_end hF (o := .returned (some (.int (1 : Int32)))) (retN X6 hx (t := .boolean) Bd.returns (by simp) (hb hby at_182) hrL) ?_
    refine ⟨hrun, hended, _, _, rfl, ?_, ⟨_, rfl⟩, hW, hsame.mono (by decide) (by decide)⟩
    exact ⟨rfl, N6⟩
  ·
    rw [hk]
    show own_Go p.tables e below F (T6.setTop (mkF m 66 #[.val (.int p0), .val (.int p1), .val (.int p2), .val (.int p3), .val (.int (1 : Int32)), .val (.int la), .val (.int lb), .val (.int lc), .val (.ref b1), .val (.ref b2), .val (.ref b3), .val (.ref b4), .val (.int (1 : Int32))] []))
    refine own_st (fun _ k => XS.iload X6.here hx rfl (hb hby at_66) rfl k) ?_
    show own_Go p.tables e below F (T6.setTop (mkF m 68 #[.val (.int p0), .val (.int p1), .val (.int p2), .val (.int p3), .val (.int (1 : Int32)), .val (.int la), .val (.int lb), .val (.int lc), .val (.ref b1), .val (.ref b2), .val (.ref b3), .val (.ref b4), .val (.int (1 : Int32))] [(.int (1 : Int32))]))
    refine own_st (fun _ k => XS.iconst X6.here hx rfl (hb hby at_68) k) ?_
    show own_Go p.tables e below F (T6.setTop (mkF m 69 #[.val (.int p0), .val (.int p1), .val (.int p2), .val (.int p3), .val (.int (1 : Int32)), .val (.int la), .val (.int lb), .val (.int lc), .val (.ref b1), .val (.ref b2), .val (.ref b3), .val (.ref b4), .val (.int (1 : Int32))] [(.int (1 : Int32)), (.int (1 : Int32))]))
    refine own_st (fun _ k => XS.icmpNo X6.here hx rfl (hb hby at_69) rfl (flt (by decide : ¬ ((1 : Int32) < (1 : Int32)))).1 k) ?_
    show own_Go p.tables e below F (T6.setTop (mkF m 72 #[.val (.int p0), .val (.int p1), .val (.int p2), .val (.int p3), .val (.int (1 : Int32)), .val (.int la), .val (.int lb), .val (.int lc), .val (.ref b1), .val (.ref b2), .val (.ref b3), .val (.ref b4), .val (.int (1 : Int32))] []))
    refine own_st (fun _ k => XS.aload X6.here hx rfl (hb hby at_72) rfl rfl k) ?_
    show own_Go p.tables e below F (T6.setTop (mkF m 74 #[.val (.int p0), .val (.int p1), .val (.int p2), .val (.int p3), .val (.int (1 : Int32)), .val (.int la), .val (.int lb), .val (.int lc), .val (.ref b1), .val (.ref b2), .val (.ref b3), .val (.ref b4), .val (.int (1 : Int32))] [(.ref b4)]))
    refine own_st (fun _ k => XS.aload X6.here hx rfl (hb hby at_74) rfl rfl k) ?_
    show own_Go p.tables e below F (T6.setTop (mkF m 76 #[.val (.int p0), .val (.int p1), .val (.int p2), .val (.int p3), .val (.int (1 : Int32)), .val (.int la), .val (.int lb), .val (.int lc), .val (.ref b1), .val (.ref b2), .val (.ref b3), .val (.ref b4), .val (.int (1 : Int32))] [(.ref b1), (.ref b4)]))
    by_cases hp0 : (0 : Int32) < la
    ·
      obtain ⟨cq7, kq7, q7a, q7b, q7c⟩ := isOf hZ e6 TT5.1
      obtain ⟨_, _, ⟨T7, L7, k7, n7⟩, -, X7, ⟨Lc7, hQ7, l7, y7, z7⟩, st7⟩ := X6.virtualBack hx (y := (⟨"com/example/libmerit/libmerit/index/DocnoTable", "add", "([B)V"⟩ : MethodName)) (z := (⟨"com/example/libmerit/libmerit/index/DocnoTable", "add", "([B)V"⟩ : MethodName)) hown (mvT hZ (hw _ (List.mem_of_getElem? (i := 24) rfl))) (mvT hZ (hw _ (List.mem_of_getElem? (i := 25) rfl))) (notFace_of_selects (args := #[]) (mvT hZ (hw _ (List.mem_of_getElem? (i := 27) rfl)))) (mvT hZ (hw _ (List.mem_of_getElem? (i := 27) rfl))) (mvT hZ (hw _ (List.mem_of_getElem? (i := 26) rfl))) (by decide) (backOf (W := 0) (own_addM l Z a0 hw [] b4 pg en b1 kP kE k1 (0 : Int32) (1 : Int32) (0 : Int32) la la [(.int (0 : Int32)), (.int (0 : Int32)), (.int (0 : Int32))] _ T5.heap n0 (Nat.le_trans Z0 K0_5.1) (own_bc0 l Z a0 hw [] b4 pg en kP kE _ _ T5.heap n0 TT5) own_B0 hA V1__5 rfl ⟨by decide, by decide⟩ (by decide) ((Int32.zero_add la).symm) gn_b4 gn_pg gn_en ne_b4_en ne_b4_pg npe ne_b1_b4 ne_b1_pg ne_b1_en hp0 TT5) hZ (hw _ (List.mem_of_getElem? (i := 28) rfl)) (hw _ (List.mem_of_getElem? (i := 3) rfl)) (by decide) (by decide)) q7a q7c (g := (mkF m 76 #[.val (.int p0), .val (.int p1), .val (.int p2), .val (.int p3), .val (.int (1 : Int32)), .val (.int la), .val (.int lb), .val (.int lc), .val (.ref b1), .val (.ref b2), .val (.ref b3), .val (.ref b4), .val (.int (1 : Int32))] [(.ref b1), (.ref b4)])) rfl (by rw [hml]; rfl) (Steps.refl _) (argsL := [(.ref b1)]) (rest := []) (lenOf pd_3 rfl) rfl (by show 2 * 0 + _ ≤ _; exact Nat.le_of_eq rfl) (hb hby at_76) (fun _ _ => ⟨rfl, e6, (by decide : 6 + 1 ≤ _), (by decide : 100 + 65536 ≤ _)⟩)
      dsimp only [Pt.U, Pt.locs, Pt.cells, Pt.slots] at X7 l7 y7 z7 st7 hQ7
      subst l7 y7 z7
      obtain ⟨qp, rfl, N7q, K7, hqp, TT7, GG7⟩ := hQ7
      have N7 := Fr.app N6 N7q
      refine own_st (fun _ k => st7.trans k) ?_
      have ne_b1_qp : b1 ≠ qp := Nat.ne_of_lt (Nat.lt_of_lt_of_le V1__5.lt hqp)
      have ne_b2_qp : b2 ≠ qp := Nat.ne_of_lt (Nat.lt_of_lt_of_le V2__5.lt hqp)
      have ne_b3_qp : b3 ≠ qp := Nat.ne_of_lt (Nat.lt_of_lt_of_le V3__5.lt hqp)
      have ne_b4_qp : b4 ≠ qp := Nat.ne_of_lt (Nat.lt_of_lt_of_le TT5.1.lt hqp)
      have ne_pg_qp : pg ≠ qp := Nat.ne_of_lt (Nat.lt_of_lt_of_le TT5.2.2.2.2.1.lt hqp)
      have ne_en_qp : en ≠ qp := Nat.ne_of_lt (Nat.lt_of_lt_of_le TT5.2.2.2.2.2.1.lt hqp)
      have sz_qp : h0.size ≤ qp := Nat.le_trans K0_5.1 hqp
      have gn_qp : n0 ≤ qp := Nat.le_trans Z0 sz_qp
      have V1__7 := V1__5.keep K7 (ninS ne_b1_b4 (ninS ne_b1_pg (ninS ne_b1_en nin0)))
      have V2__7 := V2__5.keep K7 (ninS ne_b2_b4 (ninS ne_b2_pg (ninS ne_b2_en nin0)))
      have V3__7 := V3__5.keep K7 (ninS ne_b3_b4 (ninS ne_b3_pg (ninS ne_b3_en nin0)))
      have K0_7 := own_ext_keep K0_5 K7 (allS sz_b4 (allS sz_pg (allS sz_en all0)))
      have TU7 : own_T Z T7.heap b4 pg en kP kE (1 : Int32) [(.int la), (.int (0 : Int32)), (.int (0 : Int32))] (.ref qp) := TT7
      show own_Go p.tables e below F (T7.setTop (mkF m 79 #[.val (.int p0), .val (.int p1), .val (.int p2), .val (.int p3), .val (.int (1 : Int32)), .val (.int la), .val (.int lb), .val (.int lc), .val (.ref b1), .val (.ref b2), .val (.ref b3), .val (.ref b4), .val (.int (1 : Int32))] []))
      refine own_st (fun _ k => XS.iload X7.here hx rfl (hb hby at_79) rfl k) ?_
      show own_Go p.tables e below F (T7.setTop (mkF m 81 #[.val (.int p0), .val (.int p1), .val (.int p2), .val (.int p3), .val (.int (1 : Int32)), .val (.int la), .val (.int lb), .val (.int lc), .val (.ref b1), .val (.ref b2), .val (.ref b3), .val (.ref b4), .val (.int (1 : Int32))] [(.int (1 : Int32))]))
      refine own_st (fun _ k => XS.ifNo X7.here hx rfl (hb hby at_81) rfl ((if0 _ _).trans (feq (by decide : ¬ ((1 : Int32) = (0 : Int32)))).1) k) ?_
      show own_Go p.tables e below F (T7.setTop (mkF m 84 #[.val (.int p0), .val (.int p1), .val (.int p2), .val (.int p3), .val (.int (1 : Int32)), .val (.int la), .val (.int lb), .val (.int lc), .val (.ref b1), .val (.ref b2), .val (.ref b3), .val (.ref b4), .val (.int (1 : Int32))] []))
      refine own_st (fun _ k => XS.aload X7.here hx rfl (hb hby at_84) rfl rfl k) ?_
      show own_Go p.tables e below F (T7.setTop (mkF m 86 #[.val (.int p0), .val (.int p1), .val (.int p2), .val (.int p3), .val (.int (1 : Int32)), .val (.int la), .val (.int lb), .val (.int lc), .val (.ref b1), .val (.ref b2), .val (.ref b3), .val (.ref b4), .val (.int (1 : Int32))] [(.ref b4)]))
      obtain ⟨cq8, kq8, q8a, q8b, q8c⟩ := isOf hZ rfl TU7.1
      obtain ⟨_, _, ⟨T8, L8, k8, n8⟩, -, X8, ⟨Lc8, hQ8, l8, y8, z8⟩, st8⟩ := X7.virtualBack hx (y := (⟨"com/example/libmerit/libmerit/index/DocnoTable", "byteCount", "()I"⟩ : MethodName)) (z := (⟨"com/example/libmerit/libmerit/index/DocnoTable", "byteCount", "()I"⟩ : MethodName)) hown (mvT hZ (hw _ (List.mem_of_getElem? (i := 17) rfl))) (mvT hZ (hw _ (List.mem_of_getElem? (i := 18) rfl))) (notFace_of_selects (args := #[]) (mvT hZ (hw _ (List.mem_of_getElem? (i := 20) rfl)))) (mvT hZ (hw _ (List.mem_of_getElem? (i := 20) rfl))) (mvT hZ (hw _ (List.mem_of_getElem? (i := 19) rfl))) (by decide) (backOf (W := 0) (own_bcN l Z a0 hw [] b4 pg en kP kE (1 : Int32) _ _ la T7.heap n0 TU7 (by decide) ⟨by decide, by decide⟩ rfl) hZ (hw _ (List.mem_of_getElem? (i := 21) rfl)) (hw _ (List.mem_of_getElem? (i := 3) rfl)) (by decide) (by decide)) q8a q8c (g := (mkF m 86 #[.val (.int p0), .val (.int p1), .val (.int p2), .val (.int p3), .val (.int (1 : Int32)), .val (.int la), .val (.int lb), .val (.int lc), .val (.ref b1), .val (.ref b2), .val (.ref b3), .val (.ref b4), .val (.int (1 : Int32))] [(.ref b4)])) rfl (by rw [hml]; rfl) (Steps.refl _) (argsL := []) (rest := []) (lenOf pd_0 rfl) rfl (by show 2 * 0 + _ ≤ _; exact Nat.le_of_eq rfl) (hb hby at_86) (fun _ _ => ⟨rfl, rfl, (by decide : 7 + 0 ≤ _), (by decide : 65636 + 0 ≤ _)⟩)
      dsimp only [Pt.U, Pt.locs, Pt.cells, Pt.slots] at X8 l8 y8 z8 st8 hQ8
      subst l8 y8 z8
      obtain ⟨rfl, N8q, e8⟩ := hQ8
      have N8 := Fr.app N7 N8q
      refine own_st (fun _ k => st8.trans k) ?_
      show own_Go p.tables e below F (T8.setTop (mkF m 89 #[.val (.int p0), .val (.int p1), .val (.int p2), .val (.int p3), .val (.int (1 : Int32)), .val (.int la), .val (.int lb), .val (.int lc), .val (.ref b1), .val (.ref b2), .val (.ref b3), .val (.ref b4), .val (.int (1 : Int32))] [(.int la)]))
      refine own_st (fun _ k => XS.iload X8.here hx rfl (hb hby at_89) rfl k) ?_
      show own_Go p.tables e below F (T8.setTop (mkF m 91 #[.val (.int p0), .val (.int p1), .val (.int p2), .val (.int p3), .val (.int (1 : Int32)), .val (.int la), .val (.int lb), .val (.int lc), .val (.ref b1), .val (.ref b2), .val (.ref b3), .val (.ref b4), .val (.int (1 : Int32))] [(.int la), (.int la)]))
      refine own_st (fun _ k => XS.icmpNo X8.here hx rfl (hb hby at_91) rfl (teq (rfl : la = la)).2 k) ?_
      show own_Go p.tables e below F (T8.setTop (mkF m 94 #[.val (.int p0), .val (.int p1), .val (.int p2), .val (.int p3), .val (.int (1 : Int32)), .val (.int la), .val (.int lb), .val (.int lc), .val (.ref b1), .val (.ref b2), .val (.ref b3), .val (.ref b4), .val (.int (1 : Int32))] []))
      refine own_st (fun _ k => XS.iconst X8.here hx rfl (hb hby at_94) k) ?_
      show own_Go p.tables e below F (T8.setTop (mkF m 95 #[.val (.int p0), .val (.int p1), .val (.int p2), .val (.int p3), .val (.int (1 : Int32)), .val (.int la), .val (.int lb), .val (.int lc), .val (.ref b1), .val (.ref b2), .val (.ref b3), .val (.ref b4), .val (.int (1 : Int32))] [(.int (1 : Int32))]))
      refine own_st (fun _ k => XS.goto X8.here hx rfl (pc0 := 95) (pc' := 99) rfl (hb hby at_95) (by decide) (by decide) k) ?_
      show own_Go p.tables e below F (T8.setTop (mkF m 99 #[.val (.int p0), .val (.int p1), .val (.int p2), .val (.int p3), .val (.int (1 : Int32)), .val (.int la), .val (.int lb), .val (.int lc), .val (.ref b1), .val (.ref b2), .val (.ref b3), .val (.ref b4), .val (.int (1 : Int32))] [(.int (1 : Int32))]))
      refine own_st (fun _ k => XS.istore X8.here hx rfl (hb hby at_99) rfl (l' := #[.val (.int p0), .val (.int p1), .val (.int p2), .val (.int p3), .val (.int (1 : Int32)), .val (.int la), .val (.int lb), .val (.int lc), .val (.ref b1), .val (.ref b2), .val (.ref b3), .val (.ref b4), .val (.int (1 : Int32))]) rfl k) ?_
      show own_Go p.tables e below F (T8.setTop (mkF m 101 #[.val (.int p0), .val (.int p1), .val (.int p2), .val (.int p3), .val (.int (1 : Int32)), .val (.int la), .val (.int lb), .val (.int lc), .val (.ref b1), .val (.ref b2), .val (.ref b3), .val (.ref b4), .val (.int (1 : Int32))] []))
      refine own_st (fun _ k => XS.iload X8.here hx rfl (hb hby at_101) rfl k) ?_
      show own_Go p.tables e below F (T8.setTop (mkF m 103 #[.val (.int p0), .val (.int p1), .val (.int p2), .val (.int p3), .val (.int (1 : Int32)), .val (.int la), .val (.int lb), .val (.int lc), .val (.ref b1), .val (.ref b2), .val (.ref b3), .val (.ref b4), .val (.int (1 : Int32))] [(.int (1 : Int32))]))
      refine own_st (fun _ k => XS.iconst X8.here hx rfl (hb hby at_103) k) ?_
      show own_Go p.tables e below F (T8.setTop (mkF m 104 #[.val (.int p0), .val (.int p1), .val (.int p2), .val (.int p3), .val (.int (1 : Int32)), .val (.int la), .val (.int lb), .val (.int lc), .val (.ref b1), .val (.ref b2), .val (.ref b3), .val (.ref b4), .val (.int (1 : Int32))] [(.int (2 : Int32)), (.int (1 : Int32))]))
      refine own_st (fun _ k => XS.icmpYes X8.here hx rfl (pc0 := 104) (pc' := 139) rfl (hb hby at_104) rfl (tlt (by decide : (1 : Int32) < (2 : Int32))).1 (by decide) (by decide) k) ?_
      show own_Go p.tables e below F (T8.setTop (mkF m 139 #[.val (.int p0), .val (.int p1), .val (.int p2), .val (.int p3), .val (.int (1 : Int32)), .val (.int la), .val (.int lb), .val (.int lc), .val (.ref b1), .val (.ref b2), .val (.ref b3), .val (.ref b4), .val (.int (1 : Int32))] []))
      refine own_st (fun _ k => XS.iload X8.here hx rfl (hb hby at_139) rfl k) ?_
      show own_Go p.tables e below F (T8.setTop (mkF m 141 #[.val (.int p0), .val (.int p1), .val (.int p2), .val (.int p3), .val (.int (1 : Int32)), .val (.int la), .val (.int lb), .val (.int lc), .val (.ref b1), .val (.ref b2), .val (.ref b3), .val (.ref b4), .val (.int (1 : Int32))] [(.int (1 : Int32))]))
      refine own_st (fun _ k => XS.iconst X8.here hx rfl (hb hby at_141) k) ?_
      show own_Go p.tables e below F (T8.setTop (mkF m 142 #[.val (.int p0), .val (.int p1), .val (.int p2), .val (.int p3), .val (.int (1 : Int32)), .val (.int la), .val (.int lb), .val (.int lc), .val (.ref b1), .val (.ref b2), .val (.ref b3), .val (.ref b4), .val (.int (1 : Int32))] [(.int (3 : Int32)), (.int (1 : Int32))]))
      refine own_st (fun _ k => XS.icmpYes X8.here hx rfl (pc0 := 142) (pc' := 180) rfl (hb hby at_142) rfl (tlt (by decide : (1 : Int32) < (3 : Int32))).1 (by decide) (by decide) k) ?_
      show own_Go p.tables e below F (T8.setTop (mkF m 180 #[.val (.int p0), .val (.int p1), .val (.int p2), .val (.int p3), .val (.int (1 : Int32)), .val (.int la), .val (.int lb), .val (.int lc), .val (.ref b1), .val (.ref b2), .val (.ref b3), .val (.ref b4), .val (.int (1 : Int32))] []))
      refine own_st (fun _ k => XS.iload X8.here hx rfl (hb hby at_180) rfl k) ?_
      show own_Go p.tables e below F (T8.setTop (mkF m 182 #[.val (.int p0), .val (.int p1), .val (.int p2), .val (.int p3), .val (.int (1 : Int32)), .val (.int la), .val (.int lb), .val (.int lc), .val (.ref b1), .val (.ref b2), .val (.ref b3), .val (.ref b4), .val (.int (1 : Int32))] [(.int (1 : Int32))]))
      obtain ⟨fs, hrL, hrun, hended, hW, hsame⟩ := X8.leave (v := some (.int (1 : Int32))) (fun h => by rw [Bd.returns] at h; cases h)
      refine own_end hF (o := .returned (some (.int (1 : Int32)))) (retN X8 hx (t := .boolean) Bd.returns (by simp) (hb hby at_182) hrL) ?_
      refine ⟨hrun, hended, _, _, rfl, ?_, ⟨_, rfl⟩, hW, hsame.mono (by decide) (by decide)⟩
      exact ⟨rfl, N8⟩
    ·
      obtain ⟨cq9, kq9, q9a, q9b, q9c⟩ := isOf hZ e6 TT5.1
      obtain ⟨_, _, ⟨T9, L9, k9, n9⟩, -, X9, ⟨Lc9, hQ9, l9, y9, z9⟩, st9⟩ := X6.virtualBack hx (y := (⟨"com/example/libmerit/libmerit/index/DocnoTable", "add", "([B)V"⟩ : MethodName)) (z := (⟨"com/example/libmerit/libmerit/index/DocnoTable", "add", "([B)V"⟩ : MethodName)) hown (mvT hZ (hw _ (List.mem_of_getElem? (i := 24) rfl))) (mvT hZ (hw _ (List.mem_of_getElem? (i := 25) rfl))) (notFace_of_selects (args := #[]) (mvT hZ (hw _ (List.mem_of_getElem? (i := 27) rfl)))) (mvT hZ (hw _ (List.mem_of_getElem? (i := 27) rfl))) (mvT hZ (hw _ (List.mem_of_getElem? (i := 26) rfl))) (by decide) (backOf (W := 0) (own_addZ l Z a0 hw [] b4 pg en b1 kP kE k1 (0 : Int32) (1 : Int32) (0 : Int32) la la [(.int (0 : Int32)), (.int (0 : Int32)), (.int (0 : Int32))] _ .null T5.heap n0 (Nat.le_trans Z0 K0_5.1) (own_bc0 l Z a0 hw [] b4 pg en kP kE _ _ T5.heap n0 TT5) own_B0 hA V1__5 rfl ⟨by decide, by decide⟩ (by decide) ((Int32.zero_add la).symm) gn_b4 gn_pg gn_en ne_b4_en ne_b4_pg npe ne_b1_b4 ne_b1_pg ne_b1_en hp0 TT5) hZ (hw _ (List.mem_of_getElem? (i := 28) rfl)) (hw _ (List.mem_of_getElem? (i := 3) rfl)) (by decide) (by decide)) q9a q9c (g := (mkF m 76 #[.val (.int p0), .val (.int p1), .val (.int p2), .val (.int p3), .val (.int (1 : Int32)), .val (.int la), .val (.int lb), .val (.int lc), .val (.ref b1), .val (.ref b2), .val (.ref b3), .val (.ref b4), .val (.int (1 : Int32))] [(.ref b1), (.ref b4)])) rfl (by rw [hml]; rfl) (Steps.refl _) (argsL := [(.ref b1)]) (rest := []) (lenOf pd_3 rfl) rfl (by show 2 * 0 + _ ≤ _; exact Nat.le_of_eq rfl) (hb hby at_76) (fun _ _ => ⟨rfl, e6, (by decide : 6 + 0 ≤ _), (by decide : 100 + 0 ≤ _)⟩)
      dsimp only [Pt.U, Pt.locs, Pt.cells, Pt.slots] at X9 l9 y9 z9 st9 hQ9
      subst l9 y9 z9
      obtain ⟨rfl, N9q, K9, TT9⟩ := hQ9
      have N9 := Fr.app N6 N9q
      refine own_st (fun _ k => st9.trans k) ?_
      have V1__9 := V1__5.keep K9 (ninS ne_b1_b4 (ninS ne_b1_en nin0))
      have V2__9 := V2__5.keep K9 (ninS ne_b2_b4 (ninS ne_b2_en nin0))
      have V3__9 := V3__5.keep K9 (ninS ne_b3_b4 (ninS ne_b3_en nin0))
      have K0_9 := own_ext_keep K0_5 K9 (allS sz_b4 (allS sz_en all0))
      have TU9 : own_T Z T9.heap b4 pg en kP kE (1 : Int32) [(.int la), (.int (0 : Int32)), (.int (0 : Int32))] .null := TT9
      show own_Go p.tables e below F (T9.setTop (mkF m 79 #[.val (.int p0), .val (.int p1), .val (.int p2), .val (.int p3), .val (.int (1 : Int32)), .val (.int la), .val (.int lb), .val (.int lc), .val (.ref b1), .val (.ref b2), .val (.ref b3), .val (.ref b4), .val (.int (1 : Int32))] []))
      refine own_st (fun _ k => XS.iload X9.here hx rfl (hb hby at_79) rfl k) ?_
      show own_Go p.tables e below F (T9.setTop (mkF m 81 #[.val (.int p0), .val (.int p1), .val (.int p2), .val (.int p3), .val (.int (1 : Int32)), .val (.int la), .val (.int lb), .val (.int lc), .val (.ref b1), .val (.ref b2), .val (.ref b3), .val (.ref b4), .val (.int (1 : Int32))] [(.int (1 : Int32))]))
      refine own_st (fun _ k => XS.ifNo X9.here hx rfl (hb hby at_81) rfl ((if0 _ _).trans (feq (by decide : ¬ ((1 : Int32) = (0 : Int32)))).1) k) ?_
      show own_Go p.tables e below F (T9.setTop (mkF m 84 #[.val (.int p0), .val (.int p1), .val (.int p2), .val (.int p3), .val (.int (1 : Int32)), .val (.int la), .val (.int lb), .val (.int lc), .val (.ref b1), .val (.ref b2), .val (.ref b3), .val (.ref b4), .val (.int (1 : Int32))] []))
      refine own_st (fun _ k => XS.aload X9.here hx rfl (hb hby at_84) rfl rfl k) ?_
      show own_Go p.tables e below F (T9.setTop (mkF m 86 #[.val (.int p0), .val (.int p1), .val (.int p2), .val (.int p3), .val (.int (1 : Int32)), .val (.int la), .val (.int lb), .val (.int lc), .val (.ref b1), .val (.ref b2), .val (.ref b3), .val (.ref b4), .val (.int (1 : Int32))] [(.ref b4)]))
      obtain ⟨cq10, kq10, q10a, q10b, q10c⟩ := isOf hZ rfl TU9.1
      obtain ⟨_, _, ⟨T10, L10, k10, n10⟩, -, X10, ⟨Lc10, hQ10, l10, y10, z10⟩, st10⟩ := X9.virtualBack hx (y := (⟨"com/example/libmerit/libmerit/index/DocnoTable", "byteCount", "()I"⟩ : MethodName)) (z := (⟨"com/example/libmerit/libmerit/index/DocnoTable", "byteCount", "()I"⟩ : MethodName)) hown (mvT hZ (hw _ (List.mem_of_getElem? (i := 17) rfl))) (mvT hZ (hw _ (List.mem_of_getElem? (i := 18) rfl))) (notFace_of_selects (args := #[]) (mvT hZ (hw _ (List.mem_of_getElem? (i := 20) rfl)))) (mvT hZ (hw _ (List.mem_of_getElem? (i := 20) rfl))) (mvT hZ (hw _ (List.mem_of_getElem? (i := 19) rfl))) (by decide) (backOf (W := 0) (own_bcN l Z a0 hw [] b4 pg en kP kE (1 : Int32) _ _ la T9.heap n0 TU9 (by decide) ⟨by decide, by decide⟩ rfl) hZ (hw _ (List.mem_of_getElem? (i := 21) rfl)) (hw _ (List.mem_of_getElem? (i := 3) rfl)) (by decide) (by decide)) q10a q10c (g := (mkF m 86 #[.val (.int p0), .val (.int p1), .val (.int p2), .val (.int p3), .val (.int (1 : Int32)), .val (.int la), .val (.int lb), .val (.int lc), .val (.ref b1), .val (.ref b2), .val (.ref b3), .val (.ref b4), .val (.int (1 : Int32))] [(.ref b4)])) rfl (by rw [hml]; rfl) (Steps.refl _) (argsL := []) (rest := []) (lenOf pd_0 rfl) rfl (by show 2 * 0 + _ ≤ _; exact Nat.le_of_eq rfl) (hb hby at_86) (fun _ _ => ⟨rfl, rfl, (by decide : 6 + 0 ≤ _), (by decide : 100 + 0 ≤ _)⟩)
      dsimp only [Pt.U, Pt.locs, Pt.cells, Pt.slots] at X10 l10 y10 z10 st10 hQ10
      subst l10 y10 z10
      obtain ⟨rfl, N10q, e10⟩ := hQ10
      have N10 := Fr.app N9 N10q
      refine own_st (fun _ k => st10.trans k) ?_
      show own_Go p.tables e below F (T10.setTop (mkF m 89 #[.val (.int p0), .val (.int p1), .val (.int p2), .val (.int p3), .val (.int (1 : Int32)), .val (.int la), .val (.int lb), .val (.int lc), .val (.ref b1), .val (.ref b2), .val (.ref b3), .val (.ref b4), .val (.int (1 : Int32))] [(.int la)]))
      refine own_st (fun _ k => XS.iload X10.here hx rfl (hb hby at_89) rfl k) ?_
      show own_Go p.tables e below F (T10.setTop (mkF m 91 #[.val (.int p0), .val (.int p1), .val (.int p2), .val (.int p3), .val (.int (1 : Int32)), .val (.int la), .val (.int lb), .val (.int lc), .val (.ref b1), .val (.ref b2), .val (.ref b3), .val (.ref b4), .val (.int (1 : Int32))] [(.int la), (.int la)]))
      refine own_st (fun _ k => XS.icmpNo X10.here hx rfl (hb hby at_91) rfl (teq (rfl : la = la)).2 k) ?_
      show own_Go p.tables e below F (T10.setTop (mkF m 94 #[.val (.int p0), .val (.int p1), .val (.int p2), .val (.int p3), .val (.int (1 : Int32)), .val (.int la), .val (.int lb), .val (.int lc), .val (.ref b1), .val (.ref b2), .val (.ref b3), .val (.ref b4), .val (.int (1 : Int32))] []))
      refine own_st (fun _ k => XS.iconst X10.here hx rfl (hb hby at_94) k) ?_
      show own_Go p.tables e below F (T10.setTop (mkF m 95 #[.val (.int p0), .val (.int p1), .val (.int p2), .val (.int p3), .val (.int (1 : Int32)), .val (.int la), .val (.int lb), .val (.int lc), .val (.ref b1), .val (.ref b2), .val (.ref b3), .val (.ref b4), .val (.int (1 : Int32))] [(.int (1 : Int32))]))
      refine own_st (fun _ k => XS.goto X10.here hx rfl (pc0 := 95) (pc' := 99) rfl (hb hby at_95) (by decide) (by decide) k) ?_
      show own_Go p.tables e below F (T10.setTop (mkF m 99 #[.val (.int p0), .val (.int p1), .val (.int p2), .val (.int p3), .val (.int (1 : Int32)), .val (.int la), .val (.int lb), .val (.int lc), .val (.ref b1), .val (.ref b2), .val (.ref b3), .val (.ref b4), .val (.int (1 : Int32))] [(.int (1 : Int32))]))
      refine own_st (fun _ k => XS.istore X10.here hx rfl (hb hby at_99) rfl (l' := #[.val (.int p0), .val (.int p1), .val (.int p2), .val (.int p3), .val (.int (1 : Int32)), .val (.int la), .val (.int lb), .val (.int lc), .val (.ref b1), .val (.ref b2), .val (.ref b3), .val (.ref b4), .val (.int (1 : Int32))]) rfl k) ?_
      show own_Go p.tables e below F (T10.setTop (mkF m 101 #[.val (.int p0), .val (.int p1), .val (.int p2), .val (.int p3), .val (.int (1 : Int32)), .val (.int la), .val (.int lb), .val (.int lc), .val (.ref b1), .val (.ref b2), .val (.ref b3), .val (.ref b4), .val (.int (1 : Int32))] []))
      refine own_st (fun _ k => XS.iload X10.here hx rfl (hb hby at_101) rfl k) ?_
      show own_Go p.tables e below F (T10.setTop (mkF m 103 #[.val (.int p0), .val (.int p1), .val (.int p2), .val (.int p3), .val (.int (1 : Int32)), .val (.int la), .val (.int lb), .val (.int lc), .val (.ref b1), .val (.ref b2), .val (.ref b3), .val (.ref b4), .val (.int (1 : Int32))] [(.int (1 : Int32))]))
      refine own_st (fun _ k => XS.iconst X10.here hx rfl (hb hby at_103) k) ?_
      show own_Go p.tables e below F (T10.setTop (mkF m 104 #[.val (.int p0), .val (.int p1), .val (.int p2), .val (.int p3), .val (.int (1 : Int32)), .val (.int la), .val (.int lb), .val (.int lc), .val (.ref b1), .val (.ref b2), .val (.ref b3), .val (.ref b4), .val (.int (1 : Int32))] [(.int (2 : Int32)), (.int (1 : Int32))]))
      refine own_st (fun _ k => XS.icmpYes X10.here hx rfl (pc0 := 104) (pc' := 139) rfl (hb hby at_104) rfl (tlt (by decide : (1 : Int32) < (2 : Int32))).1 (by decide) (by decide) k) ?_
      show own_Go p.tables e below F (T10.setTop (mkF m 139 #[.val (.int p0), .val (.int p1), .val (.int p2), .val (.int p3), .val (.int (1 : Int32)), .val (.int la), .val (.int lb), .val (.int lc), .val (.ref b1), .val (.ref b2), .val (.ref b3), .val (.ref b4), .val (.int (1 : Int32))] []))
      refine own_st (fun _ k => XS.iload X10.here hx rfl (hb hby at_139) rfl k) ?_
      show own_Go p.tables e below F (T10.setTop (mkF m 141 #[.val (.int p0), .val (.int p1), .val (.int p2), .val (.int p3), .val (.int (1 : Int32)), .val (.int la), .val (.int lb), .val (.int lc), .val (.ref b1), .val (.ref b2), .val (.ref b3), .val (.ref b4), .val (.int (1 : Int32))] [(.int (1 : Int32))]))
      refine own_st (fun _ k => XS.iconst X10.here hx rfl (hb hby at_141) k) ?_
      show own_Go p.tables e below F (T10.setTop (mkF m 142 #[.val (.int p0), .val (.int p1), .val (.int p2), .val (.int p3), .val (.int (1 : Int32)), .val (.int la), .val (.int lb), .val (.int lc), .val (.ref b1), .val (.ref b2), .val (.ref b3), .val (.ref b4), .val (.int (1 : Int32))] [(.int (3 : Int32)), (.int (1 : Int32))]))
      refine own_st (fun _ k => XS.icmpYes X10.here hx rfl (pc0 := 142) (pc' := 180) rfl (hb hby at_142) rfl (tlt (by decide : (1 : Int32) < (3 : Int32))).1 (by decide) (by decide) k) ?_
      show own_Go p.tables e below F (T10.setTop (mkF m 180 #[.val (.int p0), .val (.int p1), .val (.int p2), .val (.int p3), .val (.int (1 : Int32)), .val (.int la), .val (.int lb), .val (.int lc), .val (.ref b1), .val (.ref b2), .val (.ref b3), .val (.ref b4), .val (.int (1 : Int32))] []))
      refine own_st (fun _ k => XS.iload X10.here hx rfl (hb hby at_180) rfl k) ?_
      show own_Go p.tables e below F (T10.setTop (mkF m 182 #[.val (.int p0), .val (.int p1), .val (.int p2), .val (.int p3), .val (.int (1 : Int32)), .val (.int la), .val (.int lb), .val (.int lc), .val (.ref b1), .val (.ref b2), .val (.ref b3), .val (.ref b4), .val (.int (1 : Int32))] [(.int (1 : Int32))]))
      obtain ⟨fs, hrL, hrun, hended, hW, hsame⟩ := X10.leave (v := some (.int (1 : Int32))) (fun h => by rw [Bd.returns] at h; cases h)
      refine own_end hF (o := .returned (some (.int (1 : Int32)))) (retN X10 hx (t := .boolean) Bd.returns (by simp) (hb hby at_182) hrL) ?_
      refine ⟨hrun, hended, _, _, rfl, ?_, ⟨_, rfl⟩, hW, hsame.mono (by decide) (by decide)⟩
      exact ⟨rfl, N10⟩
  ·
    rw [hk]
    show own_Go p.tables e below F (T6.setTop (mkF m 66 #[.val (.int p0), .val (.int p1), .val (.int p2), .val (.int p3), .val (.int (2 : Int32)), .val (.int la), .val (.int lb), .val (.int lc), .val (.ref b1), .val (.ref b2), .val (.ref b3), .val (.ref b4), .val (.int (1 : Int32))] []))
    refine own_st (fun _ k => XS.iload X6.here hx rfl (hb hby at_66) rfl k) ?_
    show own_Go p.tables e below F (T6.setTop (mkF m 68 #[.val (.int p0), .val (.int p1), .val (.int p2), .val (.int p3), .val (.int (2 : Int32)), .val (.int la), .val (.int lb), .val (.int lc), .val (.ref b1), .val (.ref b2), .val (.ref b3), .val (.ref b4), .val (.int (1 : Int32))] [(.int (2 : Int32))]))
    refine own_st (fun _ k => XS.iconst X6.here hx rfl (hb hby at_68) k) ?_
    show own_Go p.tables e below F (T6.setTop (mkF m 69 #[.val (.int p0), .val (.int p1), .val (.int p2), .val (.int p3), .val (.int (2 : Int32)), .val (.int la), .val (.int lb), .val (.int lc), .val (.ref b1), .val (.ref b2), .val (.ref b3), .val (.ref b4), .val (.int (1 : Int32))] [(.int (1 : Int32)), (.int (2 : Int32))]))
    refine own_st (fun _ k => XS.icmpNo X6.here hx rfl (hb hby at_69) rfl (flt (by decide : ¬ ((2 : Int32) < (1 : Int32)))).1 k) ?_
    show own_Go p.tables e below F (T6.setTop (mkF m 72 #[.val (.int p0), .val (.int p1), .val (.int p2), .val (.int p3), .val (.int (2 : Int32)), .val (.int la), .val (.int lb), .val (.int lc), .val (.ref b1), .val (.ref b2), .val (.ref b3), .val (.ref b4), .val (.int (1 : Int32))] []))
    refine own_st (fun _ k => XS.aload X6.here hx rfl (hb hby at_72) rfl rfl k) ?_
    show own_Go p.tables e below F (T6.setTop (mkF m 74 #[.val (.int p0), .val (.int p1), .val (.int p2), .val (.int p3), .val (.int (2 : Int32)), .val (.int la), .val (.int lb), .val (.int lc), .val (.ref b1), .val (.ref b2), .val (.ref b3), .val (.ref b4), .val (.int (1 : Int32))] [(.ref b4)]))
    refine own_st (fun _ k => XS.aload X6.here hx rfl (hb hby at_74) rfl rfl k) ?_
    show own_Go p.tables e below F (T6.setTop (mkF m 76 #[.val (.int p0), .val (.int p1), .val (.int p2), .val (.int p3), .val (.int (2 : Int32)), .val (.int la), .val (.int lb), .val (.int lc), .val (.ref b1), .val (.ref b2), .val (.ref b3), .val (.ref b4), .val (.int (1 : Int32))] [(.ref b1), (.ref b4)]))
    by_cases hp0 : (0 : Int32) < la
    ·
      obtain ⟨cq11, kq11, q11a, q11b, q11c⟩ := isOf hZ e6 TT5.1
      obtain ⟨_, _, ⟨T11, L11, k11, n11⟩, -, X11, ⟨Lc11, hQ11, l11, y11, z11⟩, st11⟩ := X6.virtualBack hx (y := (⟨"com/example/libmerit/libmerit/index/DocnoTable", "add", "([B)V"⟩ : MethodName)) (z := (⟨"com/example/libmerit/libmerit/index/DocnoTable", "add", "([B)V"⟩ : MethodName)) hown (mvT hZ (hw _ (List.mem_of_getElem? (i := 24) rfl))) (mvT hZ (hw _ (List.mem_of_getElem? (i := 25) rfl))) (notFace_of_selects (args := #[]) (mvT hZ (hw _ (List.mem_of_getElem? (i := 27) rfl)))) (mvT hZ (hw _ (List.mem_of_getElem? (i := 27) rfl))) (mvT hZ (hw _ (List.mem_of_getElem? (i := 26) rfl))) (by decide) (backOf (W := 0) (own_addM l Z a0 hw [] b4 pg en b1 kP kE k1 (0 : Int32) (1 : Int32) (0 : Int32) la la [(.int (0 : Int32)), (.int (0 : Int32)), (.int (0 : Int32))] _ T5.heap n0 (Nat.le_trans Z0 K0_5.1) (own_bc0 l Z a0 hw [] b4 pg en kP kE _ _ T5.heap n0 TT5) own_B0 hA V1__5 rfl ⟨by decide, by decide⟩ (by decide) ((Int32.zero_add la).symm) gn_b4 gn_pg gn_en ne_b4_en ne_b4_pg npe ne_b1_b4 ne_b1_pg ne_b1_en hp0 TT5) hZ (hw _ (List.mem_of_getElem? (i := 28) rfl)) (hw _ (List.mem_of_getElem? (i := 3) rfl)) (by decide) (by decide)) q11a q11c (g := (mkF m 76 #[.val (.int p0), .val (.int p1), .val (.int p2), .val (.int p3), .val (.int (2 : Int32)), .val (.int la), .val (.int lb), .val (.int lc), .val (.ref b1), .val (.ref b2), .val (.ref b3), .val (.ref b4), .val (.int (1 : Int32))] [(.ref b1), (.ref b4)])) rfl (by rw [hml]; rfl) (Steps.refl _) (argsL := [(.ref b1)]) (rest := []) (lenOf pd_3 rfl) rfl (by show 2 * 0 + _ ≤ _; exact Nat.le_of_eq rfl) (hb hby at_76) (fun _ _ => ⟨rfl, e6, (by decide : 6 + 1 ≤ _), (by decide : 100 + 65536 ≤ _)⟩)
      dsimp only [Pt.U, Pt.locs, Pt.cells, Pt.slots] at X11 l11 y11 z11 st11 hQ11
      subst l11 y11 z11
      obtain ⟨qp, rfl, N11q, K11, hqp, TT11, GG11⟩ := hQ11
      have N11 := Fr.app N6 N11q
      refine own_st (fun _ k => st11.trans k) ?_
      have ne_b1_qp : b1 ≠ qp := Nat.ne_of_lt (Nat.lt_of_lt_of_le V1__5.lt hqp)
      have ne_b2_qp : b2 ≠ qp := Nat.ne_of_lt (Nat.lt_of_lt_of_le V2__5.lt hqp)
      have ne_b3_qp : b3 ≠ qp := Nat.ne_of_lt (Nat.lt_of_lt_of_le V3__5.lt hqp)
      have ne_b4_qp : b4 ≠ qp := Nat.ne_of_lt (Nat.lt_of_lt_of_le TT5.1.lt hqp)
      have ne_pg_qp : pg ≠ qp := Nat.ne_of_lt (Nat.lt_of_lt_of_le TT5.2.2.2.2.1.lt hqp)
      have ne_en_qp : en ≠ qp := Nat.ne_of_lt (Nat.lt_of_lt_of_le TT5.2.2.2.2.2.1.lt hqp)
      have sz_qp : h0.size ≤ qp := Nat.le_trans K0_5.1 hqp
      have gn_qp : n0 ≤ qp := Nat.le_trans Z0 sz_qp
      have V1__11 := V1__5.keep K11 (ninS ne_b1_b4 (ninS ne_b1_pg (ninS ne_b1_en nin0)))
      have V2__11 := V2__5.keep K11 (ninS ne_b2_b4 (ninS ne_b2_pg (ninS ne_b2_en nin0)))
      have V3__11 := V3__5.keep K11 (ninS ne_b3_b4 (ninS ne_b3_pg (ninS ne_b3_en nin0)))
      have K0_11 := own_ext_keep K0_5 K11 (allS sz_b4 (allS sz_pg (allS sz_en all0)))
      have TU11 : own_T Z T11.heap b4 pg en kP kE (1 : Int32) [(.int la), (.int (0 : Int32)), (.int (0 : Int32))] (.ref qp) := TT11
      show own_Go p.tables e below F (T11.setTop (mkF m 79 #[.val (.int p0), .val (.int p1), .val (.int p2), .val (.int p3), .val (.int (2 : Int32)), .val (.int la), .val (.int lb), .val (.int lc), .val (.ref b1), .val (.ref b2), .val (.ref b3), .val (.ref b4), .val (.int (1 : Int32))] []))
      refine own_st (fun _ k => XS.iload X11.here hx rfl (hb hby at_79) rfl k) ?_
      show own_Go p.tables e below F (T11.setTop (mkF m 81 #[.val (.int p0), .val (.int p1), .val (.int p2), .val (.int p3), .val (.int (2 : Int32)), .val (.int la), .val (.int lb), .val (.int lc), .val (.ref b1), .val (.ref b2), .val (.ref b3), .val (.ref b4), .val (.int (1 : Int32))] [(.int (1 : Int32))]))
      refine own_st (fun _ k => XS.ifNo X11.here hx rfl (hb hby at_81) rfl ((if0 _ _).trans (feq (by decide : ¬ ((1 : Int32) = (0 : Int32)))).1) k) ?_
      show own_Go p.tables e below F (T11.setTop (mkF m 84 #[.val (.int p0), .val (.int p1), .val (.int p2), .val (.int p3), .val (.int (2 : Int32)), .val (.int la), .val (.int lb), .val (.int lc), .val (.ref b1), .val (.ref b2), .val (.ref b3), .val (.ref b4), .val (.int (1 : Int32))] []))
      refine own_st (fun _ k => XS.aload X11.here hx rfl (hb hby at_84) rfl rfl k) ?_
      show own_Go p.tables e below F (T11.setTop (mkF m 86 #[.val (.int p0), .val (.int p1), .val (.int p2), .val (.int p3), .val (.int (2 : Int32)), .val (.int la), .val (.int lb), .val (.int lc), .val (.ref b1), .val (.ref b2), .val (.ref b3), .val (.ref b4), .val (.int (1 : Int32))] [(.ref b4)]))
      obtain ⟨cq12, kq12, q12a, q12b, q12c⟩ := isOf hZ rfl TU11.1
      obtain ⟨_, _, ⟨T12, L12, k12, n12⟩, -, X12, ⟨Lc12, hQ12, l12, y12, z12⟩, st12⟩ := X11.virtualBack hx (y := (⟨"com/example/libmerit/libmerit/index/DocnoTable", "byteCount", "()I"⟩ : MethodName)) (z := (⟨"com/example/libmerit/libmerit/index/DocnoTable", "byteCount", "()I"⟩ : MethodName)) hown (mvT hZ (hw _ (List.mem_of_getElem? (i := 17) rfl))) (mvT hZ (hw _ (List.mem_of_getElem? (i := 18) rfl))) (notFace_of_selects (args := #[]) (mvT hZ (hw _ (List.mem_of_getElem? (i := 20) rfl)))) (mvT hZ (hw _ (List.mem_of_getElem? (i := 20) rfl))) (mvT hZ (hw _ (List.mem_of_getElem? (i := 19) rfl))) (by decide) (backOf (W := 0) (own_bcN l Z a0 hw [] b4 pg en kP kE (1 : Int32) _ _ la T11.heap n0 TU11 (by decide) ⟨by decide, by decide⟩ rfl) hZ (hw _ (List.mem_of_getElem? (i := 21) rfl)) (hw _ (List.mem_of_getElem? (i := 3) rfl)) (by decide) (by decide)) q12a q12c (g := (mkF m 86 #[.val (.int p0), .val (.int p1), .val (.int p2), .val (.int p3), .val (.int (2 : Int32)), .val (.int la), .val (.int lb), .val (.int lc), .val (.ref b1), .val (.ref b2), .val (.ref b3), .val (.ref b4), .val (.int (1 : Int32))] [(.ref b4)])) rfl (by rw [hml]; rfl) (Steps.refl _) (argsL := []) (rest := []) (lenOf pd_0 rfl) rfl (by show 2 * 0 + _ ≤ _; exact Nat.le_of_eq rfl) (hb hby at_86) (fun _ _ => ⟨rfl, rfl, (by decide : 7 + 0 ≤ _), (by decide : 65636 + 0 ≤ _)⟩)
      dsimp only [Pt.U, Pt.locs, Pt.cells, Pt.slots] at X12 l12 y12 z12 st12 hQ12
      subst l12 y12 z12
      obtain ⟨rfl, N12q, e12⟩ := hQ12
      have N12 := Fr.app N11 N12q
      refine own_st (fun _ k => st12.trans k) ?_
      show own_Go p.tables e below F (T12.setTop (mkF m 89 #[.val (.int p0), .val (.int p1), .val (.int p2), .val (.int p3), .val (.int (2 : Int32)), .val (.int la), .val (.int lb), .val (.int lc), .val (.ref b1), .val (.ref b2), .val (.ref b3), .val (.ref b4), .val (.int (1 : Int32))] [(.int la)]))
      refine own_st (fun _ k => XS.iload X12.here hx rfl (hb hby at_89) rfl k) ?_
      show own_Go p.tables e below F (T12.setTop (mkF m 91 #[.val (.int p0), .val (.int p1), .val (.int p2), .val (.int p3), .val (.int (2 : Int32)), .val (.int la), .val (.int lb), .val (.int lc), .val (.ref b1), .val (.ref b2), .val (.ref b3), .val (.ref b4), .val (.int (1 : Int32))] [(.int la), (.int la)]))
      refine own_st (fun _ k => XS.icmpNo X12.here hx rfl (hb hby at_91) rfl (teq (rfl : la = la)).2 k) ?_
      show own_Go p.tables e below F (T12.setTop (mkF m 94 #[.val (.int p0), .val (.int p1), .val (.int p2), .val (.int p3), .val (.int (2 : Int32)), .val (.int la), .val (.int lb), .val (.int lc), .val (.ref b1), .val (.ref b2), .val (.ref b3), .val (.ref b4), .val (.int (1 : Int32))] []))
      refine own_st (fun _ k => XS.iconst X12.here hx rfl (hb hby at_94) k) ?_
      show own_Go p.tables e below F (T12.setTop (mkF m 95 #[.val (.int p0), .val (.int p1), .val (.int p2), .val (.int p3), .val (.int (2 : Int32)), .val (.int la), .val (.int lb), .val (.int lc), .val (.ref b1), .val (.ref b2), .val (.ref b3), .val (.ref b4), .val (.int (1 : Int32))] [(.int (1 : Int32))]))
      refine own_st (fun _ k => XS.goto X12.here hx rfl (pc0 := 95) (pc' := 99) rfl (hb hby at_95) (by decide) (by decide) k) ?_
      show own_Go p.tables e below F (T12.setTop (mkF m 99 #[.val (.int p0), .val (.int p1), .val (.int p2), .val (.int p3), .val (.int (2 : Int32)), .val (.int la), .val (.int lb), .val (.int lc), .val (.ref b1), .val (.ref b2), .val (.ref b3), .val (.ref b4), .val (.int (1 : Int32))] [(.int (1 : Int32))]))
      refine own_st (fun _ k => XS.istore X12.here hx rfl (hb hby at_99) rfl (l' := #[.val (.int p0), .val (.int p1), .val (.int p2), .val (.int p3), .val (.int (2 : Int32)), .val (.int la), .val (.int lb), .val (.int lc), .val (.ref b1), .val (.ref b2), .val (.ref b3), .val (.ref b4), .val (.int (1 : Int32))]) rfl k) ?_
      show own_Go p.tables e below F (T12.setTop (mkF m 101 #[.val (.int p0), .val (.int p1), .val (.int p2), .val (.int p3), .val (.int (2 : Int32)), .val (.int la), .val (.int lb), .val (.int lc), .val (.ref b1), .val (.ref b2), .val (.ref b3), .val (.ref b4), .val (.int (1 : Int32))] []))
      refine own_st (fun _ k => XS.iload X12.here hx rfl (hb hby at_101) rfl k) ?_
      show own_Go p.tables e below F (T12.setTop (mkF m 103 #[.val (.int p0), .val (.int p1), .val (.int p2), .val (.int p3), .val (.int (2 : Int32)), .val (.int la), .val (.int lb), .val (.int lc), .val (.ref b1), .val (.ref b2), .val (.ref b3), .val (.ref b4), .val (.int (1 : Int32))] [(.int (2 : Int32))]))
      refine own_st (fun _ k => XS.iconst X12.here hx rfl (hb hby at_103) k) ?_
      show own_Go p.tables e below F (T12.setTop (mkF m 104 #[.val (.int p0), .val (.int p1), .val (.int p2), .val (.int p3), .val (.int (2 : Int32)), .val (.int la), .val (.int lb), .val (.int lc), .val (.ref b1), .val (.ref b2), .val (.ref b3), .val (.ref b4), .val (.int (1 : Int32))] [(.int (2 : Int32)), (.int (2 : Int32))]))
      refine own_st (fun _ k => XS.icmpNo X12.here hx rfl (hb hby at_104) rfl (flt (by decide : ¬ ((2 : Int32) < (2 : Int32)))).1 k) ?_
      show own_Go p.tables e below F (T12.setTop (mkF m 107 #[.val (.int p0), .val (.int p1), .val (.int p2), .val (.int p3), .val (.int (2 : Int32)), .val (.int la), .val (.int lb), .val (.int lc), .val (.ref b1), .val (.ref b2), .val (.ref b3), .val (.ref b4), .val (.int (1 : Int32))] []))
      refine own_st (fun _ k => XS.aload X12.here hx rfl (hb hby at_107) rfl rfl k) ?_
      show own_Go p.tables e below F (T12.setTop (mkF m 109 #[.val (.int p0), .val (.int p1), .val (.int p2), .val (.int p3), .val (.int (2 : Int32)), .val (.int la), .val (.int lb), .val (.int lc), .val (.ref b1), .val (.ref b2), .val (.ref b3), .val (.ref b4), .val (.int (1 : Int32))] [(.ref b4)]))
      refine own_st (fun _ k => XS.aload X12.here hx rfl (hb hby at_109) rfl rfl k) ?_
      show own_Go p.tables e below F (T12.setTop (mkF m 111 #[.val (.int p0), .val (.int p1), .val (.int p2), .val (.int p3), .val (.int (2 : Int32)), .val (.int la), .val (.int lb), .val (.int lc), .val (.ref b1), .val (.ref b2), .val (.ref b3), .val (.ref b4), .val (.int (1 : Int32))] [(.ref b2), (.ref b4)]))
      by_cases hp1 : (0 : Int32) < lb
      ·
        obtain ⟨cq13, kq13, q13a, q13b, q13c⟩ := isOf hZ e12 TU11.1
        obtain ⟨_, _, ⟨T13, L13, k13, n13⟩, -, X13, ⟨Lc13, hQ13, l13, y13, z13⟩, st13⟩ := X12.virtualBack hx (y := (⟨"com/example/libmerit/libmerit/index/DocnoTable", "add", "([B)V"⟩ : MethodName)) (z := (⟨"com/example/libmerit/libmerit/index/DocnoTable", "add", "([B)V"⟩ : MethodName)) hown (mvT hZ (hw _ (List.mem_of_getElem? (i := 24) rfl))) (mvT hZ (hw _ (List.mem_of_getElem? (i := 25) rfl))) (notFace_of_selects (args := #[]) (mvT hZ (hw _ (List.mem_of_getElem? (i := 27) rfl)))) (mvT hZ (hw _ (List.mem_of_getElem? (i := 27) rfl))) (mvT hZ (hw _ (List.mem_of_getElem? (i := 26) rfl))) (by decide) (backOf (W := 0) (own_addO l Z a0 hw [] b4 pg en b2 kP kE k2 (1 : Int32) (2 : Int32) la lb (la + lb) [(.int la), (.int (0 : Int32)), (.int (0 : Int32))] _ qp T11.heap n0 (Nat.le_trans Z0 K0_11.1) (own_bcN l Z a0 hw [] b4 pg en kP kE (1 : Int32) _ _ la T11.heap n0 TU11 (by decide) ⟨by decide, by decide⟩ rfl) (own_B1 hA) hB V2__11 rfl ⟨by decide, by decide⟩ (by decide) (rfl) gn_b4 gn_pg gn_en ne_b4_en ne_b4_pg npe ne_b2_b4 ne_b2_pg ne_b2_en hp1 TU11 GG11 gn_qp ne_b2_qp ne_b4_qp ne_pg_qp ne_en_qp) hZ (hw _ (List.mem_of_getElem? (i := 28) rfl)) (hw _ (List.mem_of_getElem? (i := 3) rfl)) (by decide) (by decide)) q13a q13c (g := (mkF m 111 #[.val (.int p0), .val (.int p1), .val (.int p2), .val (.int p3), .val (.int (2 : Int32)), .val (.int la), .val (.int lb), .val (.int lc), .val (.ref b1), .val (.ref b2), .val (.ref b3), .val (.ref b4), .val (.int (1 : Int32))] [(.ref b2), (.ref b4)])) rfl (by rw [hml]; rfl) (Steps.refl _) (argsL := [(.ref b2)]) (rest := []) (lenOf pd_3 rfl) rfl (by show 2 * 0 + _ ≤ _; exact Nat.le_of_eq rfl) (hb hby at_111) (fun _ _ => ⟨rfl, e12, (by decide : 7 + 0 ≤ _), (by decide : 65636 + 0 ≤ _)⟩)
        dsimp only [Pt.U, Pt.locs, Pt.cells, Pt.slots] at X13 l13 y13 z13 st13 hQ13
        subst l13 y13 z13
        obtain ⟨rfl, N13q, K13, TT13, GG13⟩ := hQ13
        have N13 := Fr.app N12 N13q
        refine own_st (fun _ k => st13.trans k) ?_
        have V1__13 := V1__11.keep K13 (ninS ne_b1_b4 (ninS ne_b1_en (ninS ne_b1_qp nin0)))
        have V2__13 := V2__11.keep K13 (ninS ne_b2_b4 (ninS ne_b2_en (ninS ne_b2_qp nin0)))
        have V3__13 := V3__11.keep K13 (ninS ne_b3_b4 (ninS ne_b3_en (ninS ne_b3_qp nin0)))
        have K0_13 := own_ext_keep K0_11 K13 (allS sz_b4 (allS sz_en (allS sz_qp all0)))
        have TU13 : own_T Z T13.heap b4 pg en kP kE (2 : Int32) [(.int la), (.int (la + lb)), (.int (0 : Int32))] (.ref qp) := TT13
        show own_Go p.tables e below F (T13.setTop (mkF m 114 #[.val (.int p0), .val (.int p1), .val (.int p2), .val (.int p3), .val (.int (2 : Int32)), .val (.int la), .val (.int lb), .val (.int lc), .val (.ref b1), .val (.ref b2), .val (.ref b3), .val (.ref b4), .val (.int (1 : Int32))] []))
        refine own_st (fun _ k => XS.iload X13.here hx rfl (hb hby at_114) rfl k) ?_
        show own_Go p.tables e below F (T13.setTop (mkF m 116 #[.val (.int p0), .val (.int p1), .val (.int p2), .val (.int p3), .val (.int (2 : Int32)), .val (.int la), .val (.int lb), .val (.int lc), .val (.ref b1), .val (.ref b2), .val (.ref b3), .val (.ref b4), .val (.int (1 : Int32))] [(.int (1 : Int32))]))
        refine own_st (fun _ k => XS.ifNo X13.here hx rfl (hb hby at_116) rfl ((if0 _ _).trans (feq (by decide : ¬ ((1 : Int32) = (0 : Int32)))).1) k) ?_
        show own_Go p.tables e below F (T13.setTop (mkF m 119 #[.val (.int p0), .val (.int p1), .val (.int p2), .val (.int p3), .val (.int (2 : Int32)), .val (.int la), .val (.int lb), .val (.int lc), .val (.ref b1), .val (.ref b2), .val (.ref b3), .val (.ref b4), .val (.int (1 : Int32))] []))
        refine own_st (fun _ k => XS.aload X13.here hx rfl (hb hby at_119) rfl rfl k) ?_
        show own_Go p.tables e below F (T13.setTop (mkF m 121 #[.val (.int p0), .val (.int p1), .val (.int p2), .val (.int p3), .val (.int (2 : Int32)), .val (.int la), .val (.int lb), .val (.int lc), .val (.ref b1), .val (.ref b2), .val (.ref b3), .val (.ref b4), .val (.int (1 : Int32))] [(.ref b4)]))
        obtain ⟨cq14, kq14, q14a, q14b, q14c⟩ := isOf hZ rfl TU13.1
        obtain ⟨_, _, ⟨T14, L14, k14, n14⟩, -, X14, ⟨Lc14, hQ14, l14, y14, z14⟩, st14⟩ := X13.virtualBack hx (y := (⟨"com/example/libmerit/libmerit/index/DocnoTable", "byteCount", "()I"⟩ : MethodName)) (z := (⟨"com/example/libmerit/libmerit/index/DocnoTable", "byteCount", "()I"⟩ : MethodName)) hown (mvT hZ (hw _ (List.mem_of_getElem? (i := 17) rfl))) (mvT hZ (hw _ (List.mem_of_getElem? (i := 18) rfl))) (notFace_of_selects (args := #[]) (mvT hZ (hw _ (List.mem_of_getElem? (i := 20) rfl)))) (mvT hZ (hw _ (List.mem_of_getElem? (i := 20) rfl))) (mvT hZ (hw _ (List.mem_of_getElem? (i := 19) rfl))) (by decide) (backOf (W := 0) (own_bcN l Z a0 hw [] b4 pg en kP kE (2 : Int32) _ _ (la + lb) T13.heap n0 TU13 (by decide) ⟨by decide, by decide⟩ rfl) hZ (hw _ (List.mem_of_getElem? (i := 21) rfl)) (hw _ (List.mem_of_getElem? (i := 3) rfl)) (by decide) (by decide)) q14a q14c (g := (mkF m 121 #[.val (.int p0), .val (.int p1), .val (.int p2), .val (.int p3), .val (.int (2 : Int32)), .val (.int la), .val (.int lb), .val (.int lc), .val (.ref b1), .val (.ref b2), .val (.ref b3), .val (.ref b4), .val (.int (1 : Int32))] [(.ref b4)])) rfl (by rw [hml]; rfl) (Steps.refl _) (argsL := []) (rest := []) (lenOf pd_0 rfl) rfl (by show 2 * 0 + _ ≤ _; exact Nat.le_of_eq rfl) (hb hby at_121) (fun _ _ => ⟨rfl, rfl, (by decide : 7 + 0 ≤ _), (by decide : 65636 + 0 ≤ _)⟩)
        dsimp only [Pt.U, Pt.locs, Pt.cells, Pt.slots] at X14 l14 y14 z14 st14 hQ14
        subst l14 y14 z14
        obtain ⟨rfl, N14q, e14⟩ := hQ14
        have N14 := Fr.app N13 N14q
        refine own_st (fun _ k => st14.trans k) ?_
        show own_Go p.tables e below F (T14.setTop (mkF m 124 #[.val (.int p0), .val (.int p1), .val (.int p2), .val (.int p3), .val (.int (2 : Int32)), .val (.int la), .val (.int lb), .val (.int lc), .val (.ref b1), .val (.ref b2), .val (.ref b3), .val (.ref b4), .val (.int (1 : Int32))] [(.int (la + lb))]))
        refine own_st (fun _ k => XS.iload X14.here hx rfl (hb hby at_124) rfl k) ?_
        show own_Go p.tables e below F (T14.setTop (mkF m 126 #[.val (.int p0), .val (.int p1), .val (.int p2), .val (.int p3), .val (.int (2 : Int32)), .val (.int la), .val (.int lb), .val (.int lc), .val (.ref b1), .val (.ref b2), .val (.ref b3), .val (.ref b4), .val (.int (1 : Int32))] [(.int la), (.int (la + lb))]))
        refine own_st (fun _ k => XS.iload X14.here hx rfl (hb hby at_126) rfl k) ?_
        show own_Go p.tables e below F (T14.setTop (mkF m 128 #[.val (.int p0), .val (.int p1), .val (.int p2), .val (.int p3), .val (.int (2 : Int32)), .val (.int la), .val (.int lb), .val (.int lc), .val (.ref b1), .val (.ref b2), .val (.ref b3), .val (.ref b4), .val (.int (1 : Int32))] [(.int lb), (.int la), (.int (la + lb))]))
        refine own_st (fun _ k => XS.iadd X14.here hx rfl (hb hby at_128) rfl k) ?_
        show own_Go p.tables e below F (T14.setTop (mkF m 129 #[.val (.int p0), .val (.int p1), .val (.int p2), .val (.int p3), .val (.int (2 : Int32)), .val (.int la), .val (.int lb), .val (.int lc), .val (.ref b1), .val (.ref b2), .val (.ref b3), .val (.ref b4), .val (.int (1 : Int32))] [(.int (la + lb)), (.int (la + lb))]))
        refine own_st (fun _ k => XS.icmpNo X14.here hx rfl (hb hby at_129) rfl (teq (rfl : (la + lb) = (la + lb))).2 k) ?_
        show own_Go p.tables e below F (T14.setTop (mkF m 132 #[.val (.int p0), .val (.int p1), .val (.int p2), .val (.int p3), .val (.int (2 : Int32)), .val (.int la), .val (.int lb), .val (.int lc), .val (.ref b1), .val (.ref b2), .val (.ref b3), .val (.ref b4), .val (.int (1 : Int32))] []))
        refine own_st (fun _ k => XS.iconst X14.here hx rfl (hb hby at_132) k) ?_
        show own_Go p.tables e below F (T14.setTop (mkF m 133 #[.val (.int p0), .val (.int p1), .val (.int p2), .val (.int p3), .val (.int (2 : Int32)), .val (.int la), .val (.int lb), .val (.int lc), .val (.ref b1), .val (.ref b2), .val (.ref b3), .val (.ref b4), .val (.int (1 : Int32))] [(.int (1 : Int32))]))
        refine own_st (fun _ k => XS.goto X14.here hx rfl (pc0 := 133) (pc' := 137) rfl (hb hby at_133) (by decide) (by decide) k) ?_
        show own_Go p.tables e below F (T14.setTop (mkF m 137 #[.val (.int p0), .val (.int p1), .val (.int p2), .val (.int p3), .val (.int (2 : Int32)), .val (.int la), .val (.int lb), .val (.int lc), .val (.ref b1), .val (.ref b2), .val (.ref b3), .val (.ref b4), .val (.int (1 : Int32))] [(.int (1 : Int32))]))
        refine own_st (fun _ k => XS.istore X14.here hx rfl (hb hby at_137) rfl (l' := #[.val (.int p0), .val (.int p1), .val (.int p2), .val (.int p3), .val (.int (2 : Int32)), .val (.int la), .val (.int lb), .val (.int lc), .val (.ref b1), .val (.ref b2), .val (.ref b3), .val (.ref b4), .val (.int (1 : Int32))]) rfl k) ?_
        show own_Go p.tables e below F (T14.setTop (mkF m 139 #[.val (.int p0), .val (.int p1), .val (.int p2), .val (.int p3), .val (.int (2 : Int32)), .val (.int la), .val (.int lb), .val (.int lc), .val (.ref b1), .val (.ref b2), .val (.ref b3), .val (.ref b4), .val (.int (1 : Int32))] []))
        refine own_st (fun _ k => XS.iload X14.here hx rfl (hb hby at_139) rfl k) ?_
        show own_Go p.tables e below F (T14.setTop (mkF m 141 #[.val (.int p0), .val (.int p1), .val (.int p2), .val (.int p3), .val (.int (2 : Int32)), .val (.int la), .val (.int lb), .val (.int lc), .val (.ref b1), .val (.ref b2), .val (.ref b3), .val (.ref b4), .val (.int (1 : Int32))] [(.int (2 : Int32))]))
        refine own_st (fun _ k => XS.iconst X14.here hx rfl (hb hby at_141) k) ?_
        show own_Go p.tables e below F (T14.setTop (mkF m 142 #[.val (.int p0), .val (.int p1), .val (.int p2), .val (.int p3), .val (.int (2 : Int32)), .val (.int la), .val (.int lb), .val (.int lc), .val (.ref b1), .val (.ref b2), .val (.ref b3), .val (.ref b4), .val (.int (1 : Int32))] [(.int (3 : Int32)), (.int (2 : Int32))]))
        refine own_st (fun _ k => XS.icmpYes X14.here hx rfl (pc0 := 142) (pc' := 180) rfl (hb hby at_142) rfl (tlt (by decide : (2 : Int32) < (3 : Int32))).1 (by decide) (by decide) k) ?_
        show own_Go p.tables e below F (T14.setTop (mkF m 180 #[.val (.int p0), .val (.int p1), .val (.int p2), .val (.int p3), .val (.int (2 : Int32)), .val (.int la), .val (.int lb), .val (.int lc), .val (.ref b1), .val (.ref b2), .val (.ref b3), .val (.ref b4), .val (.int (1 : Int32))] []))
        refine own_st (fun _ k => XS.iload X14.here hx rfl (hb hby at_180) rfl k) ?_
        show own_Go p.tables e below F (T14.setTop (mkF m 182 #[.val (.int p0), .val (.int p1), .val (.int p2), .val (.int p3), .val (.int (2 : Int32)), .val (.int la), .val (.int lb), .val (.int lc), .val (.ref b1), .val (.ref b2), .val (.ref b3), .val (.ref b4), .val (.int (1 : Int32))] [(.int (1 : Int32))]))
        obtain ⟨fs, hrL, hrun, hended, hW, hsame⟩ := X14.leave (v := some (.int (1 : Int32))) (fun h => by rw [Bd.returns] at h; cases h)
        refine own_end hF (o := .returned (some (.int (1 : Int32)))) (retN X14 hx (t := .boolean) Bd.returns (by simp) (hb hby at_182) hrL) ?_
        refine ⟨hrun, hended, _, _, rfl, ?_, ⟨_, rfl⟩, hW, hsame.mono (by decide) (by decide)⟩
        exact ⟨rfl, N14⟩
      ·
        obtain ⟨cq15, kq15, q15a, q15b, q15c⟩ := isOf hZ e12 TU11.1
        obtain ⟨_, _, ⟨T15, L15, k15, n15⟩, -, X15, ⟨Lc15, hQ15, l15, y15, z15⟩, st15⟩ := X12.virtualBack hx (y := (⟨"com/example/libmerit/libmerit/index/DocnoTable", "add", "([B)V"⟩ : MethodName)) (z := (⟨"com/example/libmerit/libmerit/index/DocnoTable", "add", "([B)V"⟩ : MethodName)) hown (mvT hZ (hw _ (List.mem_of_getElem? (i := 24) rfl))) (mvT hZ (hw _ (List.mem_of_getElem? (i := 25) rfl))) (notFace_of_selects (args := #[]) (mvT hZ (hw _ (List.mem_of_getElem? (i := 27) rfl)))) (mvT hZ (hw _ (List.mem_of_getElem? (i := 27) rfl))) (mvT hZ (hw _ (List.mem_of_getElem? (i := 26) rfl))) (by decide) (backOf (W := 0) (own_addZ l Z a0 hw [] b4 pg en b2 kP kE k2 (1 : Int32) (2 : Int32) la lb (la + lb) [(.int la), (.int (0 : Int32)), (.int (0 : Int32))] _ (.ref qp) T11.heap n0 (Nat.le_trans Z0 K0_11.1) (own_bcN l Z a0 hw [] b4 pg en kP kE (1 : Int32) _ _ la T11.heap n0 TU11 (by decide) ⟨by decide, by decide⟩ rfl) (own_B1 hA) hB V2__11 rfl ⟨by decide, by decide⟩ (by decide) (rfl) gn_b4 gn_pg gn_en ne_b4_en ne_b4_pg npe ne_b2_b4 ne_b2_pg ne_b2_en hp1 TU11) hZ (hw _ (List.mem_of_getElem? (i := 28) rfl)) (hw _ (List.mem_of_getElem? (i := 3) rfl)) (by decide) (by decide)) q15a q15c (g := (mkF m 111 #[.val (.int p0), .val (.int p1), .val (.int p2), .val (.int p3), .val (.int (2 : Int32)), .val (.int la), .val (.int lb), .val (.int lc), .val (.ref b1), .val (.ref b2), .val (.ref b3), .val (.ref b4), .val (.int (1 : Int32))] [(.ref b2), (.ref b4)])) rfl (by rw [hml]; rfl) (Steps.refl _) (argsL := [(.ref b2)]) (rest := []) (lenOf pd_3 rfl) rfl (by show 2 * 0 + _ ≤ _; exact Nat.le_of_eq rfl) (hb hby at_111) (fun _ _ => ⟨rfl, e12, (by decide : 7 + 0 ≤ _), (by decide : 65636 + 0 ≤ _)⟩)
        dsimp only [Pt.U, Pt.locs, Pt.cells, Pt.slots] at X15 l15 y15 z15 st15 hQ15
        subst l15 y15 z15
        obtain ⟨rfl, N15q, K15, TT15⟩ := hQ15
        have N15 := Fr.app N12 N15q
        refine own_st (fun _ k => st15.trans k) ?_
        have GG15 := own_Pg_keep GG11 K15 (ninS (Ne.symm ne_b4_qp) (ninS (Ne.symm ne_en_qp) nin0))
        have V1__15 := V1__11.keep K15 (ninS ne_b1_b4 (ninS ne_b1_en nin0))
        have V2__15 := V2__11.keep K15 (ninS ne_b2_b4 (ninS ne_b2_en nin0))
        have V3__15 := V3__11.keep K15 (ninS ne_b3_b4 (ninS ne_b3_en nin0))
        have K0_15 := own_ext_keep K0_11 K15 (allS sz_b4 (allS sz_en all0))
        have TU15 : own_T Z T15.heap b4 pg en kP kE (2 : Int32) [(.int la), (.int (la + lb)), (.int (0 : Int32))] (.ref qp) := TT15
        show own_Go p.tables e below F (T15.setTop (mkF m 114 #[.val (.int p0), .val (.int p1), .val (.int p2), .val (.int p3), .val (.int (2 : Int32)), .val (.int la), .val (.int lb), .val (.int lc), .val (.ref b1), .val (.ref b2), .val (.ref b3), .val (.ref b4), .val (.int (1 : Int32))] []))
        refine own_st (fun _ k => XS.iload X15.here hx rfl (hb hby at_114) rfl k) ?_
        show own_Go p.tables e below F (T15.setTop (mkF m 116 #[.val (.int p0), .val (.int p1), .val (.int p2), .val (.int p3), .val (.int (2 : Int32)), .val (.int la), .val (.int lb), .val (.int lc), .val (.ref b1), .val (.ref b2), .val (.ref b3), .val (.ref b4), .val (.int (1 : Int32))] [(.int (1 : Int32))]))
        refine own_st (fun _ k => XS.ifNo X15.here hx rfl (hb hby at_116) rfl ((if0 _ _).trans (feq (by decide : ¬ ((1 : Int32) = (0 : Int32)))).1) k) ?_
        show own_Go p.tables e below F (T15.setTop (mkF m 119 #[.val (.int p0), .val (.int p1), .val (.int p2), .val (.int p3), .val (.int (2 : Int32)), .val (.int la), .val (.int lb), .val (.int lc), .val (.ref b1), .val (.ref b2), .val (.ref b3), .val (.ref b4), .val (.int (1 : Int32))] []))
        refine own_st (fun _ k => XS.aload X15.here hx rfl (hb hby at_119) rfl rfl k) ?_
        show own_Go p.tables e below F (T15.setTop (mkF m 121 #[.val (.int p0), .val (.int p1), .val (.int p2), .val (.int p3), .val (.int (2 : Int32)), .val (.int la), .val (.int lb), .val (.int lc), .val (.ref b1), .val (.ref b2), .val (.ref b3), .val (.ref b4), .val (.int (1 : Int32))] [(.ref b4)]))
        obtain ⟨cq16, kq16, q16a, q16b, q16c⟩ := isOf hZ rfl TU15.1
        obtain ⟨_, _, ⟨T16, L16, k16, n16⟩, -, X16, ⟨Lc16, hQ16, l16, y16, z16⟩, st16⟩ := X15.virtualBack hx (y := (⟨"com/example/libmerit/libmerit/index/DocnoTable", "byteCount", "()I"⟩ : MethodName)) (z := (⟨"com/example/libmerit/libmerit/index/DocnoTable", "byteCount", "()I"⟩ : MethodName)) hown (mvT hZ (hw _ (List.mem_of_getElem? (i := 17) rfl))) (mvT hZ (hw _ (List.mem_of_getElem? (i := 18) rfl))) (notFace_of_selects (args := #[]) (mvT hZ (hw _ (List.mem_of_getElem? (i := 20) rfl)))) (mvT hZ (hw _ (List.mem_of_getElem? (i := 20) rfl))) (mvT hZ (hw _ (List.mem_of_getElem? (i := 19) rfl))) (by decide) (backOf (W := 0) (own_bcN l Z a0 hw [] b4 pg en kP kE (2 : Int32) _ _ (la + lb) T15.heap n0 TU15 (by decide) ⟨by decide, by decide⟩ rfl) hZ (hw _ (List.mem_of_getElem? (i := 21) rfl)) (hw _ (List.mem_of_getElem? (i := 3) rfl)) (by decide) (by decide)) q16a q16c (g := (mkF m 121 #[.val (.int p0), .val (.int p1), .val (.int p2), .val (.int p3), .val (.int (2 : Int32)), .val (.int la), .val (.int lb), .val (.int lc), .val (.ref b1), .val (.ref b2), .val (.ref b3), .val (.ref b4), .val (.int (1 : Int32))] [(.ref b4)])) rfl (by rw [hml]; rfl) (Steps.refl _) (argsL := []) (rest := []) (lenOf pd_0 rfl) rfl (by show 2 * 0 + _ ≤ _; exact Nat.le_of_eq rfl) (hb hby at_121) (fun _ _ => ⟨rfl, rfl, (by decide : 7 + 0 ≤ _), (by decide : 65636 + 0 ≤ _)⟩)
        dsimp only [Pt.U, Pt.locs, Pt.cells, Pt.slots] at X16 l16 y16 z16 st16 hQ16
        subst l16 y16 z16
        obtain ⟨rfl, N16q, e16⟩ := hQ16
        have N16 := Fr.app N15 N16q
        refine own_st (fun _ k => st16.trans k) ?_
        show own_Go p.tables e below F (T16.setTop (mkF m 124 #[.val (.int p0), .val (.int p1), .val (.int p2), .val (.int p3), .val (.int (2 : Int32)), .val (.int la), .val (.int lb), .val (.int lc), .val (.ref b1), .val (.ref b2), .val (.ref b3), .val (.ref b4), .val (.int (1 : Int32))] [(.int (la + lb))]))
        refine own_st (fun _ k => XS.iload X16.here hx rfl (hb hby at_124) rfl k) ?_
        show own_Go p.tables e below F (T16.setTop (mkF m 126 #[.val (.int p0), .val (.int p1), .val (.int p2), .val (.int p3), .val (.int (2 : Int32)), .val (.int la), .val (.int lb), .val (.int lc), .val (.ref b1), .val (.ref b2), .val (.ref b3), .val (.ref b4), .val (.int (1 : Int32))] [(.int la), (.int (la + lb))]))
        refine own_st (fun _ k => XS.iload X16.here hx rfl (hb hby at_126) rfl k) ?_
        show own_Go p.tables e below F (T16.setTop (mkF m 128 #[.val (.int p0), .val (.int p1), .val (.int p2), .val (.int p3), .val (.int (2 : Int32)), .val (.int la), .val (.int lb), .val (.int lc), .val (.ref b1), .val (.ref b2), .val (.ref b3), .val (.ref b4), .val (.int (1 : Int32))] [(.int lb), (.int la), (.int (la + lb))]))
        refine own_st (fun _ k => XS.iadd X16.here hx rfl (hb hby at_128) rfl k) ?_
        show own_Go p.tables e below F (T16.setTop (mkF m 129 #[.val (.int p0), .val (.int p1), .val (.int p2), .val (.int p3), .val (.int (2 : Int32)), .val (.int la), .val (.int lb), .val (.int lc), .val (.ref b1), .val (.ref b2), .val (.ref b3), .val (.ref b4), .val (.int (1 : Int32))] [(.int (la + lb)), (.int (la + lb))]))
        refine own_st (fun _ k => XS.icmpNo X16.here hx rfl (hb hby at_129) rfl (teq (rfl : (la + lb) = (la + lb))).2 k) ?_
        show own_Go p.tables e below F (T16.setTop (mkF m 132 #[.val (.int p0), .val (.int p1), .val (.int p2), .val (.int p3), .val (.int (2 : Int32)), .val (.int la), .val (.int lb), .val (.int lc), .val (.ref b1), .val (.ref b2), .val (.ref b3), .val (.ref b4), .val (.int (1 : Int32))] []))
        refine own_st (fun _ k => XS.iconst X16.here hx rfl (hb hby at_132) k) ?_
        show own_Go p.tables e below F (T16.setTop (mkF m 133 #[.val (.int p0), .val (.int p1), .val (.int p2), .val (.int p3), .val (.int (2 : Int32)), .val (.int la), .val (.int lb), .val (.int lc), .val (.ref b1), .val (.ref b2), .val (.ref b3), .val (.ref b4), .val (.int (1 : Int32))] [(.int (1 : Int32))]))
        refine own_st (fun _ k => XS.goto X16.here hx rfl (pc0 := 133) (pc' := 137) rfl (hb hby at_133) (by decide) (by decide) k) ?_
        show own_Go p.tables e below F (T16.setTop (mkF m 137 #[.val (.int p0), .val (.int p1), .val (.int p2), .val (.int p3), .val (.int (2 : Int32)), .val (.int la), .val (.int lb), .val (.int lc), .val (.ref b1), .val (.ref b2), .val (.ref b3), .val (.ref b4), .val (.int (1 : Int32))] [(.int (1 : Int32))]))
        refine own_st (fun _ k => XS.istore X16.here hx rfl (hb hby at_137) rfl (l' := #[.val (.int p0), .val (.int p1), .val (.int p2), .val (.int p3), .val (.int (2 : Int32)), .val (.int la), .val (.int lb), .val (.int lc), .val (.ref b1), .val (.ref b2), .val (.ref b3), .val (.ref b4), .val (.int (1 : Int32))]) rfl k) ?_
        show own_Go p.tables e below F (T16.setTop (mkF m 139 #[.val (.int p0), .val (.int p1), .val (.int p2), .val (.int p3), .val (.int (2 : Int32)), .val (.int la), .val (.int lb), .val (.int lc), .val (.ref b1), .val (.ref b2), .val (.ref b3), .val (.ref b4), .val (.int (1 : Int32))] []))
        refine own_st (fun _ k => XS.iload X16.here hx rfl (hb hby at_139) rfl k) ?_
        show own_Go p.tables e below F (T16.setTop (mkF m 141 #[.val (.int p0), .val (.int p1), .val (.int p2), .val (.int p3), .val (.int (2 : Int32)), .val (.int la), .val (.int lb), .val (.int lc), .val (.ref b1), .val (.ref b2), .val (.ref b3), .val (.ref b4), .val (.int (1 : Int32))] [(.int (2 : Int32))]))
        refine own_st (fun _ k => XS.iconst X16.here hx rfl (hb hby at_141) k) ?_
        show own_Go p.tables e below F (T16.setTop (mkF m 142 #[.val (.int p0), .val (.int p1), .val (.int p2), .val (.int p3), .val (.int (2 : Int32)), .val (.int la), .val (.int lb), .val (.int lc), .val (.ref b1), .val (.ref b2), .val (.ref b3), .val (.ref b4), .val (.int (1 : Int32))] [(.int (3 : Int32)), (.int (2 : Int32))]))
        refine own_st (fun _ k => XS.icmpYes X16.here hx rfl (pc0 := 142) (pc' := 180) rfl (hb hby at_142) rfl (tlt (by decide : (2 : Int32) < (3 : Int32))).1 (by decide) (by decide) k) ?_
        show own_Go p.tables e below F (T16.setTop (mkF m 180 #[.val (.int p0), .val (.int p1), .val (.int p2), .val (.int p3), .val (.int (2 : Int32)), .val (.int la), .val (.int lb), .val (.int lc), .val (.ref b1), .val (.ref b2), .val (.ref b3), .val (.ref b4), .val (.int (1 : Int32))] []))
        refine own_st (fun _ k => XS.iload X16.here hx rfl (hb hby at_180) rfl k) ?_
        show own_Go p.tables e below F (T16.setTop (mkF m 182 #[.val (.int p0), .val (.int p1), .val (.int p2), .val (.int p3), .val (.int (2 : Int32)), .val (.int la), .val (.int lb), .val (.int lc), .val (.ref b1), .val (.ref b2), .val (.ref b3), .val (.ref b4), .val (.int (1 : Int32))] [(.int (1 : Int32))]))
        obtain ⟨fs, hrL, hrun, hended, hW, hsame⟩ := X16.leave (v := some (.int (1 : Int32))) (fun h => by rw [Bd.returns] at h; cases h)
        refine own_end hF (o := .returned (some (.int (1 : Int32)))) (retN X16 hx (t := .boolean) Bd.returns (by simp) (hb hby at_182) hrL) ?_
        refine ⟨hrun, hended, _, _, rfl, ?_, ⟨_, rfl⟩, hW, hsame.mono (by decide) (by decide)⟩
        exact ⟨rfl, N16⟩
    ·
      obtain ⟨cq17, kq17, q17a, q17b, q17c⟩ := isOf hZ e6 TT5.1
      obtain ⟨_, _, ⟨T17, L17, k17, n17⟩, -, X17, ⟨Lc17, hQ17, l17, y17, z17⟩, st17⟩ := X6.virtualBack hx (y := (⟨"com/example/libmerit/libmerit/index/DocnoTable", "add", "([B)V"⟩ : MethodName)) (z := (⟨"com/example/libmerit/libmerit/index/DocnoTable", "add", "([B)V"⟩ : MethodName)) hown (mvT hZ (hw _ (List.mem_of_getElem? (i := 24) rfl))) (mvT hZ (hw _ (List.mem_of_getElem? (i := 25) rfl))) (notFace_of_selects (args := #[]) (mvT hZ (hw _ (List.mem_of_getElem? (i := 27) rfl)))) (mvT hZ (hw _ (List.mem_of_getElem? (i := 27) rfl))) (mvT hZ (hw _ (List.mem_of_getElem? (i := 26) rfl))) (by decide) (backOf (W := 0) (own_addZ l Z a0 hw [] b4 pg en b1 kP kE k1 (0 : Int32) (1 : Int32) (0 : Int32) la la [(.int (0 : Int32)), (.int (0 : Int32)), (.int (0 : Int32))] _ .null T5.heap n0 (Nat.le_trans Z0 K0_5.1) (own_bc0 l Z a0 hw [] b4 pg en kP kE _ _ T5.heap n0 TT5) own_B0 hA V1__5 rfl ⟨by decide, by decide⟩ (by decide) ((Int32.zero_add la).symm) gn_b4 gn_pg gn_en ne_b4_en ne_b4_pg npe ne_b1_b4 ne_b1_pg ne_b1_en hp0 TT5) hZ (hw _ (List.mem_of_getElem? (i := 28) rfl)) (hw _ (List.mem_of_getElem? (i := 3) rfl)) (by decide) (by decide)) q17a q17c (g := (mkF m 76 #[.val (.int p0), .val (.int p1), .val (.int p2), .val (.int p3), .val (.int (2 : Int32)), .val (.int la), .val (.int lb), .val (.int lc), .val (.ref b1), .val (.ref b2), .val (.ref b3), .val (.ref b4), .val (.int (1 : Int32))] [(.ref b1), (.ref b4)])) rfl (by rw [hml]; rfl) (Steps.refl _) (argsL := [(.ref b1)]) (rest := []) (lenOf pd_3 rfl) rfl (by show 2 * 0 + _ ≤ _; exact Nat.le_of_eq rfl) (hb hby at_76) (fun _ _ => ⟨rfl, e6, (by decide : 6 + 0 ≤ _), (by decide : 100 + 0 ≤ _)⟩)
      dsimp only [Pt.U, Pt.locs, Pt.cells, Pt.slots] at X17 l17 y17 z17 st17 hQ17
      subst l17 y17 z17
      obtain ⟨rfl, N17q, K17, TT17⟩ := hQ17
      have N17 := Fr.app N6 N17q
      refine own_st (fun _ k => st17.trans k) ?_
      have V1__17 := V1__5.keep K17 (ninS ne_b1_b4 (ninS ne_b1_en nin0))
      have V2__17 := V2__5.keep K17 (ninS ne_b2_b4 (ninS ne_b2_en nin0))
      have V3__17 := V3__5.keep K17 (ninS ne_b3_b4 (ninS ne_b3_en nin0))
      have K0_17 := own_ext_keep K0_5 K17 (allS sz_b4 (allS sz_en all0))
      have TU17 : own_T Z T17.heap b4 pg en kP kE (1 : Int32) [(.int la), (.int (0 : Int32)), (.int (0 : Int32))] .null := TT17
      show own_Go p.tables e below F (T17.setTop (mkF m 79 #[.val (.int p0), .val (.int p1), .val (.int p2), .val (.int p3), .val (.int (2 : Int32)), .val (.int la), .val (.int lb), .val (.int lc), .val (.ref b1), .val (.ref b2), .val (.ref b3), .val (.ref b4), .val (.int (1 : Int32))] []))
      refine own_st (fun _ k => XS.iload X17.here hx rfl (hb hby at_79) rfl k) ?_
      show own_Go p.tables e below F (T17.setTop (mkF m 81 #[.val (.int p0), .val (.int p1), .val (.int p2), .val (.int p3), .val (.int (2 : Int32)), .val (.int la), .val (.int lb), .val (.int lc), .val (.ref b1), .val (.ref b2), .val (.ref b3), .val (.ref b4), .val (.int (1 : Int32))] [(.int (1 : Int32))]))
      refine own_st (fun _ k => XS.ifNo X17.here hx rfl (hb hby at_81) rfl ((if0 _ _).trans (feq (by decide : ¬ ((1 : Int32) = (0 : Int32)))).1) k) ?_
      show own_Go p.tables e below F (T17.setTop (mkF m 84 #[.val (.int p0), .val (.int p1), .val (.int p2), .val (.int p3), .val (.int (2 : Int32)), .val (.int la), .val (.int lb), .val (.int lc), .val (.ref b1), .val (.ref b2), .val (.ref b3), .val (.ref b4), .val (.int (1 : Int32))] []))
      refine own_st (fun _ k => XS.aload X17.here hx rfl (hb hby at_84) rfl rfl k) ?_
      show own_Go p.tables e below F (T17.setTop (mkF m 86 #[.val (.int p0), .val (.int p1), .val (.int p2), .val (.int p3), .val (.int (2 : Int32)), .val (.int la), .val (.int lb), .val (.int lc), .val (.ref b1), .val (.ref b2), .val (.ref b3), .val (.ref b4), .val (.int (1 : Int32))] [(.ref b4)]))
      obtain ⟨cq18, kq18, q18a, q18b, q18c⟩ := isOf hZ rfl TU17.1
      obtain ⟨_, _, ⟨T18, L18, k18, n18⟩, -, X18, ⟨Lc18, hQ18, l18, y18, z18⟩, st18⟩ := X17.virtualBack hx (y := (⟨"com/example/libmerit/libmerit/index/DocnoTable", "byteCount", "()I"⟩ : MethodName)) (z := (⟨"com/example/libmerit/libmerit/index/DocnoTable", "byteCount", "()I"⟩ : MethodName)) hown (mvT hZ (hw _ (List.mem_of_getElem? (i := 17) rfl))) (mvT hZ (hw _ (List.mem_of_getElem? (i := 18) rfl))) (notFace_of_selects (args := #[]) (mvT hZ (hw _ (List.mem_of_getElem? (i := 20) rfl)))) (mvT hZ (hw _ (List.mem_of_getElem? (i := 20) rfl))) (mvT hZ (hw _ (List.mem_of_getElem? (i := 19) rfl))) (by decide) (backOf (W := 0) (own_bcN l Z a0 hw [] b4 pg en kP kE (1 : Int32) _ _ la T17.heap n0 TU17 (by decide) ⟨by decide, by decide⟩ rfl) hZ (hw _ (List.mem_of_getElem? (i := 21) rfl)) (hw _ (List.mem_of_getElem? (i := 3) rfl)) (by decide) (by decide)) q18a q18c (g := (mkF m 86 #[.val (.int p0), .val (.int p1), .val (.int p2), .val (.int p3), .val (.int (2 : Int32)), .val (.int la), .val (.int lb), .val (.int lc), .val (.ref b1), .val (.ref b2), .val (.ref b3), .val (.ref b4), .val (.int (1 : Int32))] [(.ref b4)])) rfl (by rw [hml]; rfl) (Steps.refl _) (argsL := []) (rest := []) (lenOf pd_0 rfl) rfl (by show 2 * 0 + _ ≤ _; exact Nat.le_of_eq rfl) (hb hby at_86) (fun _ _ => ⟨rfl, rfl, (by decide : 6 + 0 ≤ _), (by decide : 100 + 0 ≤ _)⟩)
      dsimp only [Pt.U, Pt.locs, Pt.cells, Pt.slots] at X18 l18 y18 z18 st18 hQ18
      subst l18 y18 z18
      obtain ⟨rfl, N18q, e18⟩ := hQ18
      have N18 := Fr.app N17 N18q
      refine own_st (fun _ k => st18.trans k) ?_
      show own_Go p.tables e below F (T18.setTop (mkF m 89 #[.val (.int p0), .val (.int p1), .val (.int p2), .val (.int p3), .val (.int (2 : Int32)), .val (.int la), .val (.int lb), .val (.int lc), .val (.ref b1), .val (.ref b2), .val (.ref b3), .val (.ref b4), .val (.int (1 : Int32))] [(.int la)]))
      refine own_st (fun _ k => XS.iload X18.here hx rfl (hb hby at_89) rfl k) ?_
      show own_Go p.tables e below F (T18.setTop (mkF m 91 #[.val (.int p0), .val (.int p1), .val (.int p2), .val (.int p3), .val (.int (2 : Int32)), .val (.int la), .val (.int lb), .val (.int lc), .val (.ref b1), .val (.ref b2), .val (.ref b3), .val (.ref b4), .val (.int (1 : Int32))] [(.int la), (.int la)]))
      refine own_st (fun _ k => XS.icmpNo X18.here hx rfl (hb hby at_91) rfl (teq (rfl : la = la)).2 k) ?_
      show own_Go p.tables e below F (T18.setTop (mkF m 94 #[.val (.int p0), .val (.int p1), .val (.int p2), .val (.int p3), .val (.int (2 : Int32)), .val (.int la), .val (.int lb), .val (.int lc), .val (.ref b1), .val (.ref b2), .val (.ref b3), .val (.ref b4), .val (.int (1 : Int32))] []))
      refine own_st (fun _ k => XS.iconst X18.here hx rfl (hb hby at_94) k) ?_
      show own_Go p.tables e below F (T18.setTop (mkF m 95 #[.val (.int p0), .val (.int p1), .val (.int p2), .val (.int p3), .val (.int (2 : Int32)), .val (.int la), .val (.int lb), .val (.int lc), .val (.ref b1), .val (.ref b2), .val (.ref b3), .val (.ref b4), .val (.int (1 : Int32))] [(.int (1 : Int32))]))
      refine own_st (fun _ k => XS.goto X18.here hx rfl (pc0 := 95) (pc' := 99) rfl (hb hby at_95) (by decide) (by decide) k) ?_
      show own_Go p.tables e below F (T18.setTop (mkF m 99 #[.val (.int p0), .val (.int p1), .val (.int p2), .val (.int p3), .val (.int (2 : Int32)), .val (.int la), .val (.int lb), .val (.int lc), .val (.ref b1), .val (.ref b2), .val (.ref b3), .val (.ref b4), .val (.int (1 : Int32))] [(.int (1 : Int32))]))
      refine own_st (fun _ k => XS.istore X18.here hx rfl (hb hby at_99) rfl (l' := #[.val (.int p0), .val (.int p1), .val (.int p2), .val (.int p3), .val (.int (2 : Int32)), .val (.int la), .val (.int lb), .val (.int lc), .val (.ref b1), .val (.ref b2), .val (.ref b3), .val (.ref b4), .val (.int (1 : Int32))]) rfl k) ?_
      show own_Go p.tables e below F (T18.setTop (mkF m 101 #[.val (.int p0), .val (.int p1), .val (.int p2), .val (.int p3), .val (.int (2 : Int32)), .val (.int la), .val (.int lb), .val (.int lc), .val (.ref b1), .val (.ref b2), .val (.ref b3), .val (.ref b4), .val (.int (1 : Int32))] []))
      refine own_st (fun _ k => XS.iload X18.here hx rfl (hb hby at_101) rfl k) ?_
      show own_Go p.tables e below F (T18.setTop (mkF m 103 #[.val (.int p0), .val (.int p1), .val (.int p2), .val (.int p3), .val (.int (2 : Int32)), .val (.int la), .val (.int lb), .val (.int lc), .val (.ref b1), .val (.ref b2), .val (.ref b3), .val (.ref b4), .val (.int (1 : Int32))] [(.int (2 : Int32))]))
      refine own_st (fun _ k => XS.iconst X18.here hx rfl (hb hby at_103) k) ?_
      show own_Go p.tables e below F (T18.setTop (mkF m 104 #[.val (.int p0), .val (.int p1), .val (.int p2), .val (.int p3), .val (.int (2 : Int32)), .val (.int la), .val (.int lb), .val (.int lc), .val (.ref b1), .val (.ref b2), .val (.ref b3), .val (.ref b4), .val (.int (1 : Int32))] [(.int (2 : Int32)), (.int (2 : Int32))]))
      refine own_st (fun _ k => XS.icmpNo X18.here hx rfl (hb hby at_104) rfl (flt (by decide : ¬ ((2 : Int32) < (2 : Int32)))).1 k) ?_
      show own_Go p.tables e below F (T18.setTop (mkF m 107 #[.val (.int p0), .val (.int p1), .val (.int p2), .val (.int p3), .val (.int (2 : Int32)), .val (.int la), .val (.int lb), .val (.int lc), .val (.ref b1), .val (.ref b2), .val (.ref b3), .val (.ref b4), .val (.int (1 : Int32))] []))
      refine own_st (fun _ k => XS.aload X18.here hx rfl (hb hby at_107) rfl rfl k) ?_
      show own_Go p.tables e below F (T18.setTop (mkF m 109 #[.val (.int p0), .val (.int p1), .val (.int p2), .val (.int p3), .val (.int (2 : Int32)), .val (.int la), .val (.int lb), .val (.int lc), .val (.ref b1), .val (.ref b2), .val (.ref b3), .val (.ref b4), .val (.int (1 : Int32))] [(.ref b4)]))
      refine own_st (fun _ k => XS.aload X18.here hx rfl (hb hby at_109) rfl rfl k) ?_
      show own_Go p.tables e below F (T18.setTop (mkF m 111 #[.val (.int p0), .val (.int p1), .val (.int p2), .val (.int p3), .val (.int (2 : Int32)), .val (.int la), .val (.int lb), .val (.int lc), .val (.ref b1), .val (.ref b2), .val (.ref b3), .val (.ref b4), .val (.int (1 : Int32))] [(.ref b2), (.ref b4)]))
      by_cases hp1 : (0 : Int32) < lb
      ·
        obtain ⟨cq19, kq19, q19a, q19b, q19c⟩ := isOf hZ e18 TU17.1
        obtain ⟨_, _, ⟨T19, L19, k19, n19⟩, -, X19, ⟨Lc19, hQ19, l19, y19, z19⟩, st19⟩ := X18.virtualBack hx (y := (⟨"com/example/libmerit/libmerit/index/DocnoTable", "add", "([B)V"⟩ : MethodName)) (z := (⟨"com/example/libmerit/libmerit/index/DocnoTable", "add", "([B)V"⟩ : MethodName)) hown (mvT hZ (hw _ (List.mem_of_getElem? (i := 24) rfl))) (mvT hZ (hw _ (List.mem_of_getElem? (i := 25) rfl))) (notFace_of_selects (args := #[]) (mvT hZ (hw _ (List.mem_of_getElem? (i := 27) rfl)))) (mvT hZ (hw _ (List.mem_of_getElem? (i := 27) rfl))) (mvT hZ (hw _ (List.mem_of_getElem? (i := 26) rfl))) (by decide) (backOf (W := 0) (own_addM l Z a0 hw [] b4 pg en b2 kP kE k2 (1 : Int32) (2 : Int32) la lb (la + lb) [(.int la), (.int (0 : Int32)), (.int (0 : Int32))] _ T17.heap n0 (Nat.le_trans Z0 K0_17.1) (own_bcN l Z a0 hw [] b4 pg en kP kE (1 : Int32) _ _ la T17.heap n0 TU17 (by decide) ⟨by decide, by decide⟩ rfl) (own_B1 hA) hB V2__17 rfl ⟨by decide, by decide⟩ (by decide) (rfl) gn_b4 gn_pg gn_en ne_b4_en ne_b4_pg npe ne_b2_b4 ne_b2_pg ne_b2_en hp1 TU17) hZ (hw _ (List.mem_of_getElem? (i := 28) rfl)) (hw _ (List.mem_of_getElem? (i := 3) rfl)) (by decide) (by decide)) q19a q19c (g := (mkF m 111 #[.val (.int p0), .val (.int p1), .val (.int p2), .val (.int p3), .val (.int (2 : Int32)), .val (.int la), .val (.int lb), .val (.int lc), .val (.ref b1), .val (.ref b2), .val (.ref b3), .val (.ref b4), .val (.int (1 : Int32))] [(.ref b2), (.ref b4)])) rfl (by rw [hml]; rfl) (Steps.refl _) (argsL := [(.ref b2)]) (rest := []) (lenOf pd_3 rfl) rfl (by show 2 * 0 + _ ≤ _; exact Nat.le_of_eq rfl) (hb hby at_111) (fun _ _ => ⟨rfl, e18, (by decide : 6 + 1 ≤ _), (by decide : 100 + 65536 ≤ _)⟩)
        dsimp only [Pt.U, Pt.locs, Pt.cells, Pt.slots] at X19 l19 y19 z19 st19 hQ19
        subst l19 y19 z19
        obtain ⟨qp, rfl, N19q, K19, hqp, TT19, GG19⟩ := hQ19
        have N19 := Fr.app N18 N19q
        refine own_st (fun _ k => st19.trans k) ?_
        have ne_b1_qp : b1 ≠ qp := Nat.ne_of_lt (Nat.lt_of_lt_of_le V1__17.lt hqp)
        have ne_b2_qp : b2 ≠ qp := Nat.ne_of_lt (Nat.lt_of_lt_of_le V2__17.lt hqp)
        have ne_b3_qp : b3 ≠ qp := Nat.ne_of_lt (Nat.lt_of_lt_of_le V3__17.lt hqp)
        have ne_b4_qp : b4 ≠ qp := Nat.ne_of_lt (Nat.lt_of_lt_of_le TU17.1.lt hqp)
        have ne_pg_qp : pg ≠ qp := Nat.ne_of_lt (Nat.lt_of_lt_of_le TU17.2.2.2.2.1.lt hqp)
        have ne_en_qp : en ≠ qp := Nat.ne_of_lt (Nat.lt_of_lt_of_le TU17.2.2.2.2.2.1.lt hqp)
        have sz_qp : h0.size ≤ qp := Nat.le_trans K0_17.1 hqp
        have gn_qp : n0 ≤ qp := Nat.le_trans Z0 sz_qp
        have V1__19 := V1__17.keep K19 (ninS ne_b1_b4 (ninS ne_b1_pg (ninS ne_b1_en nin0)))
        have V2__19 := V2__17.keep K19 (ninS ne_b2_b4 (ninS ne_b2_pg (ninS ne_b2_en nin0)))
        have V3__19 := V3__17.keep K19 (ninS ne_b3_b4 (ninS ne_b3_pg (ninS ne_b3_en nin0)))
        have K0_19 := own_ext_keep K0_17 K19 (allS sz_b4 (allS sz_pg (allS sz_en all0)))
        have TU19 : own_T Z T19.heap b4 pg en kP kE (2 : Int32) [(.int la), (.int (la + lb)), (.int (0 : Int32))] (.ref qp) := TT19
        show own_Go p.tables e below F (T19.setTop (mkF m 114 #[.val (.int p0), .val (.int p1), .val (.int p2), .val (.int p3), .val (.int (2 : Int32)), .val (.int la), .val (.int lb), .val (.int lc), .val (.ref b1), .val (.ref b2), .val (.ref b3), .val (.ref b4), .val (.int (1 : Int32))] []))
        refine own_st (fun _ k => XS.iload X19.here hx rfl (hb hby at_114) rfl k) ?_
        show own_Go p.tables e below F (T19.setTop (mkF m 116 #[.val (.int p0), .val (.int p1), .val (.int p2), .val (.int p3), .val (.int (2 : Int32)), .val (.int la), .val (.int lb), .val (.int lc), .val (.ref b1), .val (.ref b2), .val (.ref b3), .val (.ref b4), .val (.int (1 : Int32))] [(.int (1 : Int32))]))
        refine own_st (fun _ k => XS.ifNo X19.here hx rfl (hb hby at_116) rfl ((if0 _ _).trans (feq (by decide : ¬ ((1 : Int32) = (0 : Int32)))).1) k) ?_
        show own_Go p.tables e below F (T19.setTop (mkF m 119 #[.val (.int p0), .val (.int p1), .val (.int p2), .val (.int p3), .val (.int (2 : Int32)), .val (.int la), .val (.int lb), .val (.int lc), .val (.ref b1), .val (.ref b2), .val (.ref b3), .val (.ref b4), .val (.int (1 : Int32))] []))
        refine own_st (fun _ k => XS.aload X19.here hx rfl (hb hby at_119) rfl rfl k) ?_
        show own_Go p.tables e below F (T19.setTop (mkF m 121 #[.val (.int p0), .val (.int p1), .val (.int p2), .val (.int p3), .val (.int (2 : Int32)), .val (.int la), .val (.int lb), .val (.int lc), .val (.ref b1), .val (.ref b2), .val (.ref b3), .val (.ref b4), .val (.int (1 : Int32))] [(.ref b4)]))
        obtain ⟨cq20, kq20, q20a, q20b, q20c⟩ := isOf hZ rfl TU19.1
        obtain ⟨_, _, ⟨T20, L20, k20, n20⟩, -, X20, ⟨Lc20, hQ20, l20, y20, z20⟩, st20⟩ := X19.virtualBack hx (y := (⟨"com/example/libmerit/libmerit/index/DocnoTable", "byteCount", "()I"⟩ : MethodName)) (z := (⟨"com/example/libmerit/libmerit/index/DocnoTable", "byteCount", "()I"⟩ : MethodName)) hown (mvT hZ (hw _ (List.mem_of_getElem? (i := 17) rfl))) (mvT hZ (hw _ (List.mem_of_getElem? (i := 18) rfl))) (notFace_of_selects (args := #[]) (mvT hZ (hw _ (List.mem_of_getElem? (i := 20) rfl)))) (mvT hZ (hw _ (List.mem_of_getElem? (i := 20) rfl))) (mvT hZ (hw _ (List.mem_of_getElem? (i := 19) rfl))) (by decide) (backOf (W := 0) (own_bcN l Z a0 hw [] b4 pg en kP kE (2 : Int32) _ _ (la + lb) T19.heap n0 TU19 (by decide) ⟨by decide, by decide⟩ rfl) hZ (hw _ (List.mem_of_getElem? (i := 21) rfl)) (hw _ (List.mem_of_getElem? (i := 3) rfl)) (by decide) (by decide)) q20a q20c (g := (mkF m 121 #[.val (.int p0), .val (.int p1), .val (.int p2), .val (.int p3), .val (.int (2 : Int32)), .val (.int la), .val (.int lb), .val (.int lc), .val (.ref b1), .val (.ref b2), .val (.ref b3), .val (.ref b4), .val (.int (1 : Int32))] [(.ref b4)])) rfl (by rw [hml]; rfl) (Steps.refl _) (argsL := []) (rest := []) (lenOf pd_0 rfl) rfl (by show 2 * 0 + _ ≤ _; exact Nat.le_of_eq rfl) (hb hby at_121) (fun _ _ => ⟨rfl, rfl, (by decide : 7 + 0 ≤ _), (by decide : 65636 + 0 ≤ _)⟩)
        dsimp only [Pt.U, Pt.locs, Pt.cells, Pt.slots] at X20 l20 y20 z20 st20 hQ20
        subst l20 y20 z20
        obtain ⟨rfl, N20q, e20⟩ := hQ20
        have N20 := Fr.app N19 N20q
        refine own_st (fun _ k => st20.trans k) ?_
        show own_Go p.tables e below F (T20.setTop (mkF m 124 #[.val (.int p0), .val (.int p1), .val (.int p2), .val (.int p3), .val (.int (2 : Int32)), .val (.int la), .val (.int lb), .val (.int lc), .val (.ref b1), .val (.ref b2), .val (.ref b3), .val (.ref b4), .val (.int (1 : Int32))] [(.int (la + lb))]))
        refine own_st (fun _ k => XS.iload X20.here hx rfl (hb hby at_124) rfl k) ?_
        show own_Go p.tables e below F (T20.setTop (mkF m 126 #[.val (.int p0), .val (.int p1), .val (.int p2), .val (.int p3), .val (.int (2 : Int32)), .val (.int la), .val (.int lb), .val (.int lc), .val (.ref b1), .val (.ref b2), .val (.ref b3), .val (.ref b4), .val (.int (1 : Int32))] [(.int la), (.int (la + lb))]))
        refine own_st (fun _ k => XS.iload X20.here hx rfl (hb hby at_126) rfl k) ?_
        show own_Go p.tables e below F (T20.setTop (mkF m 128 #[.val (.int p0), .val (.int p1), .val (.int p2), .val (.int p3), .val (.int (2 : Int32)), .val (.int la), .val (.int lb), .val (.int lc), .val (.ref b1), .val (.ref b2), .val (.ref b3), .val (.ref b4), .val (.int (1 : Int32))] [(.int lb), (.int la), (.int (la + lb))]))
        refine own_st (fun _ k => XS.iadd X20.here hx rfl (hb hby at_128) rfl k) ?_
        show own_Go p.tables e below F (T20.setTop (mkF m 129 #[.val (.int p0), .val (.int p1), .val (.int p2), .val (.int p3), .val (.int (2 : Int32)), .val (.int la), .val (.int lb), .val (.int lc), .val (.ref b1), .val (.ref b2), .val (.ref b3), .val (.ref b4), .val (.int (1 : Int32))] [(.int (la + lb)), (.int (la + lb))]))
        refine own_st (fun _ k => XS.icmpNo X20.here hx rfl (hb hby at_129) rfl (teq (rfl : (la + lb) = (la + lb))).2 k) ?_
        show own_Go p.tables e below F (T20.setTop (mkF m 132 #[.val (.int p0), .val (.int p1), .val (.int p2), .val (.int p3), .val (.int (2 : Int32)), .val (.int la), .val (.int lb), .val (.int lc), .val (.ref b1), .val (.ref b2), .val (.ref b3), .val (.ref b4), .val (.int (1 : Int32))] []))
        refine own_st (fun _ k => XS.iconst X20.here hx rfl (hb hby at_132) k) ?_
        show own_Go p.tables e below F (T20.setTop (mkF m 133 #[.val (.int p0), .val (.int p1), .val (.int p2), .val (.int p3), .val (.int (2 : Int32)), .val (.int la), .val (.int lb), .val (.int lc), .val (.ref b1), .val (.ref b2), .val (.ref b3), .val (.ref b4), .val (.int (1 : Int32))] [(.int (1 : Int32))]))
        refine own_st (fun _ k => XS.goto X20.here hx rfl (pc0 := 133) (pc' := 137) rfl (hb hby at_133) (by decide) (by decide) k) ?_
        show own_Go p.tables e below F (T20.setTop (mkF m 137 #[.val (.int p0), .val (.int p1), .val (.int p2), .val (.int p3), .val (.int (2 : Int32)), .val (.int la), .val (.int lb), .val (.int lc), .val (.ref b1), .val (.ref b2), .val (.ref b3), .val (.ref b4), .val (.int (1 : Int32))] [(.int (1 : Int32))]))
        refine own_st (fun _ k => XS.istore X20.here hx rfl (hb hby at_137) rfl (l' := #[.val (.int p0), .val (.int p1), .val (.int p2), .val (.int p3), .val (.int (2 : Int32)), .val (.int la), .val (.int lb), .val (.int lc), .val (.ref b1), .val (.ref b2), .val (.ref b3), .val (.ref b4), .val (.int (1 : Int32))]) rfl k) ?_
        show own_Go p.tables e below F (T20.setTop (mkF m 139 #[.val (.int p0), .val (.int p1), .val (.int p2), .val (.int p3), .val (.int (2 : Int32)), .val (.int la), .val (.int lb), .val (.int lc), .val (.ref b1), .val (.ref b2), .val (.ref b3), .val (.ref b4), .val (.int (1 : Int32))] []))
        refine own_st (fun _ k => XS.iload X20.here hx rfl (hb hby at_139) rfl k) ?_
        show own_Go p.tables e below F (T20.setTop (mkF m 141 #[.val (.int p0), .val (.int p1), .val (.int p2), .val (.int p3), .val (.int (2 : Int32)), .val (.int la), .val (.int lb), .val (.int lc), .val (.ref b1), .val (.ref b2), .val (.ref b3), .val (.ref b4), .val (.int (1 : Int32))] [(.int (2 : Int32))]))
        refine own_st (fun _ k => XS.iconst X20.here hx rfl (hb hby at_141) k) ?_
        show own_Go p.tables e below F (T20.setTop (mkF m 142 #[.val (.int p0), .val (.int p1), .val (.int p2), .val (.int p3), .val (.int (2 : Int32)), .val (.int la), .val (.int lb), .val (.int lc), .val (.ref b1), .val (.ref b2), .val (.ref b3), .val (.ref b4), .val (.int (1 : Int32))] [(.int (3 : Int32)), (.int (2 : Int32))]))
        refine own_st (fun _ k => XS.icmpYes X20.here hx rfl (pc0 := 142) (pc' := 180) rfl (hb hby at_142) rfl (tlt (by decide : (2 : Int32) < (3 : Int32))).1 (by decide) (by decide) k) ?_
        show own_Go p.tables e below F (T20.setTop (mkF m 180 #[.val (.int p0), .val (.int p1), .val (.int p2), .val (.int p3), .val (.int (2 : Int32)), .val (.int la), .val (.int lb), .val (.int lc), .val (.ref b1), .val (.ref b2), .val (.ref b3), .val (.ref b4), .val (.int (1 : Int32))] []))
        refine own_st (fun _ k => XS.iload X20.here hx rfl (hb hby at_180) rfl k) ?_
        show own_Go p.tables e below F (T20.setTop (mkF m 182 #[.val (.int p0), .val (.int p1), .val (.int p2), .val (.int p3), .val (.int (2 : Int32)), .val (.int la), .val (.int lb), .val (.int lc), .val (.ref b1), .val (.ref b2), .val (.ref b3), .val (.ref b4), .val (.int (1 : Int32))] [(.int (1 : Int32))]))
        obtain ⟨fs, hrL, hrun, hended, hW, hsame⟩ := X20.leave (v := some (.int (1 : Int32))) (fun h => by rw [Bd.returns] at h; cases h)
        refine own_end hF (o := .returned (some (.int (1 : Int32)))) (retN X20 hx (t := .boolean) Bd.returns (by simp) (hb hby at_182) hrL) ?_
        refine ⟨hrun, hended, _, _, rfl, ?_, ⟨_, rfl⟩, hW, hsame.mono (by decide) (by decide)⟩
        exact ⟨rfl, N20⟩
      ·
        obtain ⟨cq21, kq21, q21a, q21b, q21c⟩ := isOf hZ e18 TU17.1
        obtain ⟨_, _, ⟨T21, L21, k21, n21⟩, -, X21, ⟨Lc21, hQ21, l21, y21, z21⟩, st21⟩ := X18.virtualBack hx (y := (⟨"com/example/libmerit/libmerit/index/DocnoTable", "add", "([B)V"⟩ : MethodName)) (z := (⟨"com/example/libmerit/libmerit/index/DocnoTable", "add", "([B)V"⟩ : MethodName)) hown (mvT hZ (hw _ (List.mem_of_getElem? (i := 24) rfl))) (mvT hZ (hw _ (List.mem_of_getElem? (i := 25) rfl))) (notFace_of_selects (args := #[]) (mvT hZ (hw _ (List.mem_of_getElem? (i := 27) rfl)))) (mvT hZ (hw _ (List.mem_of_getElem? (i := 27) rfl))) (mvT hZ (hw _ (List.mem_of_getElem? (i := 26) rfl))) (by decide) (backOf (W := 0) (own_addZ l Z a0 hw [] b4 pg en b2 kP kE k2 (1 : Int32) (2 : Int32) la lb (la + lb) [(.int la), (.int (0 : Int32)), (.int (0 : Int32))] _ .null T17.heap n0 (Nat.le_trans Z0 K0_17.1) (own_bcN l Z a0 hw [] b4 pg en kP kE (1 : Int32) _ _ la T17.heap n0 TU17 (by decide) ⟨by decide, by decide⟩ rfl) (own_B1 hA) hB V2__17 rfl ⟨by decide, by decide⟩ (by decide) (rfl) gn_b4 gn_pg gn_en ne_b4_en ne_b4_pg npe ne_b2_b4 ne_b2_pg ne_b2_en hp1 TU17) hZ (hw _ (List.mem_of_getElem? (i := 28) rfl)) (hw _ (List.mem_of_getElem? (i := 3) rfl)) (by decide) (by decide)) q21a q21c (g := (mkF m 111 #[.val (.int p0), .val (.int p1), .val (.int p2), .val (.int p3), .val (.int (2 : Int32)), .val (.int la), .val (.int lb), .val (.int lc), .val (.ref b1), .val (.ref b2), .val (.ref b3), .val (.ref b4), .val (.int (1 : Int32))] [(.ref b2), (.ref b4)])) rfl (by rw [hml]; rfl) (Steps.refl _) (argsL := [(.ref b2)]) (rest := []) (lenOf pd_3 rfl) rfl (by show 2 * 0 + _ ≤ _; exact Nat.le_of_eq rfl) (hb hby at_111) (fun _ _ => ⟨rfl, e18, (by decide : 6 + 0 ≤ _), (by decide : 100 + 0 ≤ _)⟩)
        dsimp only [Pt.U, Pt.locs, Pt.cells, Pt.slots] at X21 l21 y21 z21 st21 hQ21
        subst l21 y21 z21
        obtain ⟨rfl, N21q, K21, TT21⟩ := hQ21
        have N21 := Fr.app N18 N21q
        refine own_st (fun _ k => st21.trans k) ?_
        have V1__21 := V1__17.keep K21 (ninS ne_b1_b4 (ninS ne_b1_en nin0))
        have V2__21 := V2__17.keep K21 (ninS ne_b2_b4 (ninS ne_b2_en nin0))
        have V3__21 := V3__17.keep K21 (ninS ne_b3_b4 (ninS ne_b3_en nin0))
        have K0_21 := own_ext_keep K0_17 K21 (allS sz_b4 (allS sz_en all0))
        have TU21 : own_T Z T21.heap b4 pg en kP kE (2 : Int32) [(.int la), (.int (la + lb)), (.int (0 : Int32))] .null := TT21
        show own_Go p.tables e below F (T21.setTop (mkF m 114 #[.val (.int p0), .val (.int p1), .val (.int p2), .val (.int p3), .val (.int (2 : Int32)), .val (.int la), .val (.int lb), .val (.int lc), .val (.ref b1), .val (.ref b2), .val (.ref b3), .val (.ref b4), .val (.int (1 : Int32))] []))
        refine own_st (fun _ k => XS.iload X21.here hx rfl (hb hby at_114) rfl k) ?_
        show own_Go p.tables e below F (T21.setTop (mkF m 116 #[.val (.int p0), .val (.int p1), .val (.int p2), .val (.int p3), .val (.int (2 : Int32)), .val (.int la), .val (.int lb), .val (.int lc), .val (.ref b1), .val (.ref b2), .val (.ref b3), .val (.ref b4), .val (.int (1 : Int32))] [(.int (1 : Int32))]))
        refine own_st (fun _ k => XS.ifNo X21.here hx rfl (hb hby at_116) rfl ((if0 _ _).trans (feq (by decide : ¬ ((1 : Int32) = (0 : Int32)))).1) k) ?_
        show own_Go p.tables e below F (T21.setTop (mkF m 119 #[.val (.int p0), .val (.int p1), .val (.int p2), .val (.int p3), .val (.int (2 : Int32)), .val (.int la), .val (.int lb), .val (.int lc), .val (.ref b1), .val (.ref b2), .val (.ref b3), .val (.ref b4), .val (.int (1 : Int32))] []))
        refine own_st (fun _ k => XS.aload X21.here hx rfl (hb hby at_119) rfl rfl k) ?_
        show own_Go p.tables e below F (T21.setTop (mkF m 121 #[.val (.int p0), .val (.int p1), .val (.int p2), .val (.int p3), .val (.int (2 : Int32)), .val (.int la), .val (.int lb), .val (.int lc), .val (.ref b1), .val (.ref b2), .val (.ref b3), .val (.ref b4), .val (.int (1 : Int32))] [(.ref b4)]))
        obtain ⟨cq22, kq22, q22a, q22b, q22c⟩ := isOf hZ rfl TU21.1
        obtain ⟨_, _, ⟨T22, L22, k22, n22⟩, -, X22, ⟨Lc22, hQ22, l22, y22, z22⟩, st22⟩ := X21.virtualBack hx (y := (⟨"com/example/libmerit/libmerit/index/DocnoTable", "byteCount", "()I"⟩ : MethodName)) (z := (⟨"com/example/libmerit/libmerit/index/DocnoTable", "byteCount", "()I"⟩ : MethodName)) hown (mvT hZ (hw _ (List.mem_of_getElem? (i := 17) rfl))) (mvT hZ (hw _ (List.mem_of_getElem? (i := 18) rfl))) (notFace_of_selects (args := #[]) (mvT hZ (hw _ (List.mem_of_getElem? (i := 20) rfl)))) (mvT hZ (hw _ (List.mem_of_getElem? (i := 20) rfl))) (mvT hZ (hw _ (List.mem_of_getElem? (i := 19) rfl))) (by decide) (backOf (W := 0) (own_bcN l Z a0 hw [] b4 pg en kP kE (2 : Int32) _ _ (la + lb) T21.heap n0 TU21 (by decide) ⟨by decide, by decide⟩ rfl) hZ (hw _ (List.mem_of_getElem? (i := 21) rfl)) (hw _ (List.mem_of_getElem? (i := 3) rfl)) (by decide) (by decide)) q22a q22c (g := (mkF m 121 #[.val (.int p0), .val (.int p1), .val (.int p2), .val (.int p3), .val (.int (2 : Int32)), .val (.int la), .val (.int lb), .val (.int lc), .val (.ref b1), .val (.ref b2), .val (.ref b3), .val (.ref b4), .val (.int (1 : Int32))] [(.ref b4)])) rfl (by rw [hml]; rfl) (Steps.refl _) (argsL := []) (rest := []) (lenOf pd_0 rfl) rfl (by show 2 * 0 + _ ≤ _; exact Nat.le_of_eq rfl) (hb hby at_121) (fun _ _ => ⟨rfl, rfl, (by decide : 6 + 0 ≤ _), (by decide : 100 + 0 ≤ _)⟩)
        dsimp only [Pt.U, Pt.locs, Pt.cells, Pt.slots] at X22 l22 y22 z22 st22 hQ22
        subst l22 y22 z22
        obtain ⟨rfl, N22q, e22⟩ := hQ22
        have N22 := Fr.app N21 N22q
        refine own_st (fun _ k => st22.trans k) ?_
        show own_Go p.tables e below F (T22.setTop (mkF m 124 #[.val (.int p0), .val (.int p1), .val (.int p2), .val (.int p3), .val (.int (2 : Int32)), .val (.int la), .val (.int lb), .val (.int lc), .val (.ref b1), .val (.ref b2), .val (.ref b3), .val (.ref b4), .val (.int (1 : Int32))] [(.int (la + lb))]))
        refine own_st (fun _ k => XS.iload X22.here hx rfl (hb hby at_124) rfl k) ?_
        show own_Go p.tables e below F (T22.setTop (mkF m 126 #[.val (.int p0), .val (.int p1), .val (.int p2), .val (.int p3), .val (.int (2 : Int32)), .val (.int la), .val (.int lb), .val (.int lc), .val (.ref b1), .val (.ref b2), .val (.ref b3), .val (.ref b4), .val (.int (1 : Int32))] [(.int la), (.int (la + lb))]))
        refine own_st (fun _ k => XS.iload X22.here hx rfl (hb hby at_126) rfl k) ?_
        show own_Go p.tables e below F (T22.setTop (mkF m 128 #[.val (.int p0), .val (.int p1), .val (.int p2), .val (.int p3), .val (.int (2 : Int32)), .val (.int la), .val (.int lb), .val (.int lc), .val (.ref b1), .val (.ref b2), .val (.ref b3), .val (.ref b4), .val (.int (1 : Int32))] [(.int lb), (.int la), (.int (la + lb))]))
        refine own_st (fun _ k => XS.iadd X22.here hx rfl (hb hby at_128) rfl k) ?_
        show own_Go p.tables e below F (T22.setTop (mkF m 129 #[.val (.int p0), .val (.int p1), .val (.int p2), .val (.int p3), .val (.int (2 : Int32)), .val (.int la), .val (.int lb), .val (.int lc), .val (.ref b1), .val (.ref b2), .val (.ref b3), .val (.ref b4), .val (.int (1 : Int32))] [(.int (la + lb)), (.int (la + lb))]))
        refine own_st (fun _ k => XS.icmpNo X22.here hx rfl (hb hby at_129) rfl (teq (rfl : (la + lb) = (la + lb))).2 k) ?_
        show own_Go p.tables e below F (T22.setTop (mkF m 132 #[.val (.int p0), .val (.int p1), .val (.int p2), .val (.int p3), .val (.int (2 : Int32)), .val (.int la), .val (.int lb), .val (.int lc), .val (.ref b1), .val (.ref b2), .val (.ref b3), .val (.ref b4), .val (.int (1 : Int32))] []))
        refine own_st (fun _ k => XS.iconst X22.here hx rfl (hb hby at_132) k) ?_
        show own_Go p.tables e below F (T22.setTop (mkF m 133 #[.val (.int p0), .val (.int p1), .val (.int p2), .val (.int p3), .val (.int (2 : Int32)), .val (.int la), .val (.int lb), .val (.int lc), .val (.ref b1), .val (.ref b2), .val (.ref b3), .val (.ref b4), .val (.int (1 : Int32))] [(.int (1 : Int32))]))
        refine own_st (fun _ k => XS.goto X22.here hx rfl (pc0 := 133) (pc' := 137) rfl (hb hby at_133) (by decide) (by decide) k) ?_
        show own_Go p.tables e below F (T22.setTop (mkF m 137 #[.val (.int p0), .val (.int p1), .val (.int p2), .val (.int p3), .val (.int (2 : Int32)), .val (.int la), .val (.int lb), .val (.int lc), .val (.ref b1), .val (.ref b2), .val (.ref b3), .val (.ref b4), .val (.int (1 : Int32))] [(.int (1 : Int32))]))
        refine own_st (fun _ k => XS.istore X22.here hx rfl (hb hby at_137) rfl (l' := #[.val (.int p0), .val (.int p1), .val (.int p2), .val (.int p3), .val (.int (2 : Int32)), .val (.int la), .val (.int lb), .val (.int lc), .val (.ref b1), .val (.ref b2), .val (.ref b3), .val (.ref b4), .val (.int (1 : Int32))]) rfl k) ?_
        show own_Go p.tables e below F (T22.setTop (mkF m 139 #[.val (.int p0), .val (.int p1), .val (.int p2), .val (.int p3), .val (.int (2 : Int32)), .val (.int la), .val (.int lb), .val (.int lc), .val (.ref b1), .val (.ref b2), .val (.ref b3), .val (.ref b4), .val (.int (1 : Int32))] []))
        refine own_st (fun _ k => XS.iload X22.here hx rfl (hb hby at_139) rfl k) ?_
        show own_Go p.tables e below F (T22.setTop (mkF m 141 #[.val (.int p0), .val (.int p1), .val (.int p2), .val (.int p3), .val (.int (2 : Int32)), .val (.int la), .val (.int lb), .val (.int lc), .val (.ref b1), .val (.ref b2), .val (.ref b3), .val (.ref b4), .val (.int (1 : Int32))] [(.int (2 : Int32))]))
        refine own_st (fun _ k => XS.iconst X22.here hx rfl (hb hby at_141) k) ?_
        show own_Go p.tables e below F (T22.setTop (mkF m 142 #[.val (.int p0), .val (.int p1), .val (.int p2), .val (.int p3), .val (.int (2 : Int32)), .val (.int la), .val (.int lb), .val (.int lc), .val (.ref b1), .val (.ref b2), .val (.ref b3), .val (.ref b4), .val (.int (1 : Int32))] [(.int (3 : Int32)), (.int (2 : Int32))]))
        refine own_st (fun _ k => XS.icmpYes X22.here hx rfl (pc0 := 142) (pc' := 180) rfl (hb hby at_142) rfl (tlt (by decide : (2 : Int32) < (3 : Int32))).1 (by decide) (by decide) k) ?_
        show own_Go p.tables e below F (T22.setTop (mkF m 180 #[.val (.int p0), .val (.int p1), .val (.int p2), .val (.int p3), .val (.int (2 : Int32)), .val (.int la), .val (.int lb), .val (.int lc), .val (.ref b1), .val (.ref b2), .val (.ref b3), .val (.ref b4), .val (.int (1 : Int32))] []))
        refine own_st (fun _ k => XS.iload X22.here hx rfl (hb hby at_180) rfl k) ?_
        show own_Go p.tables e below F (T22.setTop (mkF m 182 #[.val (.int p0), .val (.int p1), .val (.int p2), .val (.int p3), .val (.int (2 : Int32)), .val (.int la), .val (.int lb), .val (.int lc), .val (.ref b1), .val (.ref b2), .val (.ref b3), .val (.ref b4), .val (.int (1 : Int32))] [(.int (1 : Int32))]))
        obtain ⟨fs, hrL, hrun, hended, hW, hsame⟩ := X22.leave (v := some (.int (1 : Int32))) (fun h => by rw [Bd.returns] at h; cases h)
        refine own_end hF (o := .returned (some (.int (1 : Int32)))) (retN X22 hx (t := .boolean) Bd.returns (by simp) (hb hby at_182) hrL) ?_
        refine ⟨hrun, hended, _, _, rfl, ?_, ⟨_, rfl⟩, hW, hsame.mono (by decide) (by decide)⟩
        exact ⟨rfl, N22⟩
  ·
    rw [hk]
    show own_Go p.tables e below F (T6.setTop (mkF m 66 #[.val (.int p0), .val (.int p1), .val (.int p2), .val (.int p3), .val (.int (3 : Int32)), .val (.int la), .val (.int lb), .val (.int lc), .val (.ref b1), .val (.ref b2), .val (.ref b3), .val (.ref b4), .val (.int (1 : Int32))] []))
    refine own_st (fun _ k => XS.iload X6.here hx rfl (hb hby at_66) rfl k) ?_
    show own_Go p.tables e below F (T6.setTop (mkF m 68 #[.val (.int p0), .val (.int p1), .val (.int p2), .val (.int p3), .val (.int (3 : Int32)), .val (.int la), .val (.int lb), .val (.int lc), .val (.ref b1), .val (.ref b2), .val (.ref b3), .val (.ref b4), .val (.int (1 : Int32))] [(.int (3 : Int32))]))
    refine own_st (fun _ k => XS.iconst X6.here hx rfl (hb hby at_68) k) ?_
    show own_Go p.tables e below F (T6.setTop (mkF m 69 #[.val (.int p0), .val (.int p1), .val (.int p2), .val (.int p3), .val (.int (3 : Int32)), .val (.int la), .val (.int lb), .val (.int lc), .val (.ref b1), .val (.ref b2), .val (.ref b3), .val (.ref b4), .val (.int (1 : Int32))] [(.int (1 : Int32)), (.int (3 : Int32))]))
    refine own_st (fun _ k => XS.icmpNo X6.here hx rfl (hb hby at_69) rfl (flt (by decide : ¬ ((3 : Int32) < (1 : Int32)))).1 k) ?_
    show own_Go p.tables e below F (T6.setTop (mkF m 72 #[.val (.int p0), .val (.int p1), .val (.int p2), .val (.int p3), .val (.int (3 : Int32)), .val (.int la), .val (.int lb), .val (.int lc), .val (.ref b1), .val (.ref b2), .val (.ref b3), .val (.ref b4), .val (.int (1 : Int32))] []))
    refine own_st (fun _ k => XS.aload X6.here hx rfl (hb hby at_72) rfl rfl k) ?_
    show own_Go p.tables e below F (T6.setTop (mkF m 74 #[.val (.int p0), .val (.int p1), .val (.int p2), .val (.int p3), .val (.int (3 : Int32)), .val (.int la), .val (.int lb), .val (.int lc), .val (.ref b1), .val (.ref b2), .val (.ref b3), .val (.ref b4), .val (.int (1 : Int32))] [(.ref b4)]))
    refine own_st (fun _ k => XS.aload X6.here hx rfl (hb hby at_74) rfl rfl k) ?_
    show own_Go p.tables e below F (T6.setTop (mkF m 76 #[.val (.int p0), .val (.int p1), .val (.int p2), .val (.int p3), .val (.int (3 : Int32)), .val (.int la), .val (.int lb), .val (.int lc), .val (.ref b1), .val (.ref b2), .val (.ref b3), .val (.ref b4), .val (.int (1 : Int32))] [(.ref b1), (.ref b4)]))
    by_cases hp0 : (0 : Int32) < la
    ·
      obtain ⟨cq23, kq23, q23a, q23b, q23c⟩ := isOf hZ e6 TT5.1
      obtain ⟨_, _, ⟨T23, L23, k23, n23⟩, -, X23, ⟨Lc23, hQ23, l23, y23, z23⟩, st23⟩ := X6.virtualBack hx (y := (⟨"com/example/libmerit/libmerit/index/DocnoTable", "add", "([B)V"⟩ : MethodName)) (z := (⟨"com/example/libmerit/libmerit/index/DocnoTable", "add", "([B)V"⟩ : MethodName)) hown (mvT hZ (hw _ (List.mem_of_getElem? (i := 24) rfl))) (mvT hZ (hw _ (List.mem_of_getElem? (i := 25) rfl))) (notFace_of_selects (args := #[]) (mvT hZ (hw _ (List.mem_of_getElem? (i := 27) rfl)))) (mvT hZ (hw _ (List.mem_of_getElem? (i := 27) rfl))) (mvT hZ (hw _ (List.mem_of_getElem? (i := 26) rfl))) (by decide) (backOf (W := 0) (own_addM l Z a0 hw [] b4 pg en b1 kP kE k1 (0 : Int32) (1 : Int32) (0 : Int32) la la [(.int (0 : Int32)), (.int (0 : Int32)), (.int (0 : Int32))] _ T5.heap n0 (Nat.le_trans Z0 K0_5.1) (own_bc0 l Z a0 hw [] b4 pg en kP kE _ _ T5.heap n0 TT5) own_B0 hA V1__5 rfl ⟨by decide, by decide⟩ (by decide) ((Int32.zero_add la).symm) gn_b4 gn_pg gn_en ne_b4_en ne_b4_pg npe ne_b1_b4 ne_b1_pg ne_b1_en hp0 TT5) hZ (hw _ (List.mem_of_getElem? (i := 28) rfl)) (hw _ (List.mem_of_getElem? (i := 3) rfl)) (by decide) (by decide)) q23a q23c (g := (mkF m 76 #[.val (.int p0), .val (.int p1), .val (.int p2), .val (.int p3), .val (.int (3 : Int32)), .val (.int la), .val (.int lb), .val (.int lc), .val (.ref b1), .val (.ref b2), .val (.ref b3), .val (.ref b4), .val (.int (1 : Int32))] [(.ref b1), (.ref b4)])) rfl (by rw [hml]; rfl) (Steps.refl _) (argsL := [(.ref b1)]) (rest := []) (lenOf pd_3 rfl) rfl (by show 2 * 0 + _ ≤ _; exact Nat.le_of_eq rfl) (hb hby at_76) (fun _ _ => ⟨rfl, e6, (by decide : 6 + 1 ≤ _), (by decide : 100 + 65536 ≤ _)⟩)
      dsimp only [Pt.U, Pt.locs, Pt.cells, Pt.slots] at X23 l23 y23 z23 st23 hQ23
      subst l23 y23 z23
      obtain ⟨qp, rfl, N23q, K23, hqp, TT23, GG23⟩ := hQ23
      have N23 := Fr.app N6 N23q
      refine own_st (fun _ k => st23.trans k) ?_
      have ne_b1_qp : b1 ≠ qp := Nat.ne_of_lt (Nat.lt_of_lt_of_le V1__5.lt hqp)
      have ne_b2_qp : b2 ≠ qp := Nat.ne_of_lt (Nat.lt_of_lt_of_le V2__5.lt hqp)
      have ne_b3_qp : b3 ≠ qp := Nat.ne_of_lt (Nat.lt_of_lt_of_le V3__5.lt hqp)
      have ne_b4_qp : b4 ≠ qp := Nat.ne_of_lt (Nat.lt_of_lt_of_le TT5.1.lt hqp)
      have ne_pg_qp : pg ≠ qp := Nat.ne_of_lt (Nat.lt_of_lt_of_le TT5.2.2.2.2.1.lt hqp)
      have ne_en_qp : en ≠ qp := Nat.ne_of_lt (Nat.lt_of_lt_of_le TT5.2.2.2.2.2.1.lt hqp)
      have sz_qp : h0.size ≤ qp := Nat.le_trans K0_5.1 hqp
      have gn_qp : n0 ≤ qp := Nat.le_trans Z0 sz_qp
      have V1__23 := V1__5.keep K23 (ninS ne_b1_b4 (ninS ne_b1_pg (ninS ne_b1_en nin0)))
      have V2__23 := V2__5.keep K23 (ninS ne_b2_b4 (ninS ne_b2_pg (ninS ne_b2_en nin0)))
      have V3__23 := V3__5.keep K23 (ninS ne_b3_b4 (ninS ne_b3_pg (ninS ne_b3_en nin0)))
      have K0_23 := own_ext_keep K0_5 K23 (allS sz_b4 (allS sz_pg (allS sz_en all0)))
      have TU23 : own_T Z T23.heap b4 pg en kP kE (1 : Int32) [(.int la), (.int (0 : Int32)), (.int (0 : Int32))] (.ref qp) := TT23
      show own_Go p.tables e below F (T23.setTop (mkF m 79 #[.val (.int p0), .val (.int p1), .val (.int p2), .val (.int p3), .val (.int (3 : Int32)), .val (.int la), .val (.int lb), .val (.int lc), .val (.ref b1), .val (.ref b2), .val (.ref b3), .val (.ref b4), .val (.int (1 : Int32))] []))
      refine own_st (fun _ k => XS.iload X23.here hx rfl (hb hby at_79) rfl k) ?_
      show own_Go p.tables e below F (T23.setTop (mkF m 81 #[.val (.int p0), .val (.int p1), .val (.int p2), .val (.int p3), .val (.int (3 : Int32)), .val (.int la), .val (.int lb), .val (.int lc), .val (.ref b1), .val (.ref b2), .val (.ref b3), .val (.ref b4), .val (.int (1 : Int32))] [(.int (1 : Int32))]))
      refine own_st (fun _ k => XS.ifNo X23.here hx rfl (hb hby at_81) rfl ((if0 _ _).trans (feq (by decide : ¬ ((1 : Int32) = (0 : Int32)))).1) k) ?_
      show own_Go p.tables e below F (T23.setTop (mkF m 84 #[.val (.int p0), .val (.int p1), .val (.int p2), .val (.int p3), .val (.int (3 : Int32)), .val (.int la), .val (.int lb), .val (.int lc), .val (.ref b1), .val (.ref b2), .val (.ref b3), .val (.ref b4), .val (.int (1 : Int32))] []))
      refine own_st (fun _ k => XS.aload X23.here hx rfl (hb hby at_84) rfl rfl k) ?_
      show own_Go p.tables e below F (T23.setTop (mkF m 86 #[.val (.int p0), .val (.int p1), .val (.int p2), .val (.int p3), .val (.int (3 : Int32)), .val (.int la), .val (.int lb), .val (.int lc), .val (.ref b1), .val (.ref b2), .val (.ref b3), .val (.ref b4), .val (.int (1 : Int32))] [(.ref b4)]))
      obtain ⟨cq24, kq24, q24a, q24b, q24c⟩ := isOf hZ rfl TU23.1
      obtain ⟨_, _, ⟨T24, L24, k24, n24⟩, -, X24, ⟨Lc24, hQ24, l24, y24, z24⟩, st24⟩ := X23.virtualBack hx (y := (⟨"com/example/libmerit/libmerit/index/DocnoTable", "byteCount", "()I"⟩ : MethodName)) (z := (⟨"com/example/libmerit/libmerit/index/DocnoTable", "byteCount", "()I"⟩ : MethodName)) hown (mvT hZ (hw _ (List.mem_of_getElem? (i := 17) rfl))) (mvT hZ (hw _ (List.mem_of_getElem? (i := 18) rfl))) (notFace_of_selects (args := #[]) (mvT hZ (hw _ (List.mem_of_getElem? (i := 20) rfl)))) (mvT hZ (hw _ (List.mem_of_getElem? (i := 20) rfl))) (mvT hZ (hw _ (List.mem_of_getElem? (i := 19) rfl))) (by decide) (backOf (W := 0) (own_bcN l Z a0 hw [] b4 pg en kP kE (1 : Int32) _ _ la T23.heap n0 TU23 (by decide) ⟨by decide, by decide⟩ rfl) hZ (hw _ (List.mem_of_getElem? (i := 21) rfl)) (hw _ (List.mem_of_getElem? (i := 3) rfl)) (by decide) (by decide)) q24a q24c (g := (mkF m 86 #[.val (.int p0), .val (.int p1), .val (.int p2), .val (.int p3), .val (.int (3 : Int32)), .val (.int la), .val (.int lb), .val (.int lc), .val (.ref b1), .val (.ref b2), .val (.ref b3), .val (.ref b4), .val (.int (1 : Int32))] [(.ref b4)])) rfl (by rw [hml]; rfl) (Steps.refl _) (argsL := []) (rest := []) (lenOf pd_0 rfl) rfl (by show 2 * 0 + _ ≤ _; exact Nat.le_of_eq rfl) (hb hby at_86) (fun _ _ => ⟨rfl, rfl, (by decide : 7 + 0 ≤ _), (by decide : 65636 + 0 ≤ _)⟩)
      dsimp only [Pt.U, Pt.locs, Pt.cells, Pt.slots] at X24 l24 y24 z24 st24 hQ24
      subst l24 y24 z24
      obtain ⟨rfl, N24q, e24⟩ := hQ24
      have N24 := Fr.app N23 N24q
      refine own_st (fun _ k => st24.trans k) ?_
      show own_Go p.tables e below F (T24.setTop (mkF m 89 #[.val (.int p0), .val (.int p1), .val (.int p2), .val (.int p3), .val (.int (3 : Int32)), .val (.int la), .val (.int lb), .val (.int lc), .val (.ref b1), .val (.ref b2), .val (.ref b3), .val (.ref b4), .val (.int (1 : Int32))] [(.int la)]))
      refine own_st (fun _ k => XS.iload X24.here hx rfl (hb hby at_89) rfl k) ?_
      show own_Go p.tables e below F (T24.setTop (mkF m 91 #[.val (.int p0), .val (.int p1), .val (.int p2), .val (.int p3), .val (.int (3 : Int32)), .val (.int la), .val (.int lb), .val (.int lc), .val (.ref b1), .val (.ref b2), .val (.ref b3), .val (.ref b4), .val (.int (1 : Int32))] [(.int la), (.int la)]))
      refine own_st (fun _ k => XS.icmpNo X24.here hx rfl (hb hby at_91) rfl (teq (rfl : la = la)).2 k) ?_
      show own_Go p.tables e below F (T24.setTop (mkF m 94 #[.val (.int p0), .val (.int p1), .val (.int p2), .val (.int p3), .val (.int (3 : Int32)), .val (.int la), .val (.int lb), .val (.int lc), .val (.ref b1), .val (.ref b2), .val (.ref b3), .val (.ref b4), .val (.int (1 : Int32))] []))
      refine own_st (fun _ k => XS.iconst X24.here hx rfl (hb hby at_94) k) ?_
      show own_Go p.tables e below F (T24.setTop (mkF m 95 #[.val (.int p0), .val (.int p1), .val (.int p2), .val (.int p3), .val (.int (3 : Int32)), .val (.int la), .val (.int lb), .val (.int lc), .val (.ref b1), .val (.ref b2), .val (.ref b3), .val (.ref b4), .val (.int (1 : Int32))] [(.int (1 : Int32))]))
      refine own_st (fun _ k => XS.goto X24.here hx rfl (pc0 := 95) (pc' := 99) rfl (hb hby at_95) (by decide) (by decide) k) ?_
      show own_Go p.tables e below F (T24.setTop (mkF m 99 #[.val (.int p0), .val (.int p1), .val (.int p2), .val (.int p3), .val (.int (3 : Int32)), .val (.int la), .val (.int lb), .val (.int lc), .val (.ref b1), .val (.ref b2), .val (.ref b3), .val (.ref b4), .val (.int (1 : Int32))] [(.int (1 : Int32))]))
      refine own_st (fun _ k => XS.istore X24.here hx rfl (hb hby at_99) rfl (l' := #[.val (.int p0), .val (.int p1), .val (.int p2), .val (.int p3), .val (.int (3 : Int32)), .val (.int la), .val (.int lb), .val (.int lc), .val (.ref b1), .val (.ref b2), .val (.ref b3), .val (.ref b4), .val (.int (1 : Int32))]) rfl k) ?_
      show own_Go p.tables e below F (T24.setTop (mkF m 101 #[.val (.int p0), .val (.int p1), .val (.int p2), .val (.int p3), .val (.int (3 : Int32)), .val (.int la), .val (.int lb), .val (.int lc), .val (.ref b1), .val (.ref b2), .val (.ref b3), .val (.ref b4), .val (.int (1 : Int32))] []))
      refine own_st (fun _ k => XS.iload X24.here hx rfl (hb hby at_101) rfl k) ?_
      show own_Go p.tables e below F (T24.setTop (mkF m 103 #[.val (.int p0), .val (.int p1), .val (.int p2), .val (.int p3), .val (.int (3 : Int32)), .val (.int la), .val (.int lb), .val (.int lc), .val (.ref b1), .val (.ref b2), .val (.ref b3), .val (.ref b4), .val (.int (1 : Int32))] [(.int (3 : Int32))]))
      refine own_st (fun _ k => XS.iconst X24.here hx rfl (hb hby at_103) k) ?_
      show own_Go p.tables e below F (T24.setTop (mkF m 104 #[.val (.int p0), .val (.int p1), .val (.int p2), .val (.int p3), .val (.int (3 : Int32)), .val (.int la), .val (.int lb), .val (.int lc), .val (.ref b1), .val (.ref b2), .val (.ref b3), .val (.ref b4), .val (.int (1 : Int32))] [(.int (2 : Int32)), (.int (3 : Int32))]))
      refine own_st (fun _ k => XS.icmpNo X24.here hx rfl (hb hby at_104) rfl (flt (by decide : ¬ ((3 : Int32) < (2 : Int32)))).1 k) ?_
      show own_Go p.tables e below F (T24.setTop (mkF m 107 #[.val (.int p0), .val (.int p1), .val (.int p2), .val (.int p3), .val (.int (3 : Int32)), .val (.int la), .val (.int lb), .val (.int lc), .val (.ref b1), .val (.ref b2), .val (.ref b3), .val (.ref b4), .val (.int (1 : Int32))] []))
      refine own_st (fun _ k => XS.aload X24.here hx rfl (hb hby at_107) rfl rfl k) ?_
      show own_Go p.tables e below F (T24.setTop (mkF m 109 #[.val (.int p0), .val (.int p1), .val (.int p2), .val (.int p3), .val (.int (3 : Int32)), .val (.int la), .val (.int lb), .val (.int lc), .val (.ref b1), .val (.ref b2), .val (.ref b3), .val (.ref b4), .val (.int (1 : Int32))] [(.ref b4)]))
      refine own_st (fun _ k => XS.aload X24.here hx rfl (hb hby at_109) rfl rfl k) ?_
      show own_Go p.tables e below F (T24.setTop (mkF m 111 #[.val (.int p0), .val (.int p1), .val (.int p2), .val (.int p3), .val (.int (3 : Int32)), .val (.int la), .val (.int lb), .val (.int lc), .val (.ref b1), .val (.ref b2), .val (.ref b3), .val (.ref b4), .val (.int (1 : Int32))] [(.ref b2), (.ref b4)]))
      by_cases hp1 : (0 : Int32) < lb
      ·
        obtain ⟨cq25, kq25, q25a, q25b, q25c⟩ := isOf hZ e24 TU23.1
        obtain ⟨_, _, ⟨T25, L25, k25, n25⟩, -, X25, ⟨Lc25, hQ25, l25, y25, z25⟩, st25⟩ := X24.virtualBack hx (y := (⟨"com/example/libmerit/libmerit/index/DocnoTable", "add", "([B)V"⟩ : MethodName)) (z := (⟨"com/example/libmerit/libmerit/index/DocnoTable", "add", "([B)V"⟩ : MethodName)) hown (mvT hZ (hw _ (List.mem_of_getElem? (i := 24) rfl))) (mvT hZ (hw _ (List.mem_of_getElem? (i := 25) rfl))) (notFace_of_selects (args := #[]) (mvT hZ (hw _ (List.mem_of_getElem? (i := 27) rfl)))) (mvT hZ (hw _ (List.mem_of_getElem? (i := 27) rfl))) (mvT hZ (hw _ (List.mem_of_getElem? (i := 26) rfl))) (by decide) (backOf (W := 0) (own_addO l Z a0 hw [] b4 pg en b2 kP kE k2 (1 : Int32) (2 : Int32) la lb (la + lb) [(.int la), (.int (0 : Int32)), (.int (0 : Int32))] _ qp T23.heap n0 (Nat.le_trans Z0 K0_23.1) (own_bcN l Z a0 hw [] b4 pg en kP kE (1 : Int32) _ _ la T23.heap n0 TU23 (by decide) ⟨by decide, by decide⟩ rfl) (own_B1 hA) hB V2__23 rfl ⟨by decide, by decide⟩ (by decide) (rfl) gn_b4 gn_pg gn_en ne_b4_en ne_b4_pg npe ne_b2_b4 ne_b2_pg ne_b2_en hp1 TU23 GG23 gn_qp ne_b2_qp ne_b4_qp ne_pg_qp ne_en_qp) hZ (hw _ (List.mem_of_getElem? (i := 28) rfl)) (hw _ (List.mem_of_getElem? (i := 3) rfl)) (by decide) (by decide)) q25a q25c (g := (mkF m 111 #[.val (.int p0), .val (.int p1), .val (.int p2), .val (.int p3), .val (.int (3 : Int32)), .val (.int la), .val (.int lb), .val (.int lc), .val (.ref b1), .val (.ref b2), .val (.ref b3), .val (.ref b4), .val (.int (1 : Int32))] [(.ref b2), (.ref b4)])) rfl (by rw [hml]; rfl) (Steps.refl _) (argsL := [(.ref b2)]) (rest := []) (lenOf pd_3 rfl) rfl (by show 2 * 0 + _ ≤ _; exact Nat.le_of_eq rfl) (hb hby at_111) (fun _ _ => ⟨rfl, e24, (by decide : 7 + 0 ≤ _), (by decide : 65636 + 0 ≤ _)⟩)
        dsimp only [Pt.U, Pt.locs, Pt.cells, Pt.slots] at X25 l25 y25 z25 st25 hQ25
        subst l25 y25 z25
        obtain ⟨rfl, N25q, K25, TT25, GG25⟩ := hQ25
        have N25 := Fr.app N24 N25q
        refine own_st (fun _ k => st25.trans k) ?_
        have V1__25 := V1__23.keep K25 (ninS ne_b1_b4 (ninS ne_b1_en (ninS ne_b1_qp nin0)))
        have V2__25 := V2__23.keep K25 (ninS ne_b2_b4 (ninS ne_b2_en (ninS ne_b2_qp nin0)))
        have V3__25 := V3__23.keep K25 (ninS ne_b3_b4 (ninS ne_b3_en (ninS ne_b3_qp nin0)))
        have K0_25 := own_ext_keep K0_23 K25 (allS sz_b4 (allS sz_en (allS sz_qp all0)))
        have TU25 : own_T Z T25.heap b4 pg en kP kE (2 : Int32) [(.int la), (.int (la + lb)), (.int (0 : Int32))] (.ref qp) := TT25
        show own_Go p.tables e below F (T25.setTop (mkF m 114 #[.val (.int p0), .val (.int p1), .val (.int p2), .val (.int p3), .val (.int (3 : Int32)), .val (.int la), .val (.int lb), .val (.int lc), .val (.ref b1), .val (.ref b2), .val (.ref b3), .val (.ref b4), .val (.int (1 : Int32))] []))
        refine own_st (fun _ k => XS.iload X25.here hx rfl (hb hby at_114) rfl k) ?_
        show own_Go p.tables e below F (T25.setTop (mkF m 116 #[.val (.int p0), .val (.int p1), .val (.int p2), .val (.int p3), .val (.int (3 : Int32)), .val (.int la), .val (.int lb), .val (.int lc), .val (.ref b1), .val (.ref b2), .val (.ref b3), .val (.ref b4), .val (.int (1 : Int32))] [(.int (1 : Int32))]))
        refine own_st (fun _ k => XS.ifNo X25.here hx rfl (hb hby at_116) rfl ((if0 _ _).trans (feq (by decide : ¬ ((1 : Int32) = (0 : Int32)))).1) k) ?_
        show own_Go p.tables e below F (T25.setTop (mkF m 119 #[.val (.int p0), .val (.int p1), .val (.int p2), .val (.int p3), .val (.int (3 : Int32)), .val (.int la), .val (.int lb), .val (.int lc), .val (.ref b1), .val (.ref b2), .val (.ref b3), .val (.ref b4), .val (.int (1 : Int32))] []))
        refine own_st (fun _ k => XS.aload X25.here hx rfl (hb hby at_119) rfl rfl k) ?_
        show own_Go p.tables e below F (T25.setTop (mkF m 121 #[.val (.int p0), .val (.int p1), .val (.int p2), .val (.int p3), .val (.int (3 : Int32)), .val (.int la), .val (.int lb), .val (.int lc), .val (.ref b1), .val (.ref b2), .val (.ref b3), .val (.ref b4), .val (.int (1 : Int32))] [(.ref b4)]))
        obtain ⟨cq26, kq26, q26a, q26b, q26c⟩ := isOf hZ rfl TU25.1
        obtain ⟨_, _, ⟨T26, L26, k26, n26⟩, -, X26, ⟨Lc26, hQ26, l26, y26, z26⟩, st26⟩ := X25.virtualBack hx (y := (⟨"com/example/libmerit/libmerit/index/DocnoTable", "byteCount", "()I"⟩ : MethodName)) (z := (⟨"com/example/libmerit/libmerit/index/DocnoTable", "byteCount", "()I"⟩ : MethodName)) hown (mvT hZ (hw _ (List.mem_of_getElem? (i := 17) rfl))) (mvT hZ (hw _ (List.mem_of_getElem? (i := 18) rfl))) (notFace_of_selects (args := #[]) (mvT hZ (hw _ (List.mem_of_getElem? (i := 20) rfl)))) (mvT hZ (hw _ (List.mem_of_getElem? (i := 20) rfl))) (mvT hZ (hw _ (List.mem_of_getElem? (i := 19) rfl))) (by decide) (backOf (W := 0) (own_bcN l Z a0 hw [] b4 pg en kP kE (2 : Int32) _ _ (la + lb) T25.heap n0 TU25 (by decide) ⟨by decide, by decide⟩ rfl) hZ (hw _ (List.mem_of_getElem? (i := 21) rfl)) (hw _ (List.mem_of_getElem? (i := 3) rfl)) (by decide) (by decide)) q26a q26c (g := (mkF m 121 #[.val (.int p0), .val (.int p1), .val (.int p2), .val (.int p3), .val (.int (3 : Int32)), .val (.int la), .val (.int lb), .val (.int lc), .val (.ref b1), .val (.ref b2), .val (.ref b3), .val (.ref b4), .val (.int (1 : Int32))] [(.ref b4)])) rfl (by rw [hml]; rfl) (Steps.refl _) (argsL := []) (rest := []) (lenOf pd_0 rfl) rfl (by show 2 * 0 + _ ≤ _; exact Nat.le_of_eq rfl) (hb hby at_121) (fun _ _ => ⟨rfl, rfl, (by decide : 7 + 0 ≤ _), (by decide : 65636 + 0 ≤ _)⟩)
        dsimp only [Pt.U, Pt.locs, Pt.cells, Pt.slots] at X26 l26 y26 z26 st26 hQ26
        subst l26 y26 z26
        obtain ⟨rfl, N26q, e26⟩ := hQ26
        have N26 := Fr.app N25 N26q
        refine own_st (fun _ k => st26.trans k) ?_
        show own_Go p.tables e below F (T26.setTop (mkF m 124 #[.val (.int p0), .val (.int p1), .val (.int p2), .val (.int p3), .val (.int (3 : Int32)), .val (.int la), .val (.int lb), .val (.int lc), .val (.ref b1), .val (.ref b2), .val (.ref b3), .val (.ref b4), .val (.int (1 : Int32))] [(.int (la + lb))]))
        refine own_st (fun _ k => XS.iload X26.here hx rfl (hb hby at_124) rfl k) ?_
        show own_Go p.tables e below F (T26.setTop (mkF m 126 #[.val (.int p0), .val (.int p1), .val (.int p2), .val (.int p3), .val (.int (3 : Int32)), .val (.int la), .val (.int lb), .val (.int lc), .val (.ref b1), .val (.ref b2), .val (.ref b3), .val (.ref b4), .val (.int (1 : Int32))] [(.int la), (.int (la + lb))]))
        refine own_st (fun _ k => XS.iload X26.here hx rfl (hb hby at_126) rfl k) ?_
        show own_Go p.tables e below F (T26.setTop (mkF m 128 #[.val (.int p0), .val (.int p1), .val (.int p2), .val (.int p3), .val (.int (3 : Int32)), .val (.int la), .val (.int lb), .val (.int lc), .val (.ref b1), .val (.ref b2), .val (.ref b3), .val (.ref b4), .val (.int (1 : Int32))] [(.int lb), (.int la), (.int (la + lb))]))
        refine own_st (fun _ k => XS.iadd X26.here hx rfl (hb hby at_128) rfl k) ?_
        show own_Go p.tables e below F (T26.setTop (mkF m 129 #[.val (.int p0), .val (.int p1), .val (.int p2), .val (.int p3), .val (.int (3 : Int32)), .val (.int la), .val (.int lb), .val (.int lc), .val (.ref b1), .val (.ref b2), .val (.ref b3), .val (.ref b4), .val (.int (1 : Int32))] [(.int (la + lb)), (.int (la + lb))]))
        refine own_st (fun _ k => XS.icmpNo X26.here hx rfl (hb hby at_129) rfl (teq (rfl : (la + lb) = (la + lb))).2 k) ?_
        show own_Go p.tables e below F (T26.setTop (mkF m 132 #[.val (.int p0), .val (.int p1), .val (.int p2), .val (.int p3), .val (.int (3 : Int32)), .val (.int la), .val (.int lb), .val (.int lc), .val (.ref b1), .val (.ref b2), .val (.ref b3), .val (.ref b4), .val (.int (1 : Int32))] []))
        refine own_st (fun _ k => XS.iconst X26.here hx rfl (hb hby at_132) k) ?_
        show own_Go p.tables e below F (T26.setTop (mkF m 133 #[.val (.int p0), .val (.int p1), .val (.int p2), .val (.int p3), .val (.int (3 : Int32)), .val (.int la), .val (.int lb), .val (.int lc), .val (.ref b1), .val (.ref b2), .val (.ref b3), .val (.ref b4), .val (.int (1 : Int32))] [(.int (1 : Int32))]))
        refine own_st (fun _ k => XS.goto X26.here hx rfl (pc0 := 133) (pc' := 137) rfl (hb hby at_133) (by decide) (by decide) k) ?_
        show own_Go p.tables e below F (T26.setTop (mkF m 137 #[.val (.int p0), .val (.int p1), .val (.int p2), .val (.int p3), .val (.int (3 : Int32)), .val (.int la), .val (.int lb), .val (.int lc), .val (.ref b1), .val (.ref b2), .val (.ref b3), .val (.ref b4), .val (.int (1 : Int32))] [(.int (1 : Int32))]))
        refine own_st (fun _ k => XS.istore X26.here hx rfl (hb hby at_137) rfl (l' := #[.val (.int p0), .val (.int p1), .val (.int p2), .val (.int p3), .val (.int (3 : Int32)), .val (.int la), .val (.int lb), .val (.int lc), .val (.ref b1), .val (.ref b2), .val (.ref b3), .val (.ref b4), .val (.int (1 : Int32))]) rfl k) ?_
        show own_Go p.tables e below F (T26.setTop (mkF m 139 #[.val (.int p0), .val (.int p1), .val (.int p2), .val (.int p3), .val (.int (3 : Int32)), .val (.int la), .val (.int lb), .val (.int lc), .val (.ref b1), .val (.ref b2), .val (.ref b3), .val (.ref b4), .val (.int (1 : Int32))] []))
        refine own_st (fun _ k => XS.iload X26.here hx rfl (hb hby at_139) rfl k) ?_
        show own_Go p.tables e below F (T26.setTop (mkF m 141 #[.val (.int p0), .val (.int p1), .val (.int p2), .val (.int p3), .val (.int (3 : Int32)), .val (.int la), .val (.int lb), .val (.int lc), .val (.ref b1), .val (.ref b2), .val (.ref b3), .val (.ref b4), .val (.int (1 : Int32))] [(.int (3 : Int32))]))
        refine own_st (fun _ k => XS.iconst X26.here hx rfl (hb hby at_141) k) ?_
        show own_Go p.tables e below F (T26.setTop (mkF m 142 #[.val (.int p0), .val (.int p1), .val (.int p2), .val (.int p3), .val (.int (3 : Int32)), .val (.int la), .val (.int lb), .val (.int lc), .val (.ref b1), .val (.ref b2), .val (.ref b3), .val (.ref b4), .val (.int (1 : Int32))] [(.int (3 : Int32)), (.int (3 : Int32))]))
        refine own_st (fun _ k => XS.icmpNo X26.here hx rfl (hb hby at_142) rfl (flt (by decide : ¬ ((3 : Int32) < (3 : Int32)))).1 k) ?_
        show own_Go p.tables e below F (T26.setTop (mkF m 145 #[.val (.int p0), .val (.int p1), .val (.int p2), .val (.int p3), .val (.int (3 : Int32)), .val (.int la), .val (.int lb), .val (.int lc), .val (.ref b1), .val (.ref b2), .val (.ref b3), .val (.ref b4), .val (.int (1 : Int32))] []))
        refine own_st (fun _ k => XS.aload X26.here hx rfl (hb hby at_145) rfl rfl k) ?_
        show own_Go p.tables e below F (T26.setTop (mkF m 147 #[.val (.int p0), .val (.int p1), .val (.int p2), .val (.int p3), .val (.int (3 : Int32)), .val (.int la), .val (.int lb), .val (.int lc), .val (.ref b1), .val (.ref b2), .val (.ref b3), .val (.ref b4), .val (.int (1 : Int32))] [(.ref b4)]))
        refine own_st (fun _ k => XS.aload X26.here hx rfl (hb hby at_147) rfl rfl k) ?_
        show own_Go p.tables e below F (T26.setTop (mkF m 149 #[.val (.int p0), .val (.int p1), .val (.int p2), .val (.int p3), .val (.int (3 : Int32)), .val (.int la), .val (.int lb), .val (.int lc), .val (.ref b1), .val (.ref b2), .val (.ref b3), .val (.ref b4), .val (.int (1 : Int32))] [(.ref b3), (.ref b4)]))
        by_cases hp2 : (0 : Int32) < lc
        ·
          obtain ⟨cq27, kq27, q27a, q27b, q27c⟩ := isOf hZ e26 TU25.1
          obtain ⟨_, _, ⟨T27, L27, k27, n27⟩, -, X27, ⟨Lc27, hQ27, l27, y27, z27⟩, st27⟩ := X26.virtualBack hx (y := (⟨"com/example/libmerit/libmerit/index/DocnoTable", "add", "([B)V"⟩ : MethodName)) (z := (⟨"com/example/libmerit/libmerit/index/DocnoTable", "add", "([B)V"⟩ : MethodName)) hown (mvT hZ (hw _ (List.mem_of_getElem? (i := 24) rfl))) (mvT hZ (hw _ (List.mem_of_getElem? (i := 25) rfl))) (notFace_of_selects (args := #[]) (mvT hZ (hw _ (List.mem_of_getElem? (i := 27) rfl)))) (mvT hZ (hw _ (List.mem_of_getElem? (i := 27) rfl))) (mvT hZ (hw _ (List.mem_of_getElem? (i := 26) rfl))) (by decide) (backOf (W := 0) (own_addO l Z a0 hw [] b4 pg en b3 kP kE k3 (2 : Int32) (3 : Int32) (la + lb) lc ((la + lb) + lc) [(.int la), (.int (la + lb)), (.int (0 : Int32))] _ qp T25.heap n0 (Nat.le_trans Z0 K0_25.1) (own_bcN l Z a0 hw [] b4 pg en kP kE (2 : Int32) _ _ (la + lb) T25.heap n0 TU25 (by decide) ⟨by decide, by decide⟩ rfl) (own_B2 hA hB) hC V3__25 rfl ⟨by decide, by decide⟩ (by decide) (rfl) gn_b4 gn_pg gn_en ne_b4_en ne_b4_pg npe ne_b3_b4 ne_b3_pg ne_b3_en hp2 TU25 GG25 gn_qp ne_b3_qp ne_b4_qp ne_pg_qp ne_en_qp) hZ (hw _ (List.mem_of_getElem? (i := 28) rfl)) (hw _ (List.mem_of_getElem? (i := 3) rfl)) (by decide) (by decide)) q27a q27c (g := (mkF m 149 #[.val (.int p0), .val (.int p1), .val (.int p2), .val (.int p3), .val (.int (3 : Int32)), .val (.int la), .val (.int lb), .val (.int lc), .val (.ref b1), .val (.ref b2), .val (.ref b3), .val (.ref b4), .val (.int (1 : Int32))] [(.ref b3), (.ref b4)])) rfl (by rw [hml]; rfl) (Steps.refl _) (argsL := [(.ref b3)]) (rest := []) (lenOf pd_3 rfl) rfl (by show 2 * 0 + _ ≤ _; exact Nat.le_of_eq rfl) (hb hby at_149) (fun _ _ => ⟨rfl, e26, (by decide : 7 + 0 ≤ _), (by decide : 65636 + 0 ≤ _)⟩)
          dsimp only [Pt.U, Pt.locs, Pt.cells, Pt.slots] at X27 l27 y27 z27 st27 hQ27
          subst l27 y27 z27
          obtain ⟨rfl, N27q, K27, TT27, GG27⟩ := hQ27
          have N27 := Fr.app N26 N27q
          refine own_st (fun _ k => st27.trans k) ?_
          have V1__27 := V1__25.keep K27 (ninS ne_b1_b4 (ninS ne_b1_en (ninS ne_b1_qp nin0)))
          have V2__27 := V2__25.keep K27 (ninS ne_b2_b4 (ninS ne_b2_en (ninS ne_b2_qp nin0)))
          have V3__27 := V3__25.keep K27 (ninS ne_b3_b4 (ninS ne_b3_en (ninS ne_b3_qp nin0)))
          have K0_27 := own_ext_keep K0_25 K27 (allS sz_b4 (allS sz_en (allS sz_qp all0)))
          have TU27 : own_T Z T27.heap b4 pg en kP kE (3 : Int32) [(.int la), (.int (la + lb)), (.int ((la + lb) + lc))] (.ref qp) := TT27
          show own_Go p.tables e below F (T27.setTop (mkF m 152 #[.val (.int p0), .val (.int p1), .val (.int p2), .val (.int p3), .val (.int (3 : Int32)), .val (.int la), .val (.int lb), .val (.int lc), .val (.ref b1), .val (.ref b2), .val (.ref b3), .val (.ref b4), .val (.int (1 : Int32))] []))
          refine own_st (fun _ k => XS.iload X27.here hx rfl (hb hby at_152) rfl k) ?_
          show own_Go p.tables e below F (T27.setTop (mkF m 154 #[.val (.int p0), .val (.int p1), .val (.int p2), .val (.int p3), .val (.int (3 : Int32)), .val (.int la), .val (.int lb), .val (.int lc), .val (.ref b1), .val (.ref b2), .val (.ref b3), .val (.ref b4), .val (.int (1 : Int32))] [(.int (1 : Int32))]))
          refine own_st (fun _ k => XS.ifNo X27.here hx rfl (hb hby at_154) rfl ((if0 _ _).trans (feq (by decide : ¬ ((1 : Int32) = (0 : Int32)))).1) k) ?_
          show own_Go p.tables e below F (T27.setTop (mkF m 157 #[.val (.int p0), .val (.int p1), .val (.int p2), .val (.int p3), .val (.int (3 : Int32)), .val (.int la), .val (.int lb), .val (.int lc), .val (.ref b1), .val (.ref b2), .val (.ref b3), .val (.ref b4), .val (.int (1 : Int32))] []))
          refine own_st (fun _ k => XS.aload X27.here hx rfl (hb hby at_157) rfl rfl k) ?_
          show own_Go p.tables e below F (T27.setTop (mkF m 159 #[.val (.int p0), .val (.int p1), .val (.int p2), .val (.int p3), .val (.int (3 : Int32)), .val (.int la), .val (.int lb), .val (.int lc), .val (.ref b1), .val (.ref b2), .val (.ref b3), .val (.ref b4), .val (.int (1 : Int32))] [(.ref b4)]))
          obtain ⟨cq28, kq28, q28a, q28b, q28c⟩ := isOf hZ rfl TU27.1
          obtain ⟨_, _, ⟨T28, L28, k28, n28⟩, -, X28, ⟨Lc28, hQ28, l28, y28, z28⟩, st28⟩ := X27.virtualBack hx (y := (⟨"com/example/libmerit/libmerit/index/DocnoTable", "byteCount", "()I"⟩ : MethodName)) (z := (⟨"com/example/libmerit/libmerit/index/DocnoTable", "byteCount", "()I"⟩ : MethodName)) hown (mvT hZ (hw _ (List.mem_of_getElem? (i := 17) rfl))) (mvT hZ (hw _ (List.mem_of_getElem? (i := 18) rfl))) (notFace_of_selects (args := #[]) (mvT hZ (hw _ (List.mem_of_getElem? (i := 20) rfl)))) (mvT hZ (hw _ (List.mem_of_getElem? (i := 20) rfl))) (mvT hZ (hw _ (List.mem_of_getElem? (i := 19) rfl))) (by decide) (backOf (W := 0) (own_bcN l Z a0 hw [] b4 pg en kP kE (3 : Int32) _ _ ((la + lb) + lc) T27.heap n0 TU27 (by decide) ⟨by decide, by decide⟩ rfl) hZ (hw _ (List.mem_of_getElem? (i := 21) rfl)) (hw _ (List.mem_of_getElem? (i := 3) rfl)) (by decide) (by decide)) q28a q28c (g := (mkF m 159 #[.val (.int p0), .val (.int p1), .val (.int p2), .val (.int p3), .val (.int (3 : Int32)), .val (.int la), .val (.int lb), .val (.int lc), .val (.ref b1), .val (.ref b2), .val (.ref b3), .val (.ref b4), .val (.int (1 : Int32))] [(.ref b4)])) rfl (by rw [hml]; rfl) (Steps.refl _) (argsL := []) (rest := []) (lenOf pd_0 rfl) rfl (by show 2 * 0 + _ ≤ _; exact Nat.le_of_eq rfl) (hb hby at_159) (fun _ _ => ⟨rfl, rfl, (by decide : 7 + 0 ≤ _), (by decide : 65636 + 0 ≤ _)⟩)
          dsimp only [Pt.U, Pt.locs, Pt.cells, Pt.slots] at X28 l28 y28 z28 st28 hQ28
          subst l28 y28 z28
          obtain ⟨rfl, N28q, e28⟩ := hQ28
          have N28 := Fr.app N27 N28q
          refine own_st (fun _ k => st28.trans k) ?_
          show own_Go p.tables e below F (T28.setTop (mkF m 162 #[.val (.int p0), .val (.int p1), .val (.int p2), .val (.int p3), .val (.int (3 : Int32)), .val (.int la), .val (.int lb), .val (.int lc), .val (.ref b1), .val (.ref b2), .val (.ref b3), .val (.ref b4), .val (.int (1 : Int32))] [(.int ((la + lb) + lc))]))
          refine own_st (fun _ k => XS.iload X28.here hx rfl (hb hby at_162) rfl k) ?_
          show own_Go p.tables e below F (T28.setTop (mkF m 164 #[.val (.int p0), .val (.int p1), .val (.int p2), .val (.int p3), .val (.int (3 : Int32)), .val (.int la), .val (.int lb), .val (.int lc), .val (.ref b1), .val (.ref b2), .val (.ref b3), .val (.ref b4), .val (.int (1 : Int32))] [(.int la), (.int ((la + lb) + lc))]))
          refine own_st (fun _ k => XS.iload X28.here hx rfl (hb hby at_164) rfl k) ?_
          show own_Go p.tables e below F (T28.setTop (mkF m 166 #[.val (.int p0), .val (.int p1), .val (.int p2), .val (.int p3), .val (.int (3 : Int32)), .val (.int la), .val (.int lb), .val (.int lc), .val (.ref b1), .val (.ref b2), .val (.ref b3), .val (.ref b4), .val (.int (1 : Int32))] [(.int lb), (.int la), (.int ((la + lb) + lc))]))
          refine own_st (fun _ k => XS.iadd X28.here hx rfl (hb hby at_166) rfl k) ?_
          show own_Go p.tables e below F (T28.setTop (mkF m 167 #[.val (.int p0), .val (.int p1), .val (.int p2), .val (.int p3), .val (.int (3 : Int32)), .val (.int la), .val (.int lb), .val (.int lc), .val (.ref b1), .val (.ref b2), .val (.ref b3), .val (.ref b4), .val (.int (1 : Int32))] [(.int (la + lb)), (.int ((la + lb) + lc))]))
          refine own_st (fun _ k => XS.iload X28.here hx rfl (hb hby at_167) rfl k) ?_
          show own_Go p.tables e below F (T28.setTop (mkF m 169 #[.val (.int p0), .val (.int p1), .val (.int p2), .val (.int p3), .val (.int (3 : Int32)), .val (.int la), .val (.int lb), .val (.int lc), .val (.ref b1), .val (.ref b2), .val (.ref b3), .val (.ref b4), .val (.int (1 : Int32))] [(.int lc), (.int (la + lb)), (.int ((la + lb) + lc))]))
          refine own_st (fun _ k => XS.iadd X28.here hx rfl (hb hby at_169) rfl k) ?_
          show own_Go p.tables e below F (T28.setTop (mkF m 170 #[.val (.int p0), .val (.int p1), .val (.int p2), .val (.int p3), .val (.int (3 : Int32)), .val (.int la), .val (.int lb), .val (.int lc), .val (.ref b1), .val (.ref b2), .val (.ref b3), .val (.ref b4), .val (.int (1 : Int32))] [(.int ((la + lb) + lc)), (.int ((la + lb) + lc))]))
          refine own_st (fun _ k => XS.icmpNo X28.here hx rfl (hb hby at_170) rfl (teq (rfl : ((la + lb) + lc) = ((la + lb) + lc))).2 k) ?_
          show own_Go p.tables e below F (T28.setTop (mkF m 173 #[.val (.int p0), .val (.int p1), .val (.int p2), .val (.int p3), .val (.int (3 : Int32)), .val (.int la), .val (.int lb), .val (.int lc), .val (.ref b1), .val (.ref b2), .val (.ref b3), .val (.ref b4), .val (.int (1 : Int32))] []))
          refine own_st (fun _ k => XS.iconst X28.here hx rfl (hb hby at_173) k) ?_
          show own_Go p.tables e below F (T28.setTop (mkF m 174 #[.val (.int p0), .val (.int p1), .val (.int p2), .val (.int p3), .val (.int (3 : Int32)), .val (.int la), .val (.int lb), .val (.int lc), .val (.ref b1), .val (.ref b2), .val (.ref b3), .val (.ref b4), .val (.int (1 : Int32))] [(.int (1 : Int32))]))
          refine own_st (fun _ k => XS.goto X28.here hx rfl (pc0 := 174) (pc' := 178) rfl (hb hby at_174) (by decide) (by decide) k) ?_
          show own_Go p.tables e below F (T28.setTop (mkF m 178 #[.val (.int p0), .val (.int p1), .val (.int p2), .val (.int p3), .val (.int (3 : Int32)), .val (.int la), .val (.int lb), .val (.int lc), .val (.ref b1), .val (.ref b2), .val (.ref b3), .val (.ref b4), .val (.int (1 : Int32))] [(.int (1 : Int32))]))
          refine own_st (fun _ k => XS.istore X28.here hx rfl (hb hby at_178) rfl (l' := #[.val (.int p0), .val (.int p1), .val (.int p2), .val (.int p3), .val (.int (3 : Int32)), .val (.int la), .val (.int lb), .val (.int lc), .val (.ref b1), .val (.ref b2), .val (.ref b3), .val (.ref b4), .val (.int (1 : Int32))]) rfl k) ?_
          show own_Go p.tables e below F (T28.setTop (mkF m 180 #[.val (.int p0), .val (.int p1), .val (.int p2), .val (.int p3), .val (.int (3 : Int32)), .val (.int la), .val (.int lb), .val (.int lc), .val (.ref b1), .val (.ref b2), .val (.ref b3), .val (.ref b4), .val (.int (1 : Int32))] []))
          refine own_st (fun _ k => XS.iload X28.here hx rfl (hb hby at_180) rfl k) ?_
          show own_Go p.tables e below F (T28.setTop (mkF m 182 #[.val (.int p0), .val (.int p1), .val (.int p2), .val (.int p3), .val (.int (3 : Int32)), .val (.int la), .val (.int lb), .val (.int lc), .val (.ref b1), .val (.ref b2), .val (.ref b3), .val (.ref b4), .val (.int (1 : Int32))] [(.int (1 : Int32))]))
          obtain ⟨fs, hrL, hrun, hended, hW, hsame⟩ := X28.leave (v := some (.int (1 : Int32))) (fun h => by rw [Bd.returns] at h; cases h)
          refine own_end hF (o := .returned (some (.int (1 : Int32)))) (retN X28 hx (t := .boolean) Bd.returns (by simp) (hb hby at_182) hrL) ?_
          refine ⟨hrun, hended, _, _, rfl, ?_, ⟨_, rfl⟩, hW, hsame.mono (by decide) (by decide)⟩
          exact ⟨rfl, N28⟩
        ·
          obtain ⟨cq29, kq29, q29a, q29b, q29c⟩ := isOf hZ e26 TU25.1
          obtain ⟨_, _, ⟨T29, L29, k29, n29⟩, -, X29, ⟨Lc29, hQ29, l29, y29, z29⟩, st29⟩ := X26.virtualBack hx (y := (⟨"com/example/libmerit/libmerit/index/DocnoTable", "add", "([B)V"⟩ : MethodName)) (z := (⟨"com/example/libmerit/libmerit/index/DocnoTable", "add", "([B)V"⟩ : MethodName)) hown (mvT hZ (hw _ (List.mem_of_getElem? (i := 24) rfl))) (mvT hZ (hw _ (List.mem_of_getElem? (i := 25) rfl))) (notFace_of_selects (args := #[]) (mvT hZ (hw _ (List.mem_of_getElem? (i := 27) rfl)))) (mvT hZ (hw _ (List.mem_of_getElem? (i := 27) rfl))) (mvT hZ (hw _ (List.mem_of_getElem? (i := 26) rfl))) (by decide) (backOf (W := 0) (own_addZ l Z a0 hw [] b4 pg en b3 kP kE k3 (2 : Int32) (3 : Int32) (la + lb) lc ((la + lb) + lc) [(.int la), (.int (la + lb)), (.int (0 : Int32))] _ (.ref qp) T25.heap n0 (Nat.le_trans Z0 K0_25.1) (own_bcN l Z a0 hw [] b4 pg en kP kE (2 : Int32) _ _ (la + lb) T25.heap n0 TU25 (by decide) ⟨by decide, by decide⟩ rfl) (own_B2 hA hB) hC V3__25 rfl ⟨by decide, by decide⟩ (by decide) (rfl) gn_b4 gn_pg gn_en ne_b4_en ne_b4_pg npe ne_b3_b4 ne_b3_pg ne_b3_en hp2 TU25) hZ (hw _ (List.mem_of_getElem? (i := 28) rfl)) (hw _ (List.mem_of_getElem? (i := 3) rfl)) (by decide) (by decide)) q29a q29c (g := (mkF m 149 #[.val (.int p0), .val (.int p1), .val (.int p2), .val (.int p3), .val (.int (3 : Int32)), .val (.int la), .val (.int lb), .val (.int lc), .val (.ref b1), .val (.ref b2), .val (.ref b3), .val (.ref b4), .val (.int (1 : Int32))] [(.ref b3), (.ref b4)])) rfl (by rw [hml]; rfl) (Steps.refl _) (argsL := [(.ref b3)]) (rest := []) (lenOf pd_3 rfl) rfl (by show 2 * 0 + _ ≤ _; exact Nat.le_of_eq rfl) (hb hby at_149) (fun _ _ => ⟨rfl, e26, (by decide : 7 + 0 ≤ _), (by decide : 65636 + 0 ≤ _)⟩)
          dsimp only [Pt.U, Pt.locs, Pt.cells, Pt.slots] at X29 l29 y29 z29 st29 hQ29
          subst l29 y29 z29
          obtain ⟨rfl, N29q, K29, TT29⟩ := hQ29
          have N29 := Fr.app N26 N29q
          refine own_st (fun _ k => st29.trans k) ?_
          have GG29 := own_Pg_keep GG25 K29 (ninS (Ne.symm ne_b4_qp) (ninS (Ne.symm ne_en_qp) nin0))
          have V1__29 := V1__25.keep K29 (ninS ne_b1_b4 (ninS ne_b1_en nin0))
          have V2__29 := V2__25.keep K29 (ninS ne_b2_b4 (ninS ne_b2_en nin0))
          have V3__29 := V3__25.keep K29 (ninS ne_b3_b4 (ninS ne_b3_en nin0))
          have K0_29 := own_ext_keep K0_25 K29 (allS sz_b4 (allS sz_en all0))
          have TU29 : own_T Z T29.heap b4 pg en kP kE (3 : Int32) [(.int la), (.int (la + lb)), (.int ((la + lb) + lc))] (.ref qp) := TT29
          show own_Go p.tables e below F (T29.setTop (mkF m 152 #[.val (.int p0), .val (.int p1), .val (.int p2), .val (.int p3), .val (.int (3 : Int32)), .val (.int la), .val (.int lb), .val (.int lc), .val (.ref b1), .val (.ref b2), .val (.ref b3), .val (.ref b4), .val (.int (1 : Int32))] []))
          refine own_st (fun _ k => XS.iload X29.here hx rfl (hb hby at_152) rfl k) ?_
          show own_Go p.tables e below F (T29.setTop (mkF m 154 #[.val (.int p0), .val (.int p1), .val (.int p2), .val (.int p3), .val (.int (3 : Int32)), .val (.int la), .val (.int lb), .val (.int lc), .val (.ref b1), .val (.ref b2), .val (.ref b3), .val (.ref b4), .val (.int (1 : Int32))] [(.int (1 : Int32))]))
          refine own_st (fun _ k => XS.ifNo X29.here hx rfl (hb hby at_154) rfl ((if0 _ _).trans (feq (by decide : ¬ ((1 : Int32) = (0 : Int32)))).1) k) ?_
          show own_Go p.tables e below F (T29.setTop (mkF m 157 #[.val (.int p0), .val (.int p1), .val (.int p2), .val (.int p3), .val (.int (3 : Int32)), .val (.int la), .val (.int lb), .val (.int lc), .val (.ref b1), .val (.ref b2), .val (.ref b3), .val (.ref b4), .val (.int (1 : Int32))] []))
          refine own_st (fun _ k => XS.aload X29.here hx rfl (hb hby at_157) rfl rfl k) ?_
          show own_Go p.tables e below F (T29.setTop (mkF m 159 #[.val (.int p0), .val (.int p1), .val (.int p2), .val (.int p3), .val (.int (3 : Int32)), .val (.int la), .val (.int lb), .val (.int lc), .val (.ref b1), .val (.ref b2), .val (.ref b3), .val (.ref b4), .val (.int (1 : Int32))] [(.ref b4)]))
          obtain ⟨cq30, kq30, q30a, q30b, q30c⟩ := isOf hZ rfl TU29.1
          obtain ⟨_, _, ⟨T30, L30, k30, n30⟩, -, X30, ⟨Lc30, hQ30, l30, y30, z30⟩, st30⟩ := X29.virtualBack hx (y := (⟨"com/example/libmerit/libmerit/index/DocnoTable", "byteCount", "()I"⟩ : MethodName)) (z := (⟨"com/example/libmerit/libmerit/index/DocnoTable", "byteCount", "()I"⟩ : MethodName)) hown (mvT hZ (hw _ (List.mem_of_getElem? (i := 17) rfl))) (mvT hZ (hw _ (List.mem_of_getElem? (i := 18) rfl))) (notFace_of_selects (args := #[]) (mvT hZ (hw _ (List.mem_of_getElem? (i := 20) rfl)))) (mvT hZ (hw _ (List.mem_of_getElem? (i := 20) rfl))) (mvT hZ (hw _ (List.mem_of_getElem? (i := 19) rfl))) (by decide) (backOf (W := 0) (own_bcN l Z a0 hw [] b4 pg en kP kE (3 : Int32) _ _ ((la + lb) + lc) T29.heap n0 TU29 (by decide) ⟨by decide, by decide⟩ rfl) hZ (hw _ (List.mem_of_getElem? (i := 21) rfl)) (hw _ (List.mem_of_getElem? (i := 3) rfl)) (by decide) (by decide)) q30a q30c (g := (mkF m 159 #[.val (.int p0), .val (.int p1), .val (.int p2), .val (.int p3), .val (.int (3 : Int32)), .val (.int la), .val (.int lb), .val (.int lc), .val (.ref b1), .val (.ref b2), .val (.ref b3), .val (.ref b4), .val (.int (1 : Int32))] [(.ref b4)])) rfl (by rw [hml]; rfl) (Steps.refl _) (argsL := []) (rest := []) (lenOf pd_0 rfl) rfl (by show 2 * 0 + _ ≤ _; exact Nat.le_of_eq rfl) (hb hby at_159) (fun _ _ => ⟨rfl, rfl, (by decide : 7 + 0 ≤ _), (by decide : 65636 + 0 ≤ _)⟩)
          dsimp only [Pt.U, Pt.locs, Pt.cells, Pt.slots] at X30 l30 y30 z30 st30 hQ30
          subst l30 y30 z30
          obtain ⟨rfl, N30q, e30⟩ := hQ30
          have N30 := Fr.app N29 N30q
          refine own_st (fun _ k => st30.trans k) ?_
          show own_Go p.tables e below F (T30.setTop (mkF m 162 #[.val (.int p0), .val (.int p1), .val (.int p2), .val (.int p3), .val (.int (3 : Int32)), .val (.int la), .val (.int lb), .val (.int lc), .val (.ref b1), .val (.ref b2), .val (.ref b3), .val (.ref b4), .val (.int (1 : Int32))] [(.int ((la + lb) + lc))]))
          refine own_st (fun _ k => XS.iload X30.here hx rfl (hb hby at_162) rfl k) ?_
          show own_Go p.tables e below F (T30.setTop (mkF m 164 #[.val (.int p0), .val (.int p1), .val (.int p2), .val (.int p3), .val (.int (3 : Int32)), .val (.int la), .val (.int lb), .val (.int lc), .val (.ref b1), .val (.ref b2), .val (.ref b3), .val (.ref b4), .val (.int (1 : Int32))] [(.int la), (.int ((la + lb) + lc))]))
          refine own_st (fun _ k => XS.iload X30.here hx rfl (hb hby at_164) rfl k) ?_
          show own_Go p.tables e below F (T30.setTop (mkF m 166 #[.val (.int p0), .val (.int p1), .val (.int p2), .val (.int p3), .val (.int (3 : Int32)), .val (.int la), .val (.int lb), .val (.int lc), .val (.ref b1), .val (.ref b2), .val (.ref b3), .val (.ref b4), .val (.int (1 : Int32))] [(.int lb), (.int la), (.int ((la + lb) + lc))]))
          refine own_st (fun _ k => XS.iadd X30.here hx rfl (hb hby at_166) rfl k) ?_
          show own_Go p.tables e below F (T30.setTop (mkF m 167 #[.val (.int p0), .val (.int p1), .val (.int p2), .val (.int p3), .val (.int (3 : Int32)), .val (.int la), .val (.int lb), .val (.int lc), .val (.ref b1), .val (.ref b2), .val (.ref b3), .val (.ref b4), .val (.int (1 : Int32))] [(.int (la + lb)), (.int ((la + lb) + lc))]))
          refine own_st (fun _ k => XS.iload X30.here hx rfl (hb hby at_167) rfl k) ?_
          show own_Go p.tables e below F (T30.setTop (mkF m 169 #[.val (.int p0), .val (.int p1), .val (.int p2), .val (.int p3), .val (.int (3 : Int32)), .val (.int la), .val (.int lb), .val (.int lc), .val (.ref b1), .val (.ref b2), .val (.ref b3), .val (.ref b4), .val (.int (1 : Int32))] [(.int lc), (.int (la + lb)), (.int ((la + lb) + lc))]))
          refine own_st (fun _ k => XS.iadd X30.here hx rfl (hb hby at_169) rfl k) ?_
          show own_Go p.tables e below F (T30.setTop (mkF m 170 #[.val (.int p0), .val (.int p1), .val (.int p2), .val (.int p3), .val (.int (3 : Int32)), .val (.int la), .val (.int lb), .val (.int lc), .val (.ref b1), .val (.ref b2), .val (.ref b3), .val (.ref b4), .val (.int (1 : Int32))] [(.int ((la + lb) + lc)), (.int ((la + lb) + lc))]))
          refine own_st (fun _ k => XS.icmpNo X30.here hx rfl (hb hby at_170) rfl (teq (rfl : ((la + lb) + lc) = ((la + lb) + lc))).2 k) ?_
          show own_Go p.tables e below F (T30.setTop (mkF m 173 #[.val (.int p0), .val (.int p1), .val (.int p2), .val (.int p3), .val (.int (3 : Int32)), .val (.int la), .val (.int lb), .val (.int lc), .val (.ref b1), .val (.ref b2), .val (.ref b3), .val (.ref b4), .val (.int (1 : Int32))] []))
          refine own_st (fun _ k => XS.iconst X30.here hx rfl (hb hby at_173) k) ?_
          show own_Go p.tables e below F (T30.setTop (mkF m 174 #[.val (.int p0), .val (.int p1), .val (.int p2), .val (.int p3), .val (.int (3 : Int32)), .val (.int la), .val (.int lb), .val (.int lc), .val (.ref b1), .val (.ref b2), .val (.ref b3), .val (.ref b4), .val (.int (1 : Int32))] [(.int (1 : Int32))]))
          refine own_st (fun _ k => XS.goto X30.here hx rfl (pc0 := 174) (pc' := 178) rfl (hb hby at_174) (by decide) (by decide) k) ?_
          show own_Go p.tables e below F (T30.setTop (mkF m 178 #[.val (.int p0), .val (.int p1), .val (.int p2), .val (.int p3), .val (.int (3 : Int32)), .val (.int la), .val (.int lb), .val (.int lc), .val (.ref b1), .val (.ref b2), .val (.ref b3), .val (.ref b4), .val (.int (1 : Int32))] [(.int (1 : Int32))]))
          refine own_st (fun _ k => XS.istore X30.here hx rfl (hb hby at_178) rfl (l' := #[.val (.int p0), .val (.int p1), .val (.int p2), .val (.int p3), .val (.int (3 : Int32)), .val (.int la), .val (.int lb), .val (.int lc), .val (.ref b1), .val (.ref b2), .val (.ref b3), .val (.ref b4), .val (.int (1 : Int32))]) rfl k) ?_
          show own_Go p.tables e below F (T30.setTop (mkF m 180 #[.val (.int p0), .val (.int p1), .val (.int p2), .val (.int p3), .val (.int (3 : Int32)), .val (.int la), .val (.int lb), .val (.int lc), .val (.ref b1), .val (.ref b2), .val (.ref b3), .val (.ref b4), .val (.int (1 : Int32))] []))
          refine own_st (fun _ k => XS.iload X30.here hx rfl (hb hby at_180) rfl k) ?_
          show own_Go p.tables e below F (T30.setTop (mkF m 182 #[.val (.int p0), .val (.int p1), .val (.int p2), .val (.int p3), .val (.int (3 : Int32)), .val (.int la), .val (.int lb), .val (.int lc), .val (.ref b1), .val (.ref b2), .val (.ref b3), .val (.ref b4), .val (.int (1 : Int32))] [(.int (1 : Int32))]))
          obtain ⟨fs, hrL, hrun, hended, hW, hsame⟩ := X30.leave (v := some (.int (1 : Int32))) (fun h => by rw [Bd.returns] at h; cases h)
          refine own_end hF (o := .returned (some (.int (1 : Int32)))) (retN X30 hx (t := .boolean) Bd.returns (by simp) (hb hby at_182) hrL) ?_
          refine ⟨hrun, hended, _, _, rfl, ?_, ⟨_, rfl⟩, hW, hsame.mono (by decide) (by decide)⟩
          exact ⟨rfl, N30⟩
      ·
        obtain ⟨cq31, kq31, q31a, q31b, q31c⟩ := isOf hZ e24 TU23.1
        obtain ⟨_, _, ⟨T31, L31, k31, n31⟩, -, X31, ⟨Lc31, hQ31, l31, y31, z31⟩, st31⟩ := X24.virtualBack hx (y := (⟨"com/example/libmerit/libmerit/index/DocnoTable", "add", "([B)V"⟩ : MethodName)) (z := (⟨"com/example/libmerit/libmerit/index/DocnoTable", "add", "([B)V"⟩ : MethodName)) hown (mvT hZ (hw _ (List.mem_of_getElem? (i := 24) rfl))) (mvT hZ (hw _ (List.mem_of_getElem? (i := 25) rfl))) (notFace_of_selects (args := #[]) (mvT hZ (hw _ (List.mem_of_getElem? (i := 27) rfl)))) (mvT hZ (hw _ (List.mem_of_getElem? (i := 27) rfl))) (mvT hZ (hw _ (List.mem_of_getElem? (i := 26) rfl))) (by decide) (backOf (W := 0) (own_addZ l Z a0 hw [] b4 pg en b2 kP kE k2 (1 : Int32) (2 : Int32) la lb (la + lb) [(.int la), (.int (0 : Int32)), (.int (0 : Int32))] _ (.ref qp) T23.heap n0 (Nat.le_trans Z0 K0_23.1) (own_bcN l Z a0 hw [] b4 pg en kP kE (1 : Int32) _ _ la T23.heap n0 TU23 (by decide) ⟨by decide, by decide⟩ rfl) (own_B1 hA) hB V2__23 rfl ⟨by decide, by decide⟩ (by decide) (rfl) gn_b4 gn_pg gn_en ne_b4_en ne_b4_pg npe ne_b2_b4 ne_b2_pg ne_b2_en hp1 TU23) hZ (hw _ (List.mem_of_getElem? (i := 28) rfl)) (hw _ (List.mem_of_getElem? (i := 3) rfl)) (by decide) (by decide)) q31a q31c (g := (mkF m 111 #[.val (.int p0), .val (.int p1), .val (.int p2), .val (.int p3), .val (.int (3 : Int32)), .val (.int la), .val (.int lb), .val (.int lc), .val (.ref b1), .val (.ref b2), .val (.ref b3), .val (.ref b4), .val (.int (1 : Int32))] [(.ref b2), (.ref b4)])) rfl (by rw [hml]; rfl) (Steps.refl _) (argsL := [(.ref b2)]) (rest := []) (lenOf pd_3 rfl) rfl (by show 2 * 0 + _ ≤ _; exact Nat.le_of_eq rfl) (hb hby at_111) (fun _ _ => ⟨rfl, e24, (by decide : 7 + 0 ≤ _), (by decide : 65636 + 0 ≤ _)⟩)
        dsimp only [Pt.U, Pt.locs, Pt.cells, Pt.slots] at X31 l31 y31 z31 st31 hQ31
        subst l31 y31 z31
        obtain ⟨rfl, N31q, K31, TT31⟩ := hQ31
        have N31 := Fr.app N24 N31q
        refine own_st (fun _ k => st31.trans k) ?_
        have GG31 := own_Pg_keep GG23 K31 (ninS (Ne.symm ne_b4_qp) (ninS (Ne.symm ne_en_qp) nin0))
        have V1__31 := V1__23.keep K31 (ninS ne_b1_b4 (ninS ne_b1_en nin0))
        have V2__31 := V2__23.keep K31 (ninS ne_b2_b4 (ninS ne_b2_en nin0))
        have V3__31 := V3__23.keep K31 (ninS ne_b3_b4 (ninS ne_b3_en nin0))
        have K0_31 := own_ext_keep K0_23 K31 (allS sz_b4 (allS sz_en all0))
        have TU31 : own_T Z T31.heap b4 pg en kP kE (2 : Int32) [(.int la), (.int (la + lb)), (.int (0 : Int32))] (.ref qp) := TT31
        show own_Go p.tables e below F (T31.setTop (mkF m 114 #[.val (.int p0), .val (.int p1), .val (.int p2), .val (.int p3), .val (.int (3 : Int32)), .val (.int la), .val (.int lb), .val (.int lc), .val (.ref b1), .val (.ref b2), .val (.ref b3), .val (.ref b4), .val (.int (1 : Int32))] []))
        refine own_st (fun _ k => XS.iload X31.here hx rfl (hb hby at_114) rfl k) ?_
        show own_Go p.tables e below F (T31.setTop (mkF m 116 #[.val (.int p0), .val (.int p1), .val (.int p2), .val (.int p3), .val (.int (3 : Int32)), .val (.int la), .val (.int lb), .val (.int lc), .val (.ref b1), .val (.ref b2), .val (.ref b3), .val (.ref b4), .val (.int (1 : Int32))] [(.int (1 : Int32))]))
        refine own_st (fun _ k => XS.ifNo X31.here hx rfl (hb hby at_116) rfl ((if0 _ _).trans (feq (by decide : ¬ ((1 : Int32) = (0 : Int32)))).1) k) ?_
        show own_Go p.tables e below F (T31.setTop (mkF m 119 #[.val (.int p0), .val (.int p1), .val (.int p2), .val (.int p3), .val (.int (3 : Int32)), .val (.int la), .val (.int lb), .val (.int lc), .val (.ref b1), .val (.ref b2), .val (.ref b3), .val (.ref b4), .val (.int (1 : Int32))] []))
        refine own_st (fun _ k => XS.aload X31.here hx rfl (hb hby at_119) rfl rfl k) ?_
        show own_Go p.tables e below F (T31.setTop (mkF m 121 #[.val (.int p0), .val (.int p1), .val (.int p2), .val (.int p3), .val (.int (3 : Int32)), .val (.int la), .val (.int lb), .val (.int lc), .val (.ref b1), .val (.ref b2), .val (.ref b3), .val (.ref b4), .val (.int (1 : Int32))] [(.ref b4)]))
        obtain ⟨cq32, kq32, q32a, q32b, q32c⟩ := isOf hZ rfl TU31.1
        obtain ⟨_, _, ⟨T32, L32, k32, n32⟩, -, X32, ⟨Lc32, hQ32, l32, y32, z32⟩, st32⟩ := X31.virtualBack hx (y := (⟨"com/example/libmerit/libmerit/index/DocnoTable", "byteCount", "()I"⟩ : MethodName)) (z := (⟨"com/example/libmerit/libmerit/index/DocnoTable", "byteCount", "()I"⟩ : MethodName)) hown (mvT hZ (hw _ (List.mem_of_getElem? (i := 17) rfl))) (mvT hZ (hw _ (List.mem_of_getElem? (i := 18) rfl))) (notFace_of_selects (args := #[]) (mvT hZ (hw _ (List.mem_of_getElem? (i := 20) rfl)))) (mvT hZ (hw _ (List.mem_of_getElem? (i := 20) rfl))) (mvT hZ (hw _ (List.mem_of_getElem? (i := 19) rfl))) (by decide) (backOf (W := 0) (own_bcN l Z a0 hw [] b4 pg en kP kE (2 : Int32) _ _ (la + lb) T31.heap n0 TU31 (by decide) ⟨by decide, by decide⟩ rfl) hZ (hw _ (List.mem_of_getElem? (i := 21) rfl)) (hw _ (List.mem_of_getElem? (i := 3) rfl)) (by decide) (by decide)) q32a q32c (g := (mkF m 121 #[.val (.int p0), .val (.int p1), .val (.int p2), .val (.int p3), .val (.int (3 : Int32)), .val (.int la), .val (.int lb), .val (.int lc), .val (.ref b1), .val (.ref b2), .val (.ref b3), .val (.ref b4), .val (.int (1 : Int32))] [(.ref b4)])) rfl (by rw [hml]; rfl) (Steps.refl _) (argsL := []) (rest := []) (lenOf pd_0 rfl) rfl (by show 2 * 0 + _ ≤ _; exact Nat.le_of_eq rfl) (hb hby at_121) (fun _ _ => ⟨rfl, rfl, (by decide : 7 + 0 ≤ _), (by decide : 65636 + 0 ≤ _)⟩)
        dsimp only [Pt.U, Pt.locs, Pt.cells, Pt.slots] at X32 l32 y32 z32 st32 hQ32
        subst l32 y32 z32
        obtain ⟨rfl, N32q, e32⟩ := hQ32
        have N32 := Fr.app N31 N32q
        refine own_st (fun _ k => st32.trans k) ?_
        show own_Go p.tables e below F (T32.setTop (mkF m 124 #[.val (.int p0), .val (.int p1), .val (.int p2), .val (.int p3), .val (.int (3 : Int32)), .val (.int la), .val (.int lb), .val (.int lc), .val (.ref b1), .val (.ref b2), .val (.ref b3), .val (.ref b4), .val (.int (1 : Int32))] [(.int (la + lb))]))
        refine own_st (fun _ k => XS.iload X32.here hx rfl (hb hby at_124) rfl k) ?_
        show own_Go p.tables e below F (T32.setTop (mkF m 126 #[.val (.int p0), .val (.int p1), .val (.int p2), .val (.int p3), .val (.int (3 : Int32)), .val (.int la), .val (.int lb), .val (.int lc), .val (.ref b1), .val (.ref b2), .val (.ref b3), .val (.ref b4), .val (.int (1 : Int32))] [(.int la), (.int (la + lb))]))
        refine own_st (fun _ k => XS.iload X32.here hx rfl (hb hby at_126) rfl k) ?_
        show own_Go p.tables e below F (T32.setTop (mkF m 128 #[.val (.int p0), .val (.int p1), .val (.int p2), .val (.int p3), .val (.int (3 : Int32)), .val (.int la), .val (.int lb), .val (.int lc), .val (.ref b1), .val (.ref b2), .val (.ref b3), .val (.ref b4), .val (.int (1 : Int32))] [(.int lb), (.int la), (.int (la + lb))]))
        refine own_st (fun _ k => XS.iadd X32.here hx rfl (hb hby at_128) rfl k) ?_
        show own_Go p.tables e below F (T32.setTop (mkF m 129 #[.val (.int p0), .val (.int p1), .val (.int p2), .val (.int p3), .val (.int (3 : Int32)), .val (.int la), .val (.int lb), .val (.int lc), .val (.ref b1), .val (.ref b2), .val (.ref b3), .val (.ref b4), .val (.int (1 : Int32))] [(.int (la + lb)), (.int (la + lb))]))
        refine own_st (fun _ k => XS.icmpNo X32.here hx rfl (hb hby at_129) rfl (teq (rfl : (la + lb) = (la + lb))).2 k) ?_
        show own_Go p.tables e below F (T32.setTop (mkF m 132 #[.val (.int p0), .val (.int p1), .val (.int p2), .val (.int p3), .val (.int (3 : Int32)), .val (.int la), .val (.int lb), .val (.int lc), .val (.ref b1), .val (.ref b2), .val (.ref b3), .val (.ref b4), .val (.int (1 : Int32))] []))
        refine own_st (fun _ k => XS.iconst X32.here hx rfl (hb hby at_132) k) ?_
        show own_Go p.tables e below F (T32.setTop (mkF m 133 #[.val (.int p0), .val (.int p1), .val (.int p2), .val (.int p3), .val (.int (3 : Int32)), .val (.int la), .val (.int lb), .val (.int lc), .val (.ref b1), .val (.ref b2), .val (.ref b3), .val (.ref b4), .val (.int (1 : Int32))] [(.int (1 : Int32))]))
        refine own_st (fun _ k => XS.goto X32.here hx rfl (pc0 := 133) (pc' := 137) rfl (hb hby at_133) (by decide) (by decide) k) ?_
        show own_Go p.tables e below F (T32.setTop (mkF m 137 #[.val (.int p0), .val (.int p1), .val (.int p2), .val (.int p3), .val (.int (3 : Int32)), .val (.int la), .val (.int lb), .val (.int lc), .val (.ref b1), .val (.ref b2), .val (.ref b3), .val (.ref b4), .val (.int (1 : Int32))] [(.int (1 : Int32))]))
        refine own_st (fun _ k => XS.istore X32.here hx rfl (hb hby at_137) rfl (l' := #[.val (.int p0), .val (.int p1), .val (.int p2), .val (.int p3), .val (.int (3 : Int32)), .val (.int la), .val (.int lb), .val (.int lc), .val (.ref b1), .val (.ref b2), .val (.ref b3), .val (.ref b4), .val (.int (1 : Int32))]) rfl k) ?_
        show own_Go p.tables e below F (T32.setTop (mkF m 139 #[.val (.int p0), .val (.int p1), .val (.int p2), .val (.int p3), .val (.int (3 : Int32)), .val (.int la), .val (.int lb), .val (.int lc), .val (.ref b1), .val (.ref b2), .val (.ref b3), .val (.ref b4), .val (.int (1 : Int32))] []))
        refine own_st (fun _ k => XS.iload X32.here hx rfl (hb hby at_139) rfl k) ?_
        show own_Go p.tables e below F (T32.setTop (mkF m 141 #[.val (.int p0), .val (.int p1), .val (.int p2), .val (.int p3), .val (.int (3 : Int32)), .val (.int la), .val (.int lb), .val (.int lc), .val (.ref b1), .val (.ref b2), .val (.ref b3), .val (.ref b4), .val (.int (1 : Int32))] [(.int (3 : Int32))]))
        refine own_st (fun _ k => XS.iconst X32.here hx rfl (hb hby at_141) k) ?_
        show own_Go p.tables e below F (T32.setTop (mkF m 142 #[.val (.int p0), .val (.int p1), .val (.int p2), .val (.int p3), .val (.int (3 : Int32)), .val (.int la), .val (.int lb), .val (.int lc), .val (.ref b1), .val (.ref b2), .val (.ref b3), .val (.ref b4), .val (.int (1 : Int32))] [(.int (3 : Int32)), (.int (3 : Int32))]))
        refine own_st (fun _ k => XS.icmpNo X32.here hx rfl (hb hby at_142) rfl (flt (by decide : ¬ ((3 : Int32) < (3 : Int32)))).1 k) ?_
        show own_Go p.tables e below F (T32.setTop (mkF m 145 #[.val (.int p0), .val (.int p1), .val (.int p2), .val (.int p3), .val (.int (3 : Int32)), .val (.int la), .val (.int lb), .val (.int lc), .val (.ref b1), .val (.ref b2), .val (.ref b3), .val (.ref b4), .val (.int (1 : Int32))] []))
        refine own_st (fun _ k => XS.aload X32.here hx rfl (hb hby at_145) rfl rfl k) ?_
        show own_Go p.tables e below F (T32.setTop (mkF m 147 #[.val (.int p0), .val (.int p1), .val (.int p2), .val (.int p3), .val (.int (3 : Int32)), .val (.int la), .val (.int lb), .val (.int lc), .val (.ref b1), .val (.ref b2), .val (.ref b3), .val (.ref b4), .val (.int (1 : Int32))] [(.ref b4)]))
        refine own_st (fun _ k => XS.aload X32.here hx rfl (hb hby at_147) rfl rfl k) ?_
        show own_Go p.tables e below F (T32.setTop (mkF m 149 #[.val (.int p0), .val (.int p1), .val (.int p2), .val (.int p3), .val (.int (3 : Int32)), .val (.int la), .val (.int lb), .val (.int lc), .val (.ref b1), .val (.ref b2), .val (.ref b3), .val (.ref b4), .val (.int (1 : Int32))] [(.ref b3), (.ref b4)]))
        by_cases hp2 : (0 : Int32) < lc
        ·
          obtain ⟨cq33, kq33, q33a, q33b, q33c⟩ := isOf hZ e32 TU31.1
          obtain ⟨_, _, ⟨T33, L33, k33, n33⟩, -, X33, ⟨Lc33, hQ33, l33, y33, z33⟩, st33⟩ := X32.virtualBack hx (y := (⟨"com/example/libmerit/libmerit/index/DocnoTable", "add", "([B)V"⟩ : MethodName)) (z := (⟨"com/example/libmerit/libmerit/index/DocnoTable", "add", "([B)V"⟩ : MethodName)) hown (mvT hZ (hw _ (List.mem_of_getElem? (i := 24) rfl))) (mvT hZ (hw _ (List.mem_of_getElem? (i := 25) rfl))) (notFace_of_selects (args := #[]) (mvT hZ (hw _ (List.mem_of_getElem? (i := 27) rfl)))) (mvT hZ (hw _ (List.mem_of_getElem? (i := 27) rfl))) (mvT hZ (hw _ (List.mem_of_getElem? (i := 26) rfl))) (by decide) (backOf (W := 0) (own_addO l Z a0 hw [] b4 pg en b3 kP kE k3 (2 : Int32) (3 : Int32) (la + lb) lc ((la + lb) + lc) [(.int la), (.int (la + lb)), (.int (0 : Int32))] _ qp T31.heap n0 (Nat.le_trans Z0 K0_31.1) (own_bcN l Z a0 hw [] b4 pg en kP kE (2 : Int32) _ _ (la + lb) T31.heap n0 TU31 (by decide) ⟨by decide, by decide⟩ rfl) (own_B2 hA hB) hC V3__31 rfl ⟨by decide, by decide⟩ (by decide) (rfl) gn_b4 gn_pg gn_en ne_b4_en ne_b4_pg npe ne_b3_b4 ne_b3_pg ne_b3_en hp2 TU31 GG31 gn_qp ne_b3_qp ne_b4_qp ne_pg_qp ne_en_qp) hZ (hw _ (List.mem_of_getElem? (i := 28) rfl)) (hw _ (List.mem_of_getElem? (i := 3) rfl)) (by decide) (by decide)) q33a q33c (g := (mkF m 149 #[.val (.int p0), .val (.int p1), .val (.int p2), .val (.int p3), .val (.int (3 : Int32)), .val (.int la), .val (.int lb), .val (.int lc), .val (.ref b1), .val (.ref b2), .val (.ref b3), .val (.ref b4), .val (.int (1 : Int32))] [(.ref b3), (.ref b4)])) rfl (by rw [hml]; rfl) (Steps.refl _) (argsL := [(.ref b3)]) (rest := []) (lenOf pd_3 rfl) rfl (by show 2 * 0 + _ ≤ _; exact Nat.le_of_eq rfl) (hb hby at_149) (fun _ _ => ⟨rfl, e32, (by decide : 7 + 0 ≤ _), (by decide : 65636 + 0 ≤ _)⟩)
          dsimp only [Pt.U, Pt.locs, Pt.cells, Pt.slots] at X33 l33 y33 z33 st33 hQ33
          subst l33 y33 z33
          obtain ⟨rfl, N33q, K33, TT33, GG33⟩ := hQ33
          have N33 := Fr.app N32 N33q
          refine own_st (fun _ k => st33.trans k) ?_
          have V1__33 := V1__31.keep K33 (ninS ne_b1_b4 (ninS ne_b1_en (ninS ne_b1_qp nin0)))
          have V2__33 := V2__31.keep K33 (ninS ne_b2_b4 (ninS ne_b2_en (ninS ne_b2_qp nin0)))
          have V3__33 := V3__31.keep K33 (ninS ne_b3_b4 (ninS ne_b3_en (ninS ne_b3_qp nin0)))
          have K0_33 := own_ext_keep K0_31 K33 (allS sz_b4 (allS sz_en (allS sz_qp all0)))
          have TU33 : own_T Z T33.heap b4 pg en kP kE (3 : Int32) [(.int la), (.int (la + lb)), (.int ((la + lb) + lc))] (.ref qp) := TT33
          show own_Go p.tables e below F (T33.setTop (mkF m 152 #[.val (.int p0), .val (.int p1), .val (.int p2), .val (.int p3), .val (.int (3 : Int32)), .val (.int la), .val (.int lb), .val (.int lc), .val (.ref b1), .val (.ref b2), .val (.ref b3), .val (.ref b4), .val (.int (1 : Int32))] []))
          refine own_st (fun _ k => XS.iload X33.here hx rfl (hb hby at_152) rfl k) ?_
          show own_Go p.tables e below F (T33.setTop (mkF m 154 #[.val (.int p0), .val (.int p1), .val (.int p2), .val (.int p3), .val (.int (3 : Int32)), .val (.int la), .val (.int lb), .val (.int lc), .val (.ref b1), .val (.ref b2), .val (.ref b3), .val (.ref b4), .val (.int (1 : Int32))] [(.int (1 : Int32))]))
          refine own_st (fun _ k => XS.ifNo X33.here hx rfl (hb hby at_154) rfl ((if0 _ _).trans (feq (by decide : ¬ ((1 : Int32) = (0 : Int32)))).1) k) ?_
          show own_Go p.tables e below F (T33.setTop (mkF m 157 #[.val (.int p0), .val (.int p1), .val (.int p2), .val (.int p3), .val (.int (3 : Int32)), .val (.int la), .val (.int lb), .val (.int lc), .val (.ref b1), .val (.ref b2), .val (.ref b3), .val (.ref b4), .val (.int (1 : Int32))] []))
          refine own_st (fun _ k => XS.aload X33.here hx rfl (hb hby at_157) rfl rfl k) ?_
          show own_Go p.tables e below F (T33.setTop (mkF m 159 #[.val (.int p0), .val (.int p1), .val (.int p2), .val (.int p3), .val (.int (3 : Int32)), .val (.int la), .val (.int lb), .val (.int lc), .val (.ref b1), .val (.ref b2), .val (.ref b3), .val (.ref b4), .val (.int (1 : Int32))] [(.ref b4)]))
          obtain ⟨cq34, kq34, q34a, q34b, q34c⟩ := isOf hZ rfl TU33.1
          obtain ⟨_, _, ⟨T34, L34, k34, n34⟩, -, X34, ⟨Lc34, hQ34, l34, y34, z34⟩, st34⟩ := X33.virtualBack hx (y := (⟨"com/example/libmerit/libmerit/index/DocnoTable", "byteCount", "()I"⟩ : MethodName)) (z := (⟨"com/example/libmerit/libmerit/index/DocnoTable", "byteCount", "()I"⟩ : MethodName)) hown (mvT hZ (hw _ (List.mem_of_getElem? (i := 17) rfl))) (mvT hZ (hw _ (List.mem_of_getElem? (i := 18) rfl))) (notFace_of_selects (args := #[]) (mvT hZ (hw _ (List.mem_of_getElem? (i := 20) rfl)))) (mvT hZ (hw _ (List.mem_of_getElem? (i := 20) rfl))) (mvT hZ (hw _ (List.mem_of_getElem? (i := 19) rfl))) (by decide) (backOf (W := 0) (own_bcN l Z a0 hw [] b4 pg en kP kE (3 : Int32) _ _ ((la + lb) + lc) T33.heap n0 TU33 (by decide) ⟨by decide, by decide⟩ rfl) hZ (hw _ (List.mem_of_getElem? (i := 21) rfl)) (hw _ (List.mem_of_getElem? (i := 3) rfl)) (by decide) (by decide)) q34a q34c (g := (mkF m 159 #[.val (.int p0), .val (.int p1), .val (.int p2), .val (.int p3), .val (.int (3 : Int32)), .val (.int la), .val (.int lb), .val (.int lc), .val (.ref b1), .val (.ref b2), .val (.ref b3), .val (.ref b4), .val (.int (1 : Int32))] [(.ref b4)])) rfl (by rw [hml]; rfl) (Steps.refl _) (argsL := []) (rest := []) (lenOf pd_0 rfl) rfl (by show 2 * 0 + _ ≤ _; exact Nat.le_of_eq rfl) (hb hby at_159) (fun _ _ => ⟨rfl, rfl, (by decide : 7 + 0 ≤ _), (by decide : 65636 + 0 ≤ _)⟩)
          dsimp only [Pt.U, Pt.locs, Pt.cells, Pt.slots] at X34 l34 y34 z34 st34 hQ34
          subst l34 y34 z34
          obtain ⟨rfl, N34q, e34⟩ := hQ34
          have N34 := Fr.app N33 N34q
          refine own_st (fun _ k => st34.trans k) ?_
          show own_Go p.tables e below F (T34.setTop (mkF m 162 #[.val (.int p0), .val (.int p1), .val (.int p2), .val (.int p3), .val (.int (3 : Int32)), .val (.int la), .val (.int lb), .val (.int lc), .val (.ref b1), .val (.ref b2), .val (.ref b3), .val (.ref b4), .val (.int (1 : Int32))] [(.int ((la + lb) + lc))]))
          refine own_st (fun _ k => XS.iload X34.here hx rfl (hb hby at_162) rfl k) ?_
          show own_Go p.tables e below F (T34.setTop (mkF m 164 #[.val (.int p0), .val (.int p1), .val (.int p2), .val (.int p3), .val (.int (3 : Int32)), .val (.int la), .val (.int lb), .val (.int lc), .val (.ref b1), .val (.ref b2), .val (.ref b3), .val (.ref b4), .val (.int (1 : Int32))] [(.int la), (.int ((la + lb) + lc))]))
          refine own_st (fun _ k => XS.iload X34.here hx rfl (hb hby at_164) rfl k) ?_
          show own_Go p.tables e below F (T34.setTop (mkF m 166 #[.val (.int p0), .val (.int p1), .val (.int p2), .val (.int p3), .val (.int (3 : Int32)), .val (.int la), .val (.int lb), .val (.int lc), .val (.ref b1), .val (.ref b2), .val (.ref b3), .val (.ref b4), .val (.int (1 : Int32))] [(.int lb), (.int la), (.int ((la + lb) + lc))]))
          refine own_st (fun _ k => XS.iadd X34.here hx rfl (hb hby at_166) rfl k) ?_
          show own_Go p.tables e below F (T34.setTop (mkF m 167 #[.val (.int p0), .val (.int p1), .val (.int p2), .val (.int p3), .val (.int (3 : Int32)), .val (.int la), .val (.int lb), .val (.int lc), .val (.ref b1), .val (.ref b2), .val (.ref b3), .val (.ref b4), .val (.int (1 : Int32))] [(.int (la + lb)), (.int ((la + lb) + lc))]))
          refine own_st (fun _ k => XS.iload X34.here hx rfl (hb hby at_167) rfl k) ?_
          show own_Go p.tables e below F (T34.setTop (mkF m 169 #[.val (.int p0), .val (.int p1), .val (.int p2), .val (.int p3), .val (.int (3 : Int32)), .val (.int la), .val (.int lb), .val (.int lc), .val (.ref b1), .val (.ref b2), .val (.ref b3), .val (.ref b4), .val (.int (1 : Int32))] [(.int lc), (.int (la + lb)), (.int ((la + lb) + lc))]))
          refine own_st (fun _ k => XS.iadd X34.here hx rfl (hb hby at_169) rfl k) ?_
          show own_Go p.tables e below F (T34.setTop (mkF m 170 #[.val (.int p0), .val (.int p1), .val (.int p2), .val (.int p3), .val (.int (3 : Int32)), .val (.int la), .val (.int lb), .val (.int lc), .val (.ref b1), .val (.ref b2), .val (.ref b3), .val (.ref b4), .val (.int (1 : Int32))] [(.int ((la + lb) + lc)), (.int ((la + lb) + lc))]))
          refine own_st (fun _ k => XS.icmpNo X34.here hx rfl (hb hby at_170) rfl (teq (rfl : ((la + lb) + lc) = ((la + lb) + lc))).2 k) ?_
          show own_Go p.tables e below F (T34.setTop (mkF m 173 #[.val (.int p0), .val (.int p1), .val (.int p2), .val (.int p3), .val (.int (3 : Int32)), .val (.int la), .val (.int lb), .val (.int lc), .val (.ref b1), .val (.ref b2), .val (.ref b3), .val (.ref b4), .val (.int (1 : Int32))] []))
          refine own_st (fun _ k => XS.iconst X34.here hx rfl (hb hby at_173) k) ?_
          show own_Go p.tables e below F (T34.setTop (mkF m 174 #[.val (.int p0), .val (.int p1), .val (.int p2), .val (.int p3), .val (.int (3 : Int32)), .val (.int la), .val (.int lb), .val (.int lc), .val (.ref b1), .val (.ref b2), .val (.ref b3), .val (.ref b4), .val (.int (1 : Int32))] [(.int (1 : Int32))]))
          refine own_st (fun _ k => XS.goto X34.here hx rfl (pc0 := 174) (pc' := 178) rfl (hb hby at_174) (by decide) (by decide) k) ?_
          show own_Go p.tables e below F (T34.setTop (mkF m 178 #[.val (.int p0), .val (.int p1), .val (.int p2), .val (.int p3), .val (.int (3 : Int32)), .val (.int la), .val (.int lb), .val (.int lc), .val (.ref b1), .val (.ref b2), .val (.ref b3), .val (.ref b4), .val (.int (1 : Int32))] [(.int (1 : Int32))]))
          refine own_st (fun _ k => XS.istore X34.here hx rfl (hb hby at_178) rfl (l' := #[.val (.int p0), .val (.int p1), .val (.int p2), .val (.int p3), .val (.int (3 : Int32)), .val (.int la), .val (.int lb), .val (.int lc), .val (.ref b1), .val (.ref b2), .val (.ref b3), .val (.ref b4), .val (.int (1 : Int32))]) rfl k) ?_
          show own_Go p.tables e below F (T34.setTop (mkF m 180 #[.val (.int p0), .val (.int p1), .val (.int p2), .val (.int p3), .val (.int (3 : Int32)), .val (.int la), .val (.int lb), .val (.int lc), .val (.ref b1), .val (.ref b2), .val (.ref b3), .val (.ref b4), .val (.int (1 : Int32))] []))
          refine own_st (fun _ k => XS.iload X34.here hx rfl (hb hby at_180) rfl k) ?_
          show own_Go p.tables e below F (T34.setTop (mkF m 182 #[.val (.int p0), .val (.int p1), .val (.int p2), .val (.int p3), .val (.int (3 : Int32)), .val (.int la), .val (.int lb), .val (.int lc), .val (.ref b1), .val (.ref b2), .val (.ref b3), .val (.ref b4), .val (.int (1 : Int32))] [(.int (1 : Int32))]))
          obtain ⟨fs, hrL, hrun, hended, hW, hsame⟩ := X34.leave (v := some (.int (1 : Int32))) (fun h => by rw [Bd.returns] at h; cases h)
          refine own_end hF (o := .returned (some (.int (1 : Int32)))) (retN X34 hx (t := .boolean) Bd.returns (by simp) (hb hby at_182) hrL) ?_
          refine ⟨hrun, hended, _, _, rfl, ?_, ⟨_, rfl⟩, hW, hsame.mono (by decide) (by decide)⟩
          exact ⟨rfl, N34⟩
        ·
          obtain ⟨cq35, kq35, q35a, q35b, q35c⟩ := isOf hZ e32 TU31.1
          obtain ⟨_, _, ⟨T35, L35, k35, n35⟩, -, X35, ⟨Lc35, hQ35, l35, y35, z35⟩, st35⟩ := X32.virtualBack hx (y := (⟨"com/example/libmerit/libmerit/index/DocnoTable", "add", "([B)V"⟩ : MethodName)) (z := (⟨"com/example/libmerit/libmerit/index/DocnoTable", "add", "([B)V"⟩ : MethodName)) hown (mvT hZ (hw _ (List.mem_of_getElem? (i := 24) rfl))) (mvT hZ (hw _ (List.mem_of_getElem? (i := 25) rfl))) (notFace_of_selects (args := #[]) (mvT hZ (hw _ (List.mem_of_getElem? (i := 27) rfl)))) (mvT hZ (hw _ (List.mem_of_getElem? (i := 27) rfl))) (mvT hZ (hw _ (List.mem_of_getElem? (i := 26) rfl))) (by decide) (backOf (W := 0) (own_addZ l Z a0 hw [] b4 pg en b3 kP kE k3 (2 : Int32) (3 : Int32) (la + lb) lc ((la + lb) + lc) [(.int la), (.int (la + lb)), (.int (0 : Int32))] _ (.ref qp) T31.heap n0 (Nat.le_trans Z0 K0_31.1) (own_bcN l Z a0 hw [] b4 pg en kP kE (2 : Int32) _ _ (la + lb) T31.heap n0 TU31 (by decide) ⟨by decide, by decide⟩ rfl) (own_B2 hA hB) hC V3__31 rfl ⟨by decide, by decide⟩ (by decide) (rfl) gn_b4 gn_pg gn_en ne_b4_en ne_b4_pg npe ne_b3_b4 ne_b3_pg ne_b3_en hp2 TU31) hZ (hw _ (List.mem_of_getElem? (i := 28) rfl)) (hw _ (List.mem_of_getElem? (i := 3) rfl)) (by decide) (by decide)) q35a q35c (g := (mkF m 149 #[.val (.int p0), .val (.int p1), .val (.int p2), .val (.int p3), .val (.int (3 : Int32)), .val (.int la), .val (.int lb), .val (.int lc), .val (.ref b1), .val (.ref b2), .val (.ref b3), .val (.ref b4), .val (.int (1 : Int32))] [(.ref b3), (.ref b4)])) rfl (by rw [hml]; rfl) (Steps.refl _) (argsL := [(.ref b3)]) (rest := []) (lenOf pd_3 rfl) rfl (by show 2 * 0 + _ ≤ _; exact Nat.le_of_eq rfl) (hb hby at_149) (fun _ _ => ⟨rfl, e32, (by decide : 7 + 0 ≤ _), (by decide : 65636 + 0 ≤ _)⟩)
          dsimp only [Pt.U, Pt.locs, Pt.cells, Pt.slots] at X35 l35 y35 z35 st35 hQ35
          subst l35 y35 z35
          obtain ⟨rfl, N35q, K35, TT35⟩ := hQ35
          have N35 := Fr.app N32 N35q
          refine own_st (fun _ k => st35.trans k) ?_
          have GG35 := own_Pg_keep GG31 K35 (ninS (Ne.symm ne_b4_qp) (ninS (Ne.symm ne_en_qp) nin0))
          have V1__35 := V1__31.keep K35 (ninS ne_b1_b4 (ninS ne_b1_en nin0))
          have V2__35 := V2__31.keep K35 (ninS ne_b2_b4 (ninS ne_b2_en nin0))
          have V3__35 := V3__31.keep K35 (ninS ne_b3_b4 (ninS ne_b3_en nin0))
          have K0_35 := own_ext_keep K0_31 K35 (allS sz_b4 (allS sz_en all0))
          have TU35 : own_T Z T35.heap b4 pg en kP kE (3 : Int32) [(.int la), (.int (la + lb)), (.int ((la + lb) + lc))] (.ref qp) := TT35
          show own_Go p.tables e below F (T35.setTop (mkF m 152 #[.val (.int p0), .val (.int p1), .val (.int p2), .val (.int p3), .val (.int (3 : Int32)), .val (.int la), .val (.int lb), .val (.int lc), .val (.ref b1), .val (.ref b2), .val (.ref b3), .val (.ref b4), .val (.int (1 : Int32))] []))
          refine own_st (fun _ k => XS.iload X35.here hx rfl (hb hby at_152) rfl k) ?_
          show own_Go p.tables e below F (T35.setTop (mkF m 154 #[.val (.int p0), .val (.int p1), .val (.int p2), .val (.int p3), .val (.int (3 : Int32)), .val (.int la), .val (.int lb), .val (.int lc), .val (.ref b1), .val (.ref b2), .val (.ref b3), .val (.ref b4), .val (.int (1 : Int32))] [(.int (1 : Int32))]))
          refine own_st (fun _ k => XS.ifNo X35.here hx rfl (hb hby at_154) rfl ((if0 _ _).trans (feq (by decide : ¬ ((1 : Int32) = (0 : Int32)))).1) k) ?_
          show own_Go p.tables e below F (T35.setTop (mkF m 157 #[.val (.int p0), .val (.int p1), .val (.int p2), .val (.int p3), .val (.int (3 : Int32)), .val (.int la), .val (.int lb), .val (.int lc), .val (.ref b1), .val (.ref b2), .val (.ref b3), .val (.ref b4), .val (.int (1 : Int32))] []))
          refine own_st (fun _ k => XS.aload X35.here hx rfl (hb hby at_157) rfl rfl k) ?_
          show own_Go p.tables e below F (T35.setTop (mkF m 159 #[.val (.int p0), .val (.int p1), .val (.int p2), .val (.int p3), .val (.int (3 : Int32)), .val (.int la), .val (.int lb), .val (.int lc), .val (.ref b1), .val (.ref b2), .val (.ref b3), .val (.ref b4), .val (.int (1 : Int32))] [(.ref b4)]))
          obtain ⟨cq36, kq36, q36a, q36b, q36c⟩ := isOf hZ rfl TU35.1
          obtain ⟨_, _, ⟨T36, L36, k36, n36⟩, -, X36, ⟨Lc36, hQ36, l36, y36, z36⟩, st36⟩ := X35.virtualBack hx (y := (⟨"com/example/libmerit/libmerit/index/DocnoTable", "byteCount", "()I"⟩ : MethodName)) (z := (⟨"com/example/libmerit/libmerit/index/DocnoTable", "byteCount", "()I"⟩ : MethodName)) hown (mvT hZ (hw _ (List.mem_of_getElem? (i := 17) rfl))) (mvT hZ (hw _ (List.mem_of_getElem? (i := 18) rfl))) (notFace_of_selects (args := #[]) (mvT hZ (hw _ (List.mem_of_getElem? (i := 20) rfl)))) (mvT hZ (hw _ (List.mem_of_getElem? (i := 20) rfl))) (mvT hZ (hw _ (List.mem_of_getElem? (i := 19) rfl))) (by decide) (backOf (W := 0) (own_bcN l Z a0 hw [] b4 pg en kP kE (3 : Int32) _ _ ((la + lb) + lc) T35.heap n0 TU35 (by decide) ⟨by decide, by decide⟩ rfl) hZ (hw _ (List.mem_of_getElem? (i := 21) rfl)) (hw _ (List.mem_of_getElem? (i := 3) rfl)) (by decide) (by decide)) q36a q36c (g := (mkF m 159 #[.val (.int p0), .val (.int p1), .val (.int p2), .val (.int p3), .val (.int (3 : Int32)), .val (.int la), .val (.int lb), .val (.int lc), .val (.ref b1), .val (.ref b2), .val (.ref b3), .val (.ref b4), .val (.int (1 : Int32))] [(.ref b4)])) rfl (by rw [hml]; rfl) (Steps.refl _) (argsL := []) (rest := []) (lenOf pd_0 rfl) rfl (by show 2 * 0 + _ ≤ _; exact Nat.le_of_eq rfl) (hb hby at_159) (fun _ _ => ⟨rfl, rfl, (by decide : 7 + 0 ≤ _), (by decide : 65636 + 0 ≤ _)⟩)
          dsimp only [Pt.U, Pt.locs, Pt.cells, Pt.slots] at X36 l36 y36 z36 st36 hQ36
          subst l36 y36 z36
          obtain ⟨rfl, N36q, e36⟩ := hQ36
          have N36 := Fr.app N35 N36q
          refine own_st (fun _ k => st36.trans k) ?_
          show own_Go p.tables e below F (T36.setTop (mkF m 162 #[.val (.int p0), .val (.int p1), .val (.int p2), .val (.int p3), .val (.int (3 : Int32)), .val (.int la), .val (.int lb), .val (.int lc), .val (.ref b1), .val (.ref b2), .val (.ref b3), .val (.ref b4), .val (.int (1 : Int32))] [(.int ((la + lb) + lc))]))
          refine own_st (fun _ k => XS.iload X36.here hx rfl (hb hby at_162) rfl k) ?_
          show own_Go p.tables e below F (T36.setTop (mkF m 164 #[.val (.int p0), .val (.int p1), .val (.int p2), .val (.int p3), .val (.int (3 : Int32)), .val (.int la), .val (.int lb), .val (.int lc), .val (.ref b1), .val (.ref b2), .val (.ref b3), .val (.ref b4), .val (.int (1 : Int32))] [(.int la), (.int ((la + lb) + lc))]))
          refine own_st (fun _ k => XS.iload X36.here hx rfl (hb hby at_164) rfl k) ?_
          show own_Go p.tables e below F (T36.setTop (mkF m 166 #[.val (.int p0), .val (.int p1), .val (.int p2), .val (.int p3), .val (.int (3 : Int32)), .val (.int la), .val (.int lb), .val (.int lc), .val (.ref b1), .val (.ref b2), .val (.ref b3), .val (.ref b4), .val (.int (1 : Int32))] [(.int lb), (.int la), (.int ((la + lb) + lc))]))
          refine own_st (fun _ k => XS.iadd X36.here hx rfl (hb hby at_166) rfl k) ?_
          show own_Go p.tables e below F (T36.setTop (mkF m 167 #[.val (.int p0), .val (.int p1), .val (.int p2), .val (.int p3), .val (.int (3 : Int32)), .val (.int la), .val (.int lb), .val (.int lc), .val (.ref b1), .val (.ref b2), .val (.ref b3), .val (.ref b4), .val (.int (1 : Int32))] [(.int (la + lb)), (.int ((la + lb) + lc))]))
          refine own_st (fun _ k => XS.iload X36.here hx rfl (hb hby at_167) rfl k) ?_
          show own_Go p.tables e below F (T36.setTop (mkF m 169 #[.val (.int p0), .val (.int p1), .val (.int p2), .val (.int p3), .val (.int (3 : Int32)), .val (.int la), .val (.int lb), .val (.int lc), .val (.ref b1), .val (.ref b2), .val (.ref b3), .val (.ref b4), .val (.int (1 : Int32))] [(.int lc), (.int (la + lb)), (.int ((la + lb) + lc))]))
          refine own_st (fun _ k => XS.iadd X36.here hx rfl (hb hby at_169) rfl k) ?_
          show own_Go p.tables e below F (T36.setTop (mkF m 170 #[.val (.int p0), .val (.int p1), .val (.int p2), .val (.int p3), .val (.int (3 : Int32)), .val (.int la), .val (.int lb), .val (.int lc), .val (.ref b1), .val (.ref b2), .val (.ref b3), .val (.ref b4), .val (.int (1 : Int32))] [(.int ((la + lb) + lc)), (.int ((la + lb) + lc))]))
          refine own_st (fun _ k => XS.icmpNo X36.here hx rfl (hb hby at_170) rfl (teq (rfl : ((la + lb) + lc) = ((la + lb) + lc))).2 k) ?_
          show own_Go p.tables e below F (T36.setTop (mkF m 173 #[.val (.int p0), .val (.int p1), .val (.int p2), .val (.int p3), .val (.int (3 : Int32)), .val (.int la), .val (.int lb), .val (.int lc), .val (.ref b1), .val (.ref b2), .val (.ref b3), .val (.ref b4), .val (.int (1 : Int32))] []))
          refine own_st (fun _ k => XS.iconst X36.here hx rfl (hb hby at_173) k) ?_
          show own_Go p.tables e below F (T36.setTop (mkF m 174 #[.val (.int p0), .val (.int p1), .val (.int p2), .val (.int p3), .val (.int (3 : Int32)), .val (.int la), .val (.int lb), .val (.int lc), .val (.ref b1), .val (.ref b2), .val (.ref b3), .val (.ref b4), .val (.int (1 : Int32))] [(.int (1 : Int32))]))
          refine own_st (fun _ k => XS.goto X36.here hx rfl (pc0 := 174) (pc' := 178) rfl (hb hby at_174) (by decide) (by decide) k) ?_
          show own_Go p.tables e below F (T36.setTop (mkF m 178 #[.val (.int p0), .val (.int p1), .val (.int p2), .val (.int p3), .val (.int (3 : Int32)), .val (.int la), .val (.int lb), .val (.int lc), .val (.ref b1), .val (.ref b2), .val (.ref b3), .val (.ref b4), .val (.int (1 : Int32))] [(.int (1 : Int32))]))
          refine own_st (fun _ k => XS.istore X36.here hx rfl (hb hby at_178) rfl (l' := #[.val (.int p0), .val (.int p1), .val (.int p2), .val (.int p3), .val (.int (3 : Int32)), .val (.int la), .val (.int lb), .val (.int lc), .val (.ref b1), .val (.ref b2), .val (.ref b3), .val (.ref b4), .val (.int (1 : Int32))]) rfl k) ?_
          show own_Go p.tables e below F (T36.setTop (mkF m 180 #[.val (.int p0), .val (.int p1), .val (.int p2), .val (.int p3), .val (.int (3 : Int32)), .val (.int la), .val (.int lb), .val (.int lc), .val (.ref b1), .val (.ref b2), .val (.ref b3), .val (.ref b4), .val (.int (1 : Int32))] []))
          refine own_st (fun _ k => XS.iload X36.here hx rfl (hb hby at_180) rfl k) ?_
          show own_Go p.tables e below F (T36.setTop (mkF m 182 #[.val (.int p0), .val (.int p1), .val (.int p2), .val (.int p3), .val (.int (3 : Int32)), .val (.int la), .val (.int lb), .val (.int lc), .val (.ref b1), .val (.ref b2), .val (.ref b3), .val (.ref b4), .val (.int (1 : Int32))] [(.int (1 : Int32))]))
          obtain ⟨fs, hrL, hrun, hended, hW, hsame⟩ := X36.leave (v := some (.int (1 : Int32))) (fun h => by rw [Bd.returns] at h; cases h)
          refine own_end hF (o := .returned (some (.int (1 : Int32)))) (retN X36 hx (t := .boolean) Bd.returns (by simp) (hb hby at_182) hrL) ?_
          refine ⟨hrun, hended, _, _, rfl, ?_, ⟨_, rfl⟩, hW, hsame.mono (by decide) (by decide)⟩
          exact ⟨rfl, N36⟩
    ·
      obtain ⟨cq37, kq37, q37a, q37b, q37c⟩ := isOf hZ e6 TT5.1
      obtain ⟨_, _, ⟨T37, L37, k37, n37⟩, -, X37, ⟨Lc37, hQ37, l37, y37, z37⟩, st37⟩ := X6.virtualBack hx (y := (⟨"com/example/libmerit/libmerit/index/DocnoTable", "add", "([B)V"⟩ : MethodName)) (z := (⟨"com/example/libmerit/libmerit/index/DocnoTable", "add", "([B)V"⟩ : MethodName)) hown (mvT hZ (hw _ (List.mem_of_getElem? (i := 24) rfl))) (mvT hZ (hw _ (List.mem_of_getElem? (i := 25) rfl))) (notFace_of_selects (args := #[]) (mvT hZ (hw _ (List.mem_of_getElem? (i := 27) rfl)))) (mvT hZ (hw _ (List.mem_of_getElem? (i := 27) rfl))) (mvT hZ (hw _ (List.mem_of_getElem? (i := 26) rfl))) (by decide) (backOf (W := 0) (own_addZ l Z a0 hw [] b4 pg en b1 kP kE k1 (0 : Int32) (1 : Int32) (0 : Int32) la la [(.int (0 : Int32)), (.int (0 : Int32)), (.int (0 : Int32))] _ .null T5.heap n0 (Nat.le_trans Z0 K0_5.1) (own_bc0 l Z a0 hw [] b4 pg en kP kE _ _ T5.heap n0 TT5) own_B0 hA V1__5 rfl ⟨by decide, by decide⟩ (by decide) ((Int32.zero_add la).symm) gn_b4 gn_pg gn_en ne_b4_en ne_b4_pg npe ne_b1_b4 ne_b1_pg ne_b1_en hp0 TT5) hZ (hw _ (List.mem_of_getElem? (i := 28) rfl)) (hw _ (List.mem_of_getElem? (i := 3) rfl)) (by decide) (by decide)) q37a q37c (g := (mkF m 76 #[.val (.int p0), .val (.int p1), .val (.int p2), .val (.int p3), .val (.int (3 : Int32)), .val (.int la), .val (.int lb), .val (.int lc), .val (.ref b1), .val (.ref b2), .val (.ref b3), .val (.ref b4), .val (.int (1 : Int32))] [(.ref b1), (.ref b4)])) rfl (by rw [hml]; rfl) (Steps.refl _) (argsL := [(.ref b1)]) (rest := []) (lenOf pd_3 rfl) rfl (by show 2 * 0 + _ ≤ _; exact Nat.le_of_eq rfl) (hb hby at_76) (fun _ _ => ⟨rfl, e6, (by decide : 6 + 0 ≤ _), (by decide : 100 + 0 ≤ _)⟩)
      dsimp only [Pt.U, Pt.locs, Pt.cells, Pt.slots] at X37 l37 y37 z37 st37 hQ37
      subst l37 y37 z37
      obtain ⟨rfl, N37q, K37, TT37⟩ := hQ37
      have N37 := Fr.app N6 N37q
      refine own_st (fun _ k => st37.trans k) ?_
      have V1__37 := V1__5.keep K37 (ninS ne_b1_b4 (ninS ne_b1_en nin0))
      have V2__37 := V2__5.keep K37 (ninS ne_b2_b4 (ninS ne_b2_en nin0))
      have V3__37 := V3__5.keep K37 (ninS ne_b3_b4 (ninS ne_b3_en nin0))
      have K0_37 := own_ext_keep K0_5 K37 (allS sz_b4 (allS sz_en all0))
      have TU37 : own_T Z T37.heap b4 pg en kP kE (1 : Int32) [(.int la), (.int (0 : Int32)), (.int (0 : Int32))] .null := TT37
      show own_Go p.tables e below F (T37.setTop (mkF m 79 #[.val (.int p0), .val (.int p1), .val (.int p2), .val (.int p3), .val (.int (3 : Int32)), .val (.int la), .val (.int lb), .val (.int lc), .val (.ref b1), .val (.ref b2), .val (.ref b3), .val (.ref b4), .val (.int (1 : Int32))] []))
      refine own_st (fun _ k => XS.iload X37.here hx rfl (hb hby at_79) rfl k) ?_
      show own_Go p.tables e below F (T37.setTop (mkF m 81 #[.val (.int p0), .val (.int p1), .val (.int p2), .val (.int p3), .val (.int (3 : Int32)), .val (.int la), .val (.int lb), .val (.int lc), .val (.ref b1), .val (.ref b2), .val (.ref b3), .val (.ref b4), .val (.int (1 : Int32))] [(.int (1 : Int32))]))
      refine own_st (fun _ k => XS.ifNo X37.here hx rfl (hb hby at_81) rfl ((if0 _ _).trans (feq (by decide : ¬ ((1 : Int32) = (0 : Int32)))).1) k) ?_
      show own_Go p.tables e below F (T37.setTop (mkF m 84 #[.val (.int p0), .val (.int p1), .val (.int p2), .val (.int p3), .val (.int (3 : Int32)), .val (.int la), .val (.int lb), .val (.int lc), .val (.ref b1), .val (.ref b2), .val (.ref b3), .val (.ref b4), .val (.int (1 : Int32))] []))
      refine own_st (fun _ k => XS.aload X37.here hx rfl (hb hby at_84) rfl rfl k) ?_
      show own_Go p.tables e below F (T37.setTop (mkF m 86 #[.val (.int p0), .val (.int p1), .val (.int p2), .val (.int p3), .val (.int (3 : Int32)), .val (.int la), .val (.int lb), .val (.int lc), .val (.ref b1), .val (.ref b2), .val (.ref b3), .val (.ref b4), .val (.int (1 : Int32))] [(.ref b4)]))
      obtain ⟨cq38, kq38, q38a, q38b, q38c⟩ := isOf hZ rfl TU37.1
      obtain ⟨_, _, ⟨T38, L38, k38, n38⟩, -, X38, ⟨Lc38, hQ38, l38, y38, z38⟩, st38⟩ := X37.virtualBack hx (y := (⟨"com/example/libmerit/libmerit/index/DocnoTable", "byteCount", "()I"⟩ : MethodName)) (z := (⟨"com/example/libmerit/libmerit/index/DocnoTable", "byteCount", "()I"⟩ : MethodName)) hown (mvT hZ (hw _ (List.mem_of_getElem? (i := 17) rfl))) (mvT hZ (hw _ (List.mem_of_getElem? (i := 18) rfl))) (notFace_of_selects (args := #[]) (mvT hZ (hw _ (List.mem_of_getElem? (i := 20) rfl)))) (mvT hZ (hw _ (List.mem_of_getElem? (i := 20) rfl))) (mvT hZ (hw _ (List.mem_of_getElem? (i := 19) rfl))) (by decide) (backOf (W := 0) (own_bcN l Z a0 hw [] b4 pg en kP kE (1 : Int32) _ _ la T37.heap n0 TU37 (by decide) ⟨by decide, by decide⟩ rfl) hZ (hw _ (List.mem_of_getElem? (i := 21) rfl)) (hw _ (List.mem_of_getElem? (i := 3) rfl)) (by decide) (by decide)) q38a q38c (g := (mkF m 86 #[.val (.int p0), .val (.int p1), .val (.int p2), .val (.int p3), .val (.int (3 : Int32)), .val (.int la), .val (.int lb), .val (.int lc), .val (.ref b1), .val (.ref b2), .val (.ref b3), .val (.ref b4), .val (.int (1 : Int32))] [(.ref b4)])) rfl (by rw [hml]; rfl) (Steps.refl _) (argsL := []) (rest := []) (lenOf pd_0 rfl) rfl (by show 2 * 0 + _ ≤ _; exact Nat.le_of_eq rfl) (hb hby at_86) (fun _ _ => ⟨rfl, rfl, (by decide : 6 + 0 ≤ _), (by decide : 100 + 0 ≤ _)⟩)
      dsimp only [Pt.U, Pt.locs, Pt.cells, Pt.slots] at X38 l38 y38 z38 st38 hQ38
      subst l38 y38 z38
      obtain ⟨rfl, N38q, e38⟩ := hQ38
      have N38 := Fr.app N37 N38q
      refine own_st (fun _ k => st38.trans k) ?_
      show own_Go p.tables e below F (T38.setTop (mkF m 89 #[.val (.int p0), .val (.int p1), .val (.int p2), .val (.int p3), .val (.int (3 : Int32)), .val (.int la), .val (.int lb), .val (.int lc), .val (.ref b1), .val (.ref b2), .val (.ref b3), .val (.ref b4), .val (.int (1 : Int32))] [(.int la)]))
      refine own_st (fun _ k => XS.iload X38.here hx rfl (hb hby at_89) rfl k) ?_
      show own_Go p.tables e below F (T38.setTop (mkF m 91 #[.val (.int p0), .val (.int p1), .val (.int p2), .val (.int p3), .val (.int (3 : Int32)), .val (.int la), .val (.int lb), .val (.int lc), .val (.ref b1), .val (.ref b2), .val (.ref b3), .val (.ref b4), .val (.int (1 : Int32))] [(.int la), (.int la)]))
      refine own_st (fun _ k => XS.icmpNo X38.here hx rfl (hb hby at_91) rfl (teq (rfl : la = la)).2 k) ?_
      show own_Go p.tables e below F (T38.setTop (mkF m 94 #[.val (.int p0), .val (.int p1), .val (.int p2), .val (.int p3), .val (.int (3 : Int32)), .val (.int la), .val (.int lb), .val (.int lc), .val (.ref b1), .val (.ref b2), .val (.ref b3), .val (.ref b4), .val (.int (1 : Int32))] []))
      refine own_st (fun _ k => XS.iconst X38.here hx rfl (hb hby at_94) k) ?_
      show own_Go p.tables e below F (T38.setTop (mkF m 95 #[.val (.int p0), .val (.int p1), .val (.int p2), .val (.int p3), .val (.int (3 : Int32)), .val (.int la), .val (.int lb), .val (.int lc), .val (.ref b1), .val (.ref b2), .val (.ref b3), .val (.ref b4), .val (.int (1 : Int32))] [(.int (1 : Int32))]))
      refine own_st (fun _ k => XS.goto X38.here hx rfl (pc0 := 95) (pc' := 99) rfl (hb hby at_95) (by decide) (by decide) k) ?_
      show own_Go p.tables e below F (T38.setTop (mkF m 99 #[.val (.int p0), .val (.int p1), .val (.int p2), .val (.int p3), .val (.int (3 : Int32)), .val (.int la), .val (.int lb), .val (.int lc), .val (.ref b1), .val (.ref b2), .val (.ref b3), .val (.ref b4), .val (.int (1 : Int32))] [(.int (1 : Int32))]))
      refine own_st (fun _ k => XS.istore X38.here hx rfl (hb hby at_99) rfl (l' := #[.val (.int p0), .val (.int p1), .val (.int p2), .val (.int p3), .val (.int (3 : Int32)), .val (.int la), .val (.int lb), .val (.int lc), .val (.ref b1), .val (.ref b2), .val (.ref b3), .val (.ref b4), .val (.int (1 : Int32))]) rfl k) ?_
      show own_Go p.tables e below F (T38.setTop (mkF m 101 #[.val (.int p0), .val (.int p1), .val (.int p2), .val (.int p3), .val (.int (3 : Int32)), .val (.int la), .val (.int lb), .val (.int lc), .val (.ref b1), .val (.ref b2), .val (.ref b3), .val (.ref b4), .val (.int (1 : Int32))] []))
      refine own_st (fun _ k => XS.iload X38.here hx rfl (hb hby at_101) rfl k) ?_
      show own_Go p.tables e below F (T38.setTop (mkF m 103 #[.val (.int p0), .val (.int p1), .val (.int p2), .val (.int p3), .val (.int (3 : Int32)), .val (.int la), .val (.int lb), .val (.int lc), .val (.ref b1), .val (.ref b2), .val (.ref b3), .val (.ref b4), .val (.int (1 : Int32))] [(.int (3 : Int32))]))
      refine own_st (fun _ k => XS.iconst X38.here hx rfl (hb hby at_103) k) ?_
      show own_Go p.tables e below F (T38.setTop (mkF m 104 #[.val (.int p0), .val (.int p1), .val (.int p2), .val (.int p3), .val (.int (3 : Int32)), .val (.int la), .val (.int lb), .val (.int lc), .val (.ref b1), .val (.ref b2), .val (.ref b3), .val (.ref b4), .val (.int (1 : Int32))] [(.int (2 : Int32)), (.int (3 : Int32))]))
      refine own_st (fun _ k => XS.icmpNo X38.here hx rfl (hb hby at_104) rfl (flt (by decide : ¬ ((3 : Int32) < (2 : Int32)))).1 k) ?_
      show own_Go p.tables e below F (T38.setTop (mkF m 107 #[.val (.int p0), .val (.int p1), .val (.int p2), .val (.int p3), .val (.int (3 : Int32)), .val (.int la), .val (.int lb), .val (.int lc), .val (.ref b1), .val (.ref b2), .val (.ref b3), .val (.ref b4), .val (.int (1 : Int32))] []))
      refine own_st (fun _ k => XS.aload X38.here hx rfl (hb hby at_107) rfl rfl k) ?_
      show own_Go p.tables e below F (T38.setTop (mkF m 109 #[.val (.int p0), .val (.int p1), .val (.int p2), .val (.int p3), .val (.int (3 : Int32)), .val (.int la), .val (.int lb), .val (.int lc), .val (.ref b1), .val (.ref b2), .val (.ref b3), .val (.ref b4), .val (.int (1 : Int32))] [(.ref b4)]))
      refine own_st (fun _ k => XS.aload X38.here hx rfl (hb hby at_109) rfl rfl k) ?_
      show own_Go p.tables e below F (T38.setTop (mkF m 111 #[.val (.int p0), .val (.int p1), .val (.int p2), .val (.int p3), .val (.int (3 : Int32)), .val (.int la), .val (.int lb), .val (.int lc), .val (.ref b1), .val (.ref b2), .val (.ref b3), .val (.ref b4), .val (.int (1 : Int32))] [(.ref b2), (.ref b4)]))
      by_cases hp1 : (0 : Int32) < lb
      ·
        obtain ⟨cq39, kq39, q39a, q39b, q39c⟩ := isOf hZ e38 TU37.1
        obtain ⟨_, _, ⟨T39, L39, k39, n39⟩, -, X39, ⟨Lc39, hQ39, l39, y39, z39⟩, st39⟩ := X38.virtualBack hx (y := (⟨"com/example/libmerit/libmerit/index/DocnoTable", "add", "([B)V"⟩ : MethodName)) (z := (⟨"com/example/libmerit/libmerit/index/DocnoTable", "add", "([B)V"⟩ : MethodName)) hown (mvT hZ (hw _ (List.mem_of_getElem? (i := 24) rfl))) (mvT hZ (hw _ (List.mem_of_getElem? (i := 25) rfl))) (notFace_of_selects (args := #[]) (mvT hZ (hw _ (List.mem_of_getElem? (i := 27) rfl)))) (mvT hZ (hw _ (List.mem_of_getElem? (i := 27) rfl))) (mvT hZ (hw _ (List.mem_of_getElem? (i := 26) rfl))) (by decide) (backOf (W := 0) (own_addM l Z a0 hw [] b4 pg en b2 kP kE k2 (1 : Int32) (2 : Int32) la lb (la + lb) [(.int la), (.int (0 : Int32)), (.int (0 : Int32))] _ T37.heap n0 (Nat.le_trans Z0 K0_37.1) (own_bcN l Z a0 hw [] b4 pg en kP kE (1 : Int32) _ _ la T37.heap n0 TU37 (by decide) ⟨by decide, by decide⟩ rfl) (own_B1 hA) hB V2__37 rfl ⟨by decide, by decide⟩ (by decide) (rfl) gn_b4 gn_pg gn_en ne_b4_en ne_b4_pg npe ne_b2_b4 ne_b2_pg ne_b2_en hp1 TU37) hZ (hw _ (List.mem_of_getElem? (i := 28) rfl)) (hw _ (List.mem_of_getElem? (i := 3) rfl)) (by decide) (by decide)) q39a q39c (g := (mkF m 111 #[.val (.int p0), .val (.int p1), .val (.int p2), .val (.int p3), .val (.int (3 : Int32)), .val (.int la), .val (.int lb), .val (.int lc), .val (.ref b1), .val (.ref b2), .val (.ref b3), .val (.ref b4), .val (.int (1 : Int32))] [(.ref b2), (.ref b4)])) rfl (by rw [hml]; rfl) (Steps.refl _) (argsL := [(.ref b2)]) (rest := []) (lenOf pd_3 rfl) rfl (by show 2 * 0 + _ ≤ _; exact Nat.le_of_eq rfl) (hb hby at_111) (fun _ _ => ⟨rfl, e38, (by decide : 6 + 1 ≤ _), (by decide : 100 + 65536 ≤ _)⟩)
        dsimp only [Pt.U, Pt.locs, Pt.cells, Pt.slots] at X39 l39 y39 z39 st39 hQ39
        subst l39 y39 z39
        obtain ⟨qp, rfl, N39q, K39, hqp, TT39, GG39⟩ := hQ39
        have N39 := Fr.app N38 N39q
        refine own_st (fun _ k => st39.trans k) ?_
        have ne_b1_qp : b1 ≠ qp := Nat.ne_of_lt (Nat.lt_of_lt_of_le V1__37.lt hqp)
        have ne_b2_qp : b2 ≠ qp := Nat.ne_of_lt (Nat.lt_of_lt_of_le V2__37.lt hqp)
        have ne_b3_qp : b3 ≠ qp := Nat.ne_of_lt (Nat.lt_of_lt_of_le V3__37.lt hqp)
        have ne_b4_qp : b4 ≠ qp := Nat.ne_of_lt (Nat.lt_of_lt_of_le TU37.1.lt hqp)
        have ne_pg_qp : pg ≠ qp := Nat.ne_of_lt (Nat.lt_of_lt_of_le TU37.2.2.2.2.1.lt hqp)
        have ne_en_qp : en ≠ qp := Nat.ne_of_lt (Nat.lt_of_lt_of_le TU37.2.2.2.2.2.1.lt hqp)
        have sz_qp : h0.size ≤ qp := Nat.le_trans K0_37.1 hqp
        have gn_qp : n0 ≤ qp := Nat.le_trans Z0 sz_qp
        have V1__39 := V1__37.keep K39 (ninS ne_b1_b4 (ninS ne_b1_pg (ninS ne_b1_en nin0)))
        have V2__39 := V2__37.keep K39 (ninS ne_b2_b4 (ninS ne_b2_pg (ninS ne_b2_en nin0)))
        have V3__39 := V3__37.keep K39 (ninS ne_b3_b4 (ninS ne_b3_pg (ninS ne_b3_en nin0)))
        have K0_39 := own_ext_keep K0_37 K39 (allS sz_b4 (allS sz_pg (allS sz_en all0)))
        have TU39 : own_T Z T39.heap b4 pg en kP kE (2 : Int32) [(.int la), (.int (la + lb)), (.int (0 : Int32))] (.ref qp) := TT39
        show own_Go p.tables e below F (T39.setTop (mkF m 114 #[.val (.int p0), .val (.int p1), .val (.int p2), .val (.int p3), .val (.int (3 : Int32)), .val (.int la), .val (.int lb), .val (.int lc), .val (.ref b1), .val (.ref b2), .val (.ref b3), .val (.ref b4), .val (.int (1 : Int32))] []))
        refine own_st (fun _ k => XS.iload X39.here hx rfl (hb hby at_114) rfl k) ?_
        show own_Go p.tables e below F (T39.setTop (mkF m 116 #[.val (.int p0), .val (.int p1), .val (.int p2), .val (.int p3), .val (.int (3 : Int32)), .val (.int la), .val (.int lb), .val (.int lc), .val (.ref b1), .val (.ref b2), .val (.ref b3), .val (.ref b4), .val (.int (1 : Int32))] [(.int (1 : Int32))]))
        refine own_st (fun _ k => XS.ifNo X39.here hx rfl (hb hby at_116) rfl ((if0 _ _).trans (feq (by decide : ¬ ((1 : Int32) = (0 : Int32)))).1) k) ?_
        show own_Go p.tables e below F (T39.setTop (mkF m 119 #[.val (.int p0), .val (.int p1), .val (.int p2), .val (.int p3), .val (.int (3 : Int32)), .val (.int la), .val (.int lb), .val (.int lc), .val (.ref b1), .val (.ref b2), .val (.ref b3), .val (.ref b4), .val (.int (1 : Int32))] []))
        refine own_st (fun _ k => XS.aload X39.here hx rfl (hb hby at_119) rfl rfl k) ?_
        show own_Go p.tables e below F (T39.setTop (mkF m 121 #[.val (.int p0), .val (.int p1), .val (.int p2), .val (.int p3), .val (.int (3 : Int32)), .val (.int la), .val (.int lb), .val (.int lc), .val (.ref b1), .val (.ref b2), .val (.ref b3), .val (.ref b4), .val (.int (1 : Int32))] [(.ref b4)]))
        obtain ⟨cq40, kq40, q40a, q40b, q40c⟩ := isOf hZ rfl TU39.1
        obtain ⟨_, _, ⟨T40, L40, k40, n40⟩, -, X40, ⟨Lc40, hQ40, l40, y40, z40⟩, st40⟩ := X39.virtualBack hx (y := (⟨"com/example/libmerit/libmerit/index/DocnoTable", "byteCount", "()I"⟩ : MethodName)) (z := (⟨"com/example/libmerit/libmerit/index/DocnoTable", "byteCount", "()I"⟩ : MethodName)) hown (mvT hZ (hw _ (List.mem_of_getElem? (i := 17) rfl))) (mvT hZ (hw _ (List.mem_of_getElem? (i := 18) rfl))) (notFace_of_selects (args := #[]) (mvT hZ (hw _ (List.mem_of_getElem? (i := 20) rfl)))) (mvT hZ (hw _ (List.mem_of_getElem? (i := 20) rfl))) (mvT hZ (hw _ (List.mem_of_getElem? (i := 19) rfl))) (by decide) (backOf (W := 0) (own_bcN l Z a0 hw [] b4 pg en kP kE (2 : Int32) _ _ (la + lb) T39.heap n0 TU39 (by decide) ⟨by decide, by decide⟩ rfl) hZ (hw _ (List.mem_of_getElem? (i := 21) rfl)) (hw _ (List.mem_of_getElem? (i := 3) rfl)) (by decide) (by decide)) q40a q40c (g := (mkF m 121 #[.val (.int p0), .val (.int p1), .val (.int p2), .val (.int p3), .val (.int (3 : Int32)), .val (.int la), .val (.int lb), .val (.int lc), .val (.ref b1), .val (.ref b2), .val (.ref b3), .val (.ref b4), .val (.int (1 : Int32))] [(.ref b4)])) rfl (by rw [hml]; rfl) (Steps.refl _) (argsL := []) (rest := []) (lenOf pd_0 rfl) rfl (by show 2 * 0 + _ ≤ _; exact Nat.le_of_eq rfl) (hb hby at_121) (fun _ _ => ⟨rfl, rfl, (by decide : 7 + 0 ≤ _), (by decide : 65636 + 0 ≤ _)⟩)
        dsimp only [Pt.U, Pt.locs, Pt.cells, Pt.slots] at X40 l40 y40 z40 st40 hQ40
        subst l40 y40 z40
        obtain ⟨rfl, N40q, e40⟩ := hQ40
        have N40 := Fr.app N39 N40q
        refine own_st (fun _ k => st40.trans k) ?_
        show own_Go p.tables e below F (T40.setTop (mkF m 124 #[.val (.int p0), .val (.int p1), .val (.int p2), .val (.int p3), .val (.int (3 : Int32)), .val (.int la), .val (.int lb), .val (.int lc), .val (.ref b1), .val (.ref b2), .val (.ref b3), .val (.ref b4), .val (.int (1 : Int32))] [(.int (la + lb))]))
        refine own_st (fun _ k => XS.iload X40.here hx rfl (hb hby at_124) rfl k) ?_
        show own_Go p.tables e below F (T40.setTop (mkF m 126 #[.val (.int p0), .val (.int p1), .val (.int p2), .val (.int p3), .val (.int (3 : Int32)), .val (.int la), .val (.int lb), .val (.int lc), .val (.ref b1), .val (.ref b2), .val (.ref b3), .val (.ref b4), .val (.int (1 : Int32))] [(.int la), (.int (la + lb))]))
        refine own_st (fun _ k => XS.iload X40.here hx rfl (hb hby at_126) rfl k) ?_
        show own_Go p.tables e below F (T40.setTop (mkF m 128 #[.val (.int p0), .val (.int p1), .val (.int p2), .val (.int p3), .val (.int (3 : Int32)), .val (.int la), .val (.int lb), .val (.int lc), .val (.ref b1), .val (.ref b2), .val (.ref b3), .val (.ref b4), .val (.int (1 : Int32))] [(.int lb), (.int la), (.int (la + lb))]))
        refine own_st (fun _ k => XS.iadd X40.here hx rfl (hb hby at_128) rfl k) ?_
        show own_Go p.tables e below F (T40.setTop (mkF m 129 #[.val (.int p0), .val (.int p1), .val (.int p2), .val (.int p3), .val (.int (3 : Int32)), .val (.int la), .val (.int lb), .val (.int lc), .val (.ref b1), .val (.ref b2), .val (.ref b3), .val (.ref b4), .val (.int (1 : Int32))] [(.int (la + lb)), (.int (la + lb))]))
        refine own_st (fun _ k => XS.icmpNo X40.here hx rfl (hb hby at_129) rfl (teq (rfl : (la + lb) = (la + lb))).2 k) ?_
        show own_Go p.tables e below F (T40.setTop (mkF m 132 #[.val (.int p0), .val (.int p1), .val (.int p2), .val (.int p3), .val (.int (3 : Int32)), .val (.int la), .val (.int lb), .val (.int lc), .val (.ref b1), .val (.ref b2), .val (.ref b3), .val (.ref b4), .val (.int (1 : Int32))] []))
        refine own_st (fun _ k => XS.iconst X40.here hx rfl (hb hby at_132) k) ?_
        show own_Go p.tables e below F (T40.setTop (mkF m 133 #[.val (.int p0), .val (.int p1), .val (.int p2), .val (.int p3), .val (.int (3 : Int32)), .val (.int la), .val (.int lb), .val (.int lc), .val (.ref b1), .val (.ref b2), .val (.ref b3), .val (.ref b4), .val (.int (1 : Int32))] [(.int (1 : Int32))]))
        refine own_st (fun _ k => XS.goto X40.here hx rfl (pc0 := 133) (pc' := 137) rfl (hb hby at_133) (by decide) (by decide) k) ?_
        show own_Go p.tables e below F (T40.setTop (mkF m 137 #[.val (.int p0), .val (.int p1), .val (.int p2), .val (.int p3), .val (.int (3 : Int32)), .val (.int la), .val (.int lb), .val (.int lc), .val (.ref b1), .val (.ref b2), .val (.ref b3), .val (.ref b4), .val (.int (1 : Int32))] [(.int (1 : Int32))]))
        refine own_st (fun _ k => XS.istore X40.here hx rfl (hb hby at_137) rfl (l' := #[.val (.int p0), .val (.int p1), .val (.int p2), .val (.int p3), .val (.int (3 : Int32)), .val (.int la), .val (.int lb), .val (.int lc), .val (.ref b1), .val (.ref b2), .val (.ref b3), .val (.ref b4), .val (.int (1 : Int32))]) rfl k) ?_
        show own_Go p.tables e below F (T40.setTop (mkF m 139 #[.val (.int p0), .val (.int p1), .val (.int p2), .val (.int p3), .val (.int (3 : Int32)), .val (.int la), .val (.int lb), .val (.int lc), .val (.ref b1), .val (.ref b2), .val (.ref b3), .val (.ref b4), .val (.int (1 : Int32))] []))
        refine own_st (fun _ k => XS.iload X40.here hx rfl (hb hby at_139) rfl k) ?_
        show own_Go p.tables e below F (T40.setTop (mkF m 141 #[.val (.int p0), .val (.int p1), .val (.int p2), .val (.int p3), .val (.int (3 : Int32)), .val (.int la), .val (.int lb), .val (.int lc), .val (.ref b1), .val (.ref b2), .val (.ref b3), .val (.ref b4), .val (.int (1 : Int32))] [(.int (3 : Int32))]))
        refine own_st (fun _ k => XS.iconst X40.here hx rfl (hb hby at_141) k) ?_
        show own_Go p.tables e below F (T40.setTop (mkF m 142 #[.val (.int p0), .val (.int p1), .val (.int p2), .val (.int p3), .val (.int (3 : Int32)), .val (.int la), .val (.int lb), .val (.int lc), .val (.ref b1), .val (.ref b2), .val (.ref b3), .val (.ref b4), .val (.int (1 : Int32))] [(.int (3 : Int32)), (.int (3 : Int32))]))
        refine own_st (fun _ k => XS.icmpNo X40.here hx rfl (hb hby at_142) rfl (flt (by decide : ¬ ((3 : Int32) < (3 : Int32)))).1 k) ?_
        show own_Go p.tables e below F (T40.setTop (mkF m 145 #[.val (.int p0), .val (.int p1), .val (.int p2), .val (.int p3), .val (.int (3 : Int32)), .val (.int la), .val (.int lb), .val (.int lc), .val (.ref b1), .val (.ref b2), .val (.ref b3), .val (.ref b4), .val (.int (1 : Int32))] []))
        refine own_st (fun _ k => XS.aload X40.here hx rfl (hb hby at_145) rfl rfl k) ?_
        show own_Go p.tables e below F (T40.setTop (mkF m 147 #[.val (.int p0), .val (.int p1), .val (.int p2), .val (.int p3), .val (.int (3 : Int32)), .val (.int la), .val (.int lb), .val (.int lc), .val (.ref b1), .val (.ref b2), .val (.ref b3), .val (.ref b4), .val (.int (1 : Int32))] [(.ref b4)]))
        refine own_st (fun _ k => XS.aload X40.here hx rfl (hb hby at_147) rfl rfl k) ?_
        show own_Go p.tables e below F (T40.setTop (mkF m 149 #[.val (.int p0), .val (.int p1), .val (.int p2), .val (.int p3), .val (.int (3 : Int32)), .val (.int la), .val (.int lb), .val (.int lc), .val (.ref b1), .val (.ref b2), .val (.ref b3), .val (.ref b4), .val (.int (1 : Int32))] [(.ref b3), (.ref b4)]))
        by_cases hp2 : (0 : Int32) < lc
        ·
          obtain ⟨cq41, kq41, q41a, q41b, q41c⟩ := isOf hZ e40 TU39.1
          obtain ⟨_, _, ⟨T41, L41, k41, n41⟩, -, X41, ⟨Lc41, hQ41, l41, y41, z41⟩, st41⟩ := X40.virtualBack hx (y := (⟨"com/example/libmerit/libmerit/index/DocnoTable", "add", "([B)V"⟩ : MethodName)) (z := (⟨"com/example/libmerit/libmerit/index/DocnoTable", "add", "([B)V"⟩ : MethodName)) hown (mvT hZ (hw _ (List.mem_of_getElem? (i := 24) rfl))) (mvT hZ (hw _ (List.mem_of_getElem? (i := 25) rfl))) (notFace_of_selects (args := #[]) (mvT hZ (hw _ (List.mem_of_getElem? (i := 27) rfl)))) (mvT hZ (hw _ (List.mem_of_getElem? (i := 27) rfl))) (mvT hZ (hw _ (List.mem_of_getElem? (i := 26) rfl))) (by decide) (backOf (W := 0) (own_addO l Z a0 hw [] b4 pg en b3 kP kE k3 (2 : Int32) (3 : Int32) (la + lb) lc ((la + lb) + lc) [(.int la), (.int (la + lb)), (.int (0 : Int32))] _ qp T39.heap n0 (Nat.le_trans Z0 K0_39.1) (own_bcN l Z a0 hw [] b4 pg en kP kE (2 : Int32) _ _ (la + lb) T39.heap n0 TU39 (by decide) ⟨by decide, by decide⟩ rfl) (own_B2 hA hB) hC V3__39 rfl ⟨by decide, by decide⟩ (by decide) (rfl) gn_b4 gn_pg gn_en ne_b4_en ne_b4_pg npe ne_b3_b4 ne_b3_pg ne_b3_en hp2 TU39 GG39 gn_qp ne_b3_qp ne_b4_qp ne_pg_qp ne_en_qp) hZ (hw _ (List.mem_of_getElem? (i := 28) rfl)) (hw _ (List.mem_of_getElem? (i := 3) rfl)) (by decide) (by decide)) q41a q41c (g := (mkF m 149 #[.val (.int p0), .val (.int p1), .val (.int p2), .val (.int p3), .val (.int (3 : Int32)), .val (.int la), .val (.int lb), .val (.int lc), .val (.ref b1), .val (.ref b2), .val (.ref b3), .val (.ref b4), .val (.int (1 : Int32))] [(.ref b3), (.ref b4)])) rfl (by rw [hml]; rfl) (Steps.refl _) (argsL := [(.ref b3)]) (rest := []) (lenOf pd_3 rfl) rfl (by show 2 * 0 + _ ≤ _; exact Nat.le_of_eq rfl) (hb hby at_149) (fun _ _ => ⟨rfl, e40, (by decide : 7 + 0 ≤ _), (by decide : 65636 + 0 ≤ _)⟩)
          dsimp only [Pt.U, Pt.locs, Pt.cells, Pt.slots] at X41 l41 y41 z41 st41 hQ41
          subst l41 y41 z41
          obtain ⟨rfl, N41q, K41, TT41, GG41⟩ := hQ41
          have N41 := Fr.app N40 N41q
          refine own_st (fun _ k => st41.trans k) ?_
          have V1__41 := V1__39.keep K41 (ninS ne_b1_b4 (ninS ne_b1_en (ninS ne_b1_qp nin0)))
          have V2__41 := V2__39.keep K41 (ninS ne_b2_b4 (ninS ne_b2_en (ninS ne_b2_qp nin0)))
          have V3__41 := V3__39.keep K41 (ninS ne_b3_b4 (ninS ne_b3_en (ninS ne_b3_qp nin0)))
          have K0_41 := own_ext_keep K0_39 K41 (allS sz_b4 (allS sz_en (allS sz_qp all0)))
          have TU41 : own_T Z T41.heap b4 pg en kP kE (3 : Int32) [(.int la), (.int (la + lb)), (.int ((la + lb) + lc))] (.ref qp) := TT41
          show own_Go p.tables e below F (T41.setTop (mkF m 152 #[.val (.int p0), .val (.int p1), .val (.int p2), .val (.int p3), .val (.int (3 : Int32)), .val (.int la), .val (.int lb), .val (.int lc), .val (.ref b1), .val (.ref b2), .val (.ref b3), .val (.ref b4), .val (.int (1 : Int32))] []))
          refine own_st (fun _ k => XS.iload X41.here hx rfl (hb hby at_152) rfl k) ?_
          show own_Go p.tables e below F (T41.setTop (mkF m 154 #[.val (.int p0), .val (.int p1), .val (.int p2), .val (.int p3), .val (.int (3 : Int32)), .val (.int la), .val (.int lb), .val (.int lc), .val (.ref b1), .val (.ref b2), .val (.ref b3), .val (.ref b4), .val (.int (1 : Int32))] [(.int (1 : Int32))]))
          refine own_st (fun _ k => XS.ifNo X41.here hx rfl (hb hby at_154) rfl ((if0 _ _).trans (feq (by decide : ¬ ((1 : Int32) = (0 : Int32)))).1) k) ?_
          show own_Go p.tables e below F (T41.setTop (mkF m 157 #[.val (.int p0), .val (.int p1), .val (.int p2), .val (.int p3), .val (.int (3 : Int32)), .val (.int la), .val (.int lb), .val (.int lc), .val (.ref b1), .val (.ref b2), .val (.ref b3), .val (.ref b4), .val (.int (1 : Int32))] []))
          refine own_st (fun _ k => XS.aload X41.here hx rfl (hb hby at_157) rfl rfl k) ?_
          show own_Go p.tables e below F (T41.setTop (mkF m 159 #[.val (.int p0), .val (.int p1), .val (.int p2), .val (.int p3), .val (.int (3 : Int32)), .val (.int la), .val (.int lb), .val (.int lc), .val (.ref b1), .val (.ref b2), .val (.ref b3), .val (.ref b4), .val (.int (1 : Int32))] [(.ref b4)]))
          obtain ⟨cq42, kq42, q42a, q42b, q42c⟩ := isOf hZ rfl TU41.1
          obtain ⟨_, _, ⟨T42, L42, k42, n42⟩, -, X42, ⟨Lc42, hQ42, l42, y42, z42⟩, st42⟩ := X41.virtualBack hx (y := (⟨"com/example/libmerit/libmerit/index/DocnoTable", "byteCount", "()I"⟩ : MethodName)) (z := (⟨"com/example/libmerit/libmerit/index/DocnoTable", "byteCount", "()I"⟩ : MethodName)) hown (mvT hZ (hw _ (List.mem_of_getElem? (i := 17) rfl))) (mvT hZ (hw _ (List.mem_of_getElem? (i := 18) rfl))) (notFace_of_selects (args := #[]) (mvT hZ (hw _ (List.mem_of_getElem? (i := 20) rfl)))) (mvT hZ (hw _ (List.mem_of_getElem? (i := 20) rfl))) (mvT hZ (hw _ (List.mem_of_getElem? (i := 19) rfl))) (by decide) (backOf (W := 0) (own_bcN l Z a0 hw [] b4 pg en kP kE (3 : Int32) _ _ ((la + lb) + lc) T41.heap n0 TU41 (by decide) ⟨by decide, by decide⟩ rfl) hZ (hw _ (List.mem_of_getElem? (i := 21) rfl)) (hw _ (List.mem_of_getElem? (i := 3) rfl)) (by decide) (by decide)) q42a q42c (g := (mkF m 159 #[.val (.int p0), .val (.int p1), .val (.int p2), .val (.int p3), .val (.int (3 : Int32)), .val (.int la), .val (.int lb), .val (.int lc), .val (.ref b1), .val (.ref b2), .val (.ref b3), .val (.ref b4), .val (.int (1 : Int32))] [(.ref b4)])) rfl (by rw [hml]; rfl) (Steps.refl _) (argsL := []) (rest := []) (lenOf pd_0 rfl) rfl (by show 2 * 0 + _ ≤ _; exact Nat.le_of_eq rfl) (hb hby at_159) (fun _ _ => ⟨rfl, rfl, (by decide : 7 + 0 ≤ _), (by decide : 65636 + 0 ≤ _)⟩)
          dsimp only [Pt.U, Pt.locs, Pt.cells, Pt.slots] at X42 l42 y42 z42 st42 hQ42
          subst l42 y42 z42
          obtain ⟨rfl, N42q, e42⟩ := hQ42
          have N42 := Fr.app N41 N42q
          refine own_st (fun _ k => st42.trans k) ?_
          show own_Go p.tables e below F (T42.setTop (mkF m 162 #[.val (.int p0), .val (.int p1), .val (.int p2), .val (.int p3), .val (.int (3 : Int32)), .val (.int la), .val (.int lb), .val (.int lc), .val (.ref b1), .val (.ref b2), .val (.ref b3), .val (.ref b4), .val (.int (1 : Int32))] [(.int ((la + lb) + lc))]))
          refine own_st (fun _ k => XS.iload X42.here hx rfl (hb hby at_162) rfl k) ?_
          show own_Go p.tables e below F (T42.setTop (mkF m 164 #[.val (.int p0), .val (.int p1), .val (.int p2), .val (.int p3), .val (.int (3 : Int32)), .val (.int la), .val (.int lb), .val (.int lc), .val (.ref b1), .val (.ref b2), .val (.ref b3), .val (.ref b4), .val (.int (1 : Int32))] [(.int la), (.int ((la + lb) + lc))]))
          refine own_st (fun _ k => XS.iload X42.here hx rfl (hb hby at_164) rfl k) ?_
          show own_Go p.tables e below F (T42.setTop (mkF m 166 #[.val (.int p0), .val (.int p1), .val (.int p2), .val (.int p3), .val (.int (3 : Int32)), .val (.int la), .val (.int lb), .val (.int lc), .val (.ref b1), .val (.ref b2), .val (.ref b3), .val (.ref b4), .val (.int (1 : Int32))] [(.int lb), (.int la), (.int ((la + lb) + lc))]))
          refine own_st (fun _ k => XS.iadd X42.here hx rfl (hb hby at_166) rfl k) ?_
          show own_Go p.tables e below F (T42.setTop (mkF m 167 #[.val (.int p0), .val (.int p1), .val (.int p2), .val (.int p3), .val (.int (3 : Int32)), .val (.int la), .val (.int lb), .val (.int lc), .val (.ref b1), .val (.ref b2), .val (.ref b3), .val (.ref b4), .val (.int (1 : Int32))] [(.int (la + lb)), (.int ((la + lb) + lc))]))
          refine own_st (fun _ k => XS.iload X42.here hx rfl (hb hby at_167) rfl k) ?_
          show own_Go p.tables e below F (T42.setTop (mkF m 169 #[.val (.int p0), .val (.int p1), .val (.int p2), .val (.int p3), .val (.int (3 : Int32)), .val (.int la), .val (.int lb), .val (.int lc), .val (.ref b1), .val (.ref b2), .val (.ref b3), .val (.ref b4), .val (.int (1 : Int32))] [(.int lc), (.int (la + lb)), (.int ((la + lb) + lc))]))
          refine own_st (fun _ k => XS.iadd X42.here hx rfl (hb hby at_169) rfl k) ?_
          show own_Go p.tables e below F (T42.setTop (mkF m 170 #[.val (.int p0), .val (.int p1), .val (.int p2), .val (.int p3), .val (.int (3 : Int32)), .val (.int la), .val (.int lb), .val (.int lc), .val (.ref b1), .val (.ref b2), .val (.ref b3), .val (.ref b4), .val (.int (1 : Int32))] [(.int ((la + lb) + lc)), (.int ((la + lb) + lc))]))
          refine own_st (fun _ k => XS.icmpNo X42.here hx rfl (hb hby at_170) rfl (teq (rfl : ((la + lb) + lc) = ((la + lb) + lc))).2 k) ?_
          show own_Go p.tables e below F (T42.setTop (mkF m 173 #[.val (.int p0), .val (.int p1), .val (.int p2), .val (.int p3), .val (.int (3 : Int32)), .val (.int la), .val (.int lb), .val (.int lc), .val (.ref b1), .val (.ref b2), .val (.ref b3), .val (.ref b4), .val (.int (1 : Int32))] []))
          refine own_st (fun _ k => XS.iconst X42.here hx rfl (hb hby at_173) k) ?_
          show own_Go p.tables e below F (T42.setTop (mkF m 174 #[.val (.int p0), .val (.int p1), .val (.int p2), .val (.int p3), .val (.int (3 : Int32)), .val (.int la), .val (.int lb), .val (.int lc), .val (.ref b1), .val (.ref b2), .val (.ref b3), .val (.ref b4), .val (.int (1 : Int32))] [(.int (1 : Int32))]))
          refine own_st (fun _ k => XS.goto X42.here hx rfl (pc0 := 174) (pc' := 178) rfl (hb hby at_174) (by decide) (by decide) k) ?_
          show own_Go p.tables e below F (T42.setTop (mkF m 178 #[.val (.int p0), .val (.int p1), .val (.int p2), .val (.int p3), .val (.int (3 : Int32)), .val (.int la), .val (.int lb), .val (.int lc), .val (.ref b1), .val (.ref b2), .val (.ref b3), .val (.ref b4), .val (.int (1 : Int32))] [(.int (1 : Int32))]))
          refine own_st (fun _ k => XS.istore X42.here hx rfl (hb hby at_178) rfl (l' := #[.val (.int p0), .val (.int p1), .val (.int p2), .val (.int p3), .val (.int (3 : Int32)), .val (.int la), .val (.int lb), .val (.int lc), .val (.ref b1), .val (.ref b2), .val (.ref b3), .val (.ref b4), .val (.int (1 : Int32))]) rfl k) ?_
          show own_Go p.tables e below F (T42.setTop (mkF m 180 #[.val (.int p0), .val (.int p1), .val (.int p2), .val (.int p3), .val (.int (3 : Int32)), .val (.int la), .val (.int lb), .val (.int lc), .val (.ref b1), .val (.ref b2), .val (.ref b3), .val (.ref b4), .val (.int (1 : Int32))] []))
          refine own_st (fun _ k => XS.iload X42.here hx rfl (hb hby at_180) rfl k) ?_
          show own_Go p.tables e below F (T42.setTop (mkF m 182 #[.val (.int p0), .val (.int p1), .val (.int p2), .val (.int p3), .val (.int (3 : Int32)), .val (.int la), .val (.int lb), .val (.int lc), .val (.ref b1), .val (.ref b2), .val (.ref b3), .val (.ref b4), .val (.int (1 : Int32))] [(.int (1 : Int32))]))
          obtain ⟨fs, hrL, hrun, hended, hW, hsame⟩ := X42.leave (v := some (.int (1 : Int32))) (fun h => by rw [Bd.returns] at h; cases h)
          refine own_end hF (o := .returned (some (.int (1 : Int32)))) (retN X42 hx (t := .boolean) Bd.returns (by simp) (hb hby at_182) hrL) ?_
          refine ⟨hrun, hended, _, _, rfl, ?_, ⟨_, rfl⟩, hW, hsame.mono (by decide) (by decide)⟩
          exact ⟨rfl, N42⟩
        ·
          obtain ⟨cq43, kq43, q43a, q43b, q43c⟩ := isOf hZ e40 TU39.1
          obtain ⟨_, _, ⟨T43, L43, k43, n43⟩, -, X43, ⟨Lc43, hQ43, l43, y43, z43⟩, st43⟩ := X40.virtualBack hx (y := (⟨"com/example/libmerit/libmerit/index/DocnoTable", "add", "([B)V"⟩ : MethodName)) (z := (⟨"com/example/libmerit/libmerit/index/DocnoTable", "add", "([B)V"⟩ : MethodName)) hown (mvT hZ (hw _ (List.mem_of_getElem? (i := 24) rfl))) (mvT hZ (hw _ (List.mem_of_getElem? (i := 25) rfl))) (notFace_of_selects (args := #[]) (mvT hZ (hw _ (List.mem_of_getElem? (i := 27) rfl)))) (mvT hZ (hw _ (List.mem_of_getElem? (i := 27) rfl))) (mvT hZ (hw _ (List.mem_of_getElem? (i := 26) rfl))) (by decide) (backOf (W := 0) (own_addZ l Z a0 hw [] b4 pg en b3 kP kE k3 (2 : Int32) (3 : Int32) (la + lb) lc ((la + lb) + lc) [(.int la), (.int (la + lb)), (.int (0 : Int32))] _ (.ref qp) T39.heap n0 (Nat.le_trans Z0 K0_39.1) (own_bcN l Z a0 hw [] b4 pg en kP kE (2 : Int32) _ _ (la + lb) T39.heap n0 TU39 (by decide) ⟨by decide, by decide⟩ rfl) (own_B2 hA hB) hC V3__39 rfl ⟨by decide, by decide⟩ (by decide) (rfl) gn_b4 gn_pg gn_en ne_b4_en ne_b4_pg npe ne_b3_b4 ne_b3_pg ne_b3_en hp2 TU39) hZ (hw _ (List.mem_of_getElem? (i := 28) rfl)) (hw _ (List.mem_of_getElem? (i := 3) rfl)) (by decide) (by decide)) q43a q43c (g := (mkF m 149 #[.val (.int p0), .val (.int p1), .val (.int p2), .val (.int p3), .val (.int (3 : Int32)), .val (.int la), .val (.int lb), .val (.int lc), .val (.ref b1), .val (.ref b2), .val (.ref b3), .val (.ref b4), .val (.int (1 : Int32))] [(.ref b3), (.ref b4)])) rfl (by rw [hml]; rfl) (Steps.refl _) (argsL := [(.ref b3)]) (rest := []) (lenOf pd_3 rfl) rfl (by show 2 * 0 + _ ≤ _; exact Nat.le_of_eq rfl) (hb hby at_149) (fun _ _ => ⟨rfl, e40, (by decide : 7 + 0 ≤ _), (by decide : 65636 + 0 ≤ _)⟩)
          dsimp only [Pt.U, Pt.locs, Pt.cells, Pt.slots] at X43 l43 y43 z43 st43 hQ43
          subst l43 y43 z43
          obtain ⟨rfl, N43q, K43, TT43⟩ := hQ43
          have N43 := Fr.app N40 N43q
          refine own_st (fun _ k => st43.trans k) ?_
          have GG43 := own_Pg_keep GG39 K43 (ninS (Ne.symm ne_b4_qp) (ninS (Ne.symm ne_en_qp) nin0))
          have V1__43 := V1__39.keep K43 (ninS ne_b1_b4 (ninS ne_b1_en nin0))
          have V2__43 := V2__39.keep K43 (ninS ne_b2_b4 (ninS ne_b2_en nin0))
          have V3__43 := V3__39.keep K43 (ninS ne_b3_b4 (ninS ne_b3_en nin0))
          have K0_43 := own_ext_keep K0_39 K43 (allS sz_b4 (allS sz_en all0))
          have TU43 : own_T Z T43.heap b4 pg en kP kE (3 : Int32) [(.int la), (.int (la + lb)), (.int ((la + lb) + lc))] (.ref qp) := TT43
          show own_Go p.tables e below F (T43.setTop (mkF m 152 #[.val (.int p0), .val (.int p1), .val (.int p2), .val (.int p3), .val (.int (3 : Int32)), .val (.int la), .val (.int lb), .val (.int lc), .val (.ref b1), .val (.ref b2), .val (.ref b3), .val (.ref b4), .val (.int (1 : Int32))] []))
          refine own_st (fun _ k => XS.iload X43.here hx rfl (hb hby at_152) rfl k) ?_
          show own_Go p.tables e below F (T43.setTop (mkF m 154 #[.val (.int p0), .val (.int p1), .val (.int p2), .val (.int p3), .val (.int (3 : Int32)), .val (.int la), .val (.int lb), .val (.int lc), .val (.ref b1), .val (.ref b2), .val (.ref b3), .val (.ref b4), .val (.int (1 : Int32))] [(.int (1 : Int32))]))
          refine own_st (fun _ k => XS.ifNo X43.here hx rfl (hb hby at_154) rfl ((if0 _ _).trans (feq (by decide : ¬ ((1 : Int32) = (0 : Int32)))).1) k) ?_
          show own_Go p.tables e below F (T43.setTop (mkF m 157 #[.val (.int p0), .val (.int p1), .val (.int p2), .val (.int p3), .val (.int (3 : Int32)), .val (.int la), .val (.int lb), .val (.int lc), .val (.ref b1), .val (.ref b2), .val (.ref b3), .val (.ref b4), .val (.int (1 : Int32))] []))
          refine own_st (fun _ k => XS.aload X43.here hx rfl (hb hby at_157) rfl rfl k) ?_
          show own_Go p.tables e below F (T43.setTop (mkF m 159 #[.val (.int p0), .val (.int p1), .val (.int p2), .val (.int p3), .val (.int (3 : Int32)), .val (.int la), .val (.int lb), .val (.int lc), .val (.ref b1), .val (.ref b2), .val (.ref b3), .val (.ref b4), .val (.int (1 : Int32))] [(.ref b4)]))
          obtain ⟨cq44, kq44, q44a, q44b, q44c⟩ := isOf hZ rfl TU43.1
          obtain ⟨_, _, ⟨T44, L44, k44, n44⟩, -, X44, ⟨Lc44, hQ44, l44, y44, z44⟩, st44⟩ := X43.virtualBack hx (y := (⟨"com/example/libmerit/libmerit/index/DocnoTable", "byteCount", "()I"⟩ : MethodName)) (z := (⟨"com/example/libmerit/libmerit/index/DocnoTable", "byteCount", "()I"⟩ : MethodName)) hown (mvT hZ (hw _ (List.mem_of_getElem? (i := 17) rfl))) (mvT hZ (hw _ (List.mem_of_getElem? (i := 18) rfl))) (notFace_of_selects (args := #[]) (mvT hZ (hw _ (List.mem_of_getElem? (i := 20) rfl)))) (mvT hZ (hw _ (List.mem_of_getElem? (i := 20) rfl))) (mvT hZ (hw _ (List.mem_of_getElem? (i := 19) rfl))) (by decide) (backOf (W := 0) (own_bcN l Z a0 hw [] b4 pg en kP kE (3 : Int32) _ _ ((la + lb) + lc) T43.heap n0 TU43 (by decide) ⟨by decide, by decide⟩ rfl) hZ (hw _ (List.mem_of_getElem? (i := 21) rfl)) (hw _ (List.mem_of_getElem? (i := 3) rfl)) (by decide) (by decide)) q44a q44c (g := (mkF m 159 #[.val (.int p0), .val (.int p1), .val (.int p2), .val (.int p3), .val (.int (3 : Int32)), .val (.int la), .val (.int lb), .val (.int lc), .val (.ref b1), .val (.ref b2), .val (.ref b3), .val (.ref b4), .val (.int (1 : Int32))] [(.ref b4)])) rfl (by rw [hml]; rfl) (Steps.refl _) (argsL := []) (rest := []) (lenOf pd_0 rfl) rfl (by show 2 * 0 + _ ≤ _; exact Nat.le_of_eq rfl) (hb hby at_159) (fun _ _ => ⟨rfl, rfl, (by decide : 7 + 0 ≤ _), (by decide : 65636 + 0 ≤ _)⟩)
          dsimp only [Pt.U, Pt.locs, Pt.cells, Pt.slots] at X44 l44 y44 z44 st44 hQ44
          subst l44 y44 z44
          obtain ⟨rfl, N44q, e44⟩ := hQ44
          have N44 := Fr.app N43 N44q
          refine own_st (fun _ k => st44.trans k) ?_
          show own_Go p.tables e below F (T44.setTop (mkF m 162 #[.val (.int p0), .val (.int p1), .val (.int p2), .val (.int p3), .val (.int (3 : Int32)), .val (.int la), .val (.int lb), .val (.int lc), .val (.ref b1), .val (.ref b2), .val (.ref b3), .val (.ref b4), .val (.int (1 : Int32))] [(.int ((la + lb) + lc))]))
          refine own_st (fun _ k => XS.iload X44.here hx rfl (hb hby at_162) rfl k) ?_
          show own_Go p.tables e below F (T44.setTop (mkF m 164 #[.val (.int p0), .val (.int p1), .val (.int p2), .val (.int p3), .val (.int (3 : Int32)), .val (.int la), .val (.int lb), .val (.int lc), .val (.ref b1), .val (.ref b2), .val (.ref b3), .val (.ref b4), .val (.int (1 : Int32))] [(.int la), (.int ((la + lb) + lc))]))
          refine own_st (fun _ k => XS.iload X44.here hx rfl (hb hby at_164) rfl k) ?_
          show own_Go p.tables e below F (T44.setTop (mkF m 166 #[.val (.int p0), .val (.int p1), .val (.int p2), .val (.int p3), .val (.int (3 : Int32)), .val (.int la), .val (.int lb), .val (.int lc), .val (.ref b1), .val (.ref b2), .val (.ref b3), .val (.ref b4), .val (.int (1 : Int32))] [(.int lb), (.int la), (.int ((la + lb) + lc))]))
          refine own_st (fun _ k => XS.iadd X44.here hx rfl (hb hby at_166) rfl k) ?_
          show own_Go p.tables e below F (T44.setTop (mkF m 167 #[.val (.int p0), .val (.int p1), .val (.int p2), .val (.int p3), .val (.int (3 : Int32)), .val (.int la), .val (.int lb), .val (.int lc), .val (.ref b1), .val (.ref b2), .val (.ref b3), .val (.ref b4), .val (.int (1 : Int32))] [(.int (la + lb)), (.int ((la + lb) + lc))]))
          refine own_st (fun _ k => XS.iload X44.here hx rfl (hb hby at_167) rfl k) ?_
          show own_Go p.tables e below F (T44.setTop (mkF m 169 #[.val (.int p0), .val (.int p1), .val (.int p2), .val (.int p3), .val (.int (3 : Int32)), .val (.int la), .val (.int lb), .val (.int lc), .val (.ref b1), .val (.ref b2), .val (.ref b3), .val (.ref b4), .val (.int (1 : Int32))] [(.int lc), (.int (la + lb)), (.int ((la + lb) + lc))]))
          refine own_st (fun _ k => XS.iadd X44.here hx rfl (hb hby at_169) rfl k) ?_
          show own_Go p.tables e below F (T44.setTop (mkF m 170 #[.val (.int p0), .val (.int p1), .val (.int p2), .val (.int p3), .val (.int (3 : Int32)), .val (.int la), .val (.int lb), .val (.int lc), .val (.ref b1), .val (.ref b2), .val (.ref b3), .val (.ref b4), .val (.int (1 : Int32))] [(.int ((la + lb) + lc)), (.int ((la + lb) + lc))]))
          refine own_st (fun _ k => XS.icmpNo X44.here hx rfl (hb hby at_170) rfl (teq (rfl : ((la + lb) + lc) = ((la + lb) + lc))).2 k) ?_
          show own_Go p.tables e below F (T44.setTop (mkF m 173 #[.val (.int p0), .val (.int p1), .val (.int p2), .val (.int p3), .val (.int (3 : Int32)), .val (.int la), .val (.int lb), .val (.int lc), .val (.ref b1), .val (.ref b2), .val (.ref b3), .val (.ref b4), .val (.int (1 : Int32))] []))
          refine own_st (fun _ k => XS.iconst X44.here hx rfl (hb hby at_173) k) ?_
          show own_Go p.tables e below F (T44.setTop (mkF m 174 #[.val (.int p0), .val (.int p1), .val (.int p2), .val (.int p3), .val (.int (3 : Int32)), .val (.int la), .val (.int lb), .val (.int lc), .val (.ref b1), .val (.ref b2), .val (.ref b3), .val (.ref b4), .val (.int (1 : Int32))] [(.int (1 : Int32))]))
          refine own_st (fun _ k => XS.goto X44.here hx rfl (pc0 := 174) (pc' := 178) rfl (hb hby at_174) (by decide) (by decide) k) ?_
          show own_Go p.tables e below F (T44.setTop (mkF m 178 #[.val (.int p0), .val (.int p1), .val (.int p2), .val (.int p3), .val (.int (3 : Int32)), .val (.int la), .val (.int lb), .val (.int lc), .val (.ref b1), .val (.ref b2), .val (.ref b3), .val (.ref b4), .val (.int (1 : Int32))] [(.int (1 : Int32))]))
          refine own_st (fun _ k => XS.istore X44.here hx rfl (hb hby at_178) rfl (l' := #[.val (.int p0), .val (.int p1), .val (.int p2), .val (.int p3), .val (.int (3 : Int32)), .val (.int la), .val (.int lb), .val (.int lc), .val (.ref b1), .val (.ref b2), .val (.ref b3), .val (.ref b4), .val (.int (1 : Int32))]) rfl k) ?_
          show own_Go p.tables e below F (T44.setTop (mkF m 180 #[.val (.int p0), .val (.int p1), .val (.int p2), .val (.int p3), .val (.int (3 : Int32)), .val (.int la), .val (.int lb), .val (.int lc), .val (.ref b1), .val (.ref b2), .val (.ref b3), .val (.ref b4), .val (.int (1 : Int32))] []))
          refine own_st (fun _ k => XS.iload X44.here hx rfl (hb hby at_180) rfl k) ?_
          show own_Go p.tables e below F (T44.setTop (mkF m 182 #[.val (.int p0), .val (.int p1), .val (.int p2), .val (.int p3), .val (.int (3 : Int32)), .val (.int la), .val (.int lb), .val (.int lc), .val (.ref b1), .val (.ref b2), .val (.ref b3), .val (.ref b4), .val (.int (1 : Int32))] [(.int (1 : Int32))]))
          obtain ⟨fs, hrL, hrun, hended, hW, hsame⟩ := X44.leave (v := some (.int (1 : Int32))) (fun h => by rw [Bd.returns] at h; cases h)
          refine own_end hF (o := .returned (some (.int (1 : Int32)))) (retN X44 hx (t := .boolean) Bd.returns (by simp) (hb hby at_182) hrL) ?_
          refine ⟨hrun, hended, _, _, rfl, ?_, ⟨_, rfl⟩, hW, hsame.mono (by decide) (by decide)⟩
          exact ⟨rfl, N44⟩
      ·
        obtain ⟨cq45, kq45, q45a, q45b, q45c⟩ := isOf hZ e38 TU37.1
        obtain ⟨_, _, ⟨T45, L45, k45, n45⟩, -, X45, ⟨Lc45, hQ45, l45, y45, z45⟩, st45⟩ := X38.virtualBack hx (y := (⟨"com/example/libmerit/libmerit/index/DocnoTable", "add", "([B)V"⟩ : MethodName)) (z := (⟨"com/example/libmerit/libmerit/index/DocnoTable", "add", "([B)V"⟩ : MethodName)) hown (mvT hZ (hw _ (List.mem_of_getElem? (i := 24) rfl))) (mvT hZ (hw _ (List.mem_of_getElem? (i := 25) rfl))) (notFace_of_selects (args := #[]) (mvT hZ (hw _ (List.mem_of_getElem? (i := 27) rfl)))) (mvT hZ (hw _ (List.mem_of_getElem? (i := 27) rfl))) (mvT hZ (hw _ (List.mem_of_getElem? (i := 26) rfl))) (by decide) (backOf (W := 0) (own_addZ l Z a0 hw [] b4 pg en b2 kP kE k2 (1 : Int32) (2 : Int32) la lb (la + lb) [(.int la), (.int (0 : Int32)), (.int (0 : Int32))] _ .null T37.heap n0 (Nat.le_trans Z0 K0_37.1) (own_bcN l Z a0 hw [] b4 pg en kP kE (1 : Int32) _ _ la T37.heap n0 TU37 (by decide) ⟨by decide, by decide⟩ rfl) (own_B1 hA) hB V2__37 rfl ⟨by decide, by decide⟩ (by decide) (rfl) gn_b4 gn_pg gn_en ne_b4_en ne_b4_pg npe ne_b2_b4 ne_b2_pg ne_b2_en hp1 TU37) hZ (hw _ (List.mem_of_getElem? (i := 28) rfl)) (hw _ (List.mem_of_getElem? (i := 3) rfl)) (by decide) (by decide)) q45a q45c (g := (mkF m 111 #[.val (.int p0), .val (.int p1), .val (.int p2), .val (.int p3), .val (.int (3 : Int32)), .val (.int la), .val (.int lb), .val (.int lc), .val (.ref b1), .val (.ref b2), .val (.ref b3), .val (.ref b4), .val (.int (1 : Int32))] [(.ref b2), (.ref b4)])) rfl (by rw [hml]; rfl) (Steps.refl _) (argsL := [(.ref b2)]) (rest := []) (lenOf pd_3 rfl) rfl (by show 2 * 0 + _ ≤ _; exact Nat.le_of_eq rfl) (hb hby at_111) (fun _ _ => ⟨rfl, e38, (by decide : 6 + 0 ≤ _), (by decide : 100 + 0 ≤ _)⟩)
        dsimp only [Pt.U, Pt.locs, Pt.cells, Pt.slots] at X45 l45 y45 z45 st45 hQ45
        subst l45 y45 z45
        obtain ⟨rfl, N45q, K45, TT45⟩ := hQ45
        have N45 := Fr.app N38 N45q
        refine own_st (fun _ k => st45.trans k) ?_
        have V1__45 := V1__37.keep K45 (ninS ne_b1_b4 (ninS ne_b1_en nin0))
        have V2__45 := V2__37.keep K45 (ninS ne_b2_b4 (ninS ne_b2_en nin0))
        have V3__45 := V3__37.keep K45 (ninS ne_b3_b4 (ninS ne_b3_en nin0))
        have K0_45 := own_ext_keep K0_37 K45 (allS sz_b4 (allS sz_en all0))
        have TU45 : own_T Z T45.heap b4 pg en kP kE (2 : Int32) [(.int la), (.int (la + lb)), (.int (0 : Int32))] .null := TT45
        show own_Go p.tables e below F (T45.setTop (mkF m 114 #[.val (.int p0), .val (.int p1), .val (.int p2), .val (.int p3), .val (.int (3 : Int32)), .val (.int la), .val (.int lb), .val (.int lc), .val (.ref b1), .val (.ref b2), .val (.ref b3), .val (.ref b4), .val (.int (1 : Int32))] []))
        refine own_st (fun _ k => XS.iload X45.here hx rfl (hb hby at_114) rfl k) ?_
        show own_Go p.tables e below F (T45.setTop (mkF m 116 #[.val (.int p0), .val (.int p1), .val (.int p2), .val (.int p3), .val (.int (3 : Int32)), .val (.int la), .val (.int lb), .val (.int lc), .val (.ref b1), .val (.ref b2), .val (.ref b3), .val (.ref b4), .val (.int (1 : Int32))] [(.int (1 : Int32))]))
        refine own_st (fun _ k => XS.ifNo X45.here hx rfl (hb hby at_116) rfl ((if0 _ _).trans (feq (by decide : ¬ ((1 : Int32) = (0 : Int32)))).1) k) ?_
        show own_Go p.tables e below F (T45.setTop (mkF m 119 #[.val (.int p0), .val (.int p1), .val (.int p2), .val (.int p3), .val (.int (3 : Int32)), .val (.int la), .val (.int lb), .val (.int lc), .val (.ref b1), .val (.ref b2), .val (.ref b3), .val (.ref b4), .val (.int (1 : Int32))] []))
        refine own_st (fun _ k => XS.aload X45.here hx rfl (hb hby at_119) rfl rfl k) ?_
        show own_Go p.tables e below F (T45.setTop (mkF m 121 #[.val (.int p0), .val (.int p1), .val (.int p2), .val (.int p3), .val (.int (3 : Int32)), .val (.int la), .val (.int lb), .val (.int lc), .val (.ref b1), .val (.ref b2), .val (.ref b3), .val (.ref b4), .val (.int (1 : Int32))] [(.ref b4)]))
        obtain ⟨cq46, kq46, q46a, q46b, q46c⟩ := isOf hZ rfl TU45.1
        obtain ⟨_, _, ⟨T46, L46, k46, n46⟩, -, X46, ⟨Lc46, hQ46, l46, y46, z46⟩, st46⟩ := X45.virtualBack hx (y := (⟨"com/example/libmerit/libmerit/index/DocnoTable", "byteCount", "()I"⟩ : MethodName)) (z := (⟨"com/example/libmerit/libmerit/index/DocnoTable", "byteCount", "()I"⟩ : MethodName)) hown (mvT hZ (hw _ (List.mem_of_getElem? (i := 17) rfl))) (mvT hZ (hw _ (List.mem_of_getElem? (i := 18) rfl))) (notFace_of_selects (args := #[]) (mvT hZ (hw _ (List.mem_of_getElem? (i := 20) rfl)))) (mvT hZ (hw _ (List.mem_of_getElem? (i := 20) rfl))) (mvT hZ (hw _ (List.mem_of_getElem? (i := 19) rfl))) (by decide) (backOf (W := 0) (own_bcN l Z a0 hw [] b4 pg en kP kE (2 : Int32) _ _ (la + lb) T45.heap n0 TU45 (by decide) ⟨by decide, by decide⟩ rfl) hZ (hw _ (List.mem_of_getElem? (i := 21) rfl)) (hw _ (List.mem_of_getElem? (i := 3) rfl)) (by decide) (by decide)) q46a q46c (g := (mkF m 121 #[.val (.int p0), .val (.int p1), .val (.int p2), .val (.int p3), .val (.int (3 : Int32)), .val (.int la), .val (.int lb), .val (.int lc), .val (.ref b1), .val (.ref b2), .val (.ref b3), .val (.ref b4), .val (.int (1 : Int32))] [(.ref b4)])) rfl (by rw [hml]; rfl) (Steps.refl _) (argsL := []) (rest := []) (lenOf pd_0 rfl) rfl (by show 2 * 0 + _ ≤ _; exact Nat.le_of_eq rfl) (hb hby at_121) (fun _ _ => ⟨rfl, rfl, (by decide : 6 + 0 ≤ _), (by decide : 100 + 0 ≤ _)⟩)
        dsimp only [Pt.U, Pt.locs, Pt.cells, Pt.slots] at X46 l46 y46 z46 st46 hQ46
        subst l46 y46 z46
        obtain ⟨rfl, N46q, e46⟩ := hQ46
        have N46 := Fr.app N45 N46q
        refine own_st (fun _ k => st46.trans k) ?_
        show own_Go p.tables e below F (T46.setTop (mkF m 124 #[.val (.int p0), .val (.int p1), .val (.int p2), .val (.int p3), .val (.int (3 : Int32)), .val (.int la), .val (.int lb), .val (.int lc), .val (.ref b1), .val (.ref b2), .val (.ref b3), .val (.ref b4), .val (.int (1 : Int32))] [(.int (la + lb))]))
        refine own_st (fun _ k => XS.iload X46.here hx rfl (hb hby at_124) rfl k) ?_
        show own_Go p.tables e below F (T46.setTop (mkF m 126 #[.val (.int p0), .val (.int p1), .val (.int p2), .val (.int p3), .val (.int (3 : Int32)), .val (.int la), .val (.int lb), .val (.int lc), .val (.ref b1), .val (.ref b2), .val (.ref b3), .val (.ref b4), .val (.int (1 : Int32))] [(.int la), (.int (la + lb))]))
        refine own_st (fun _ k => XS.iload X46.here hx rfl (hb hby at_126) rfl k) ?_
        show own_Go p.tables e below F (T46.setTop (mkF m 128 #[.val (.int p0), .val (.int p1), .val (.int p2), .val (.int p3), .val (.int (3 : Int32)), .val (.int la), .val (.int lb), .val (.int lc), .val (.ref b1), .val (.ref b2), .val (.ref b3), .val (.ref b4), .val (.int (1 : Int32))] [(.int lb), (.int la), (.int (la + lb))]))
        refine own_st (fun _ k => XS.iadd X46.here hx rfl (hb hby at_128) rfl k) ?_
        show own_Go p.tables e below F (T46.setTop (mkF m 129 #[.val (.int p0), .val (.int p1), .val (.int p2), .val (.int p3), .val (.int (3 : Int32)), .val (.int la), .val (.int lb), .val (.int lc), .val (.ref b1), .val (.ref b2), .val (.ref b3), .val (.ref b4), .val (.int (1 : Int32))] [(.int (la + lb)), (.int (la + lb))]))
        refine own_st (fun _ k => XS.icmpNo X46.here hx rfl (hb hby at_129) rfl (teq (rfl : (la + lb) = (la + lb))).2 k) ?_
        show own_Go p.tables e below F (T46.setTop (mkF m 132 #[.val (.int p0), .val (.int p1), .val (.int p2), .val (.int p3), .val (.int (3 : Int32)), .val (.int la), .val (.int lb), .val (.int lc), .val (.ref b1), .val (.ref b2), .val (.ref b3), .val (.ref b4), .val (.int (1 : Int32))] []))
        refine own_st (fun _ k => XS.iconst X46.here hx rfl (hb hby at_132) k) ?_
        show own_Go p.tables e below F (T46.setTop (mkF m 133 #[.val (.int p0), .val (.int p1), .val (.int p2), .val (.int p3), .val (.int (3 : Int32)), .val (.int la), .val (.int lb), .val (.int lc), .val (.ref b1), .val (.ref b2), .val (.ref b3), .val (.ref b4), .val (.int (1 : Int32))] [(.int (1 : Int32))]))
        refine own_st (fun _ k => XS.goto X46.here hx rfl (pc0 := 133) (pc' := 137) rfl (hb hby at_133) (by decide) (by decide) k) ?_
        show own_Go p.tables e below F (T46.setTop (mkF m 137 #[.val (.int p0), .val (.int p1), .val (.int p2), .val (.int p3), .val (.int (3 : Int32)), .val (.int la), .val (.int lb), .val (.int lc), .val (.ref b1), .val (.ref b2), .val (.ref b3), .val (.ref b4), .val (.int (1 : Int32))] [(.int (1 : Int32))]))
        refine own_st (fun _ k => XS.istore X46.here hx rfl (hb hby at_137) rfl (l' := #[.val (.int p0), .val (.int p1), .val (.int p2), .val (.int p3), .val (.int (3 : Int32)), .val (.int la), .val (.int lb), .val (.int lc), .val (.ref b1), .val (.ref b2), .val (.ref b3), .val (.ref b4), .val (.int (1 : Int32))]) rfl k) ?_
        show own_Go p.tables e below F (T46.setTop (mkF m 139 #[.val (.int p0), .val (.int p1), .val (.int p2), .val (.int p3), .val (.int (3 : Int32)), .val (.int la), .val (.int lb), .val (.int lc), .val (.ref b1), .val (.ref b2), .val (.ref b3), .val (.ref b4), .val (.int (1 : Int32))] []))
        refine own_st (fun _ k => XS.iload X46.here hx rfl (hb hby at_139) rfl k) ?_
        show own_Go p.tables e below F (T46.setTop (mkF m 141 #[.val (.int p0), .val (.int p1), .val (.int p2), .val (.int p3), .val (.int (3 : Int32)), .val (.int la), .val (.int lb), .val (.int lc), .val (.ref b1), .val (.ref b2), .val (.ref b3), .val (.ref b4), .val (.int (1 : Int32))] [(.int (3 : Int32))]))
        refine own_st (fun _ k => XS.iconst X46.here hx rfl (hb hby at_141) k) ?_
        show own_Go p.tables e below F (T46.setTop (mkF m 142 #[.val (.int p0), .val (.int p1), .val (.int p2), .val (.int p3), .val (.int (3 : Int32)), .val (.int la), .val (.int lb), .val (.int lc), .val (.ref b1), .val (.ref b2), .val (.ref b3), .val (.ref b4), .val (.int (1 : Int32))] [(.int (3 : Int32)), (.int (3 : Int32))]))
        refine own_st (fun _ k => XS.icmpNo X46.here hx rfl (hb hby at_142) rfl (flt (by decide : ¬ ((3 : Int32) < (3 : Int32)))).1 k) ?_
        show own_Go p.tables e below F (T46.setTop (mkF m 145 #[.val (.int p0), .val (.int p1), .val (.int p2), .val (.int p3), .val (.int (3 : Int32)), .val (.int la), .val (.int lb), .val (.int lc), .val (.ref b1), .val (.ref b2), .val (.ref b3), .val (.ref b4), .val (.int (1 : Int32))] []))
        refine own_st (fun _ k => XS.aload X46.here hx rfl (hb hby at_145) rfl rfl k) ?_
        show own_Go p.tables e below F (T46.setTop (mkF m 147 #[.val (.int p0), .val (.int p1), .val (.int p2), .val (.int p3), .val (.int (3 : Int32)), .val (.int la), .val (.int lb), .val (.int lc), .val (.ref b1), .val (.ref b2), .val (.ref b3), .val (.ref b4), .val (.int (1 : Int32))] [(.ref b4)]))
        refine own_st (fun _ k => XS.aload X46.here hx rfl (hb hby at_147) rfl rfl k) ?_
        show own_Go p.tables e below F (T46.setTop (mkF m 149 #[.val (.int p0), .val (.int p1), .val (.int p2), .val (.int p3), .val (.int (3 : Int32)), .val (.int la), .val (.int lb), .val (.int lc), .val (.ref b1), .val (.ref b2), .val (.ref b3), .val (.ref b4), .val (.int (1 : Int32))] [(.ref b3), (.ref b4)]))
        by_cases hp2 : (0 : Int32) < lc
        ·
          obtain ⟨cq47, kq47, q47a, q47b, q47c⟩ := isOf hZ e46 TU45.1
          obtain ⟨_, _, ⟨T47, L47, k47, n47⟩, -, X47, ⟨Lc47, hQ47, l47, y47, z47⟩, st47⟩ := X46.virtualBack hx (y := (⟨"com/example/libmerit/libmerit/index/DocnoTable", "add", "([B)V"⟩ : MethodName)) (z := (⟨"com/example/libmerit/libmerit/index/DocnoTable", "add", "([B)V"⟩ : MethodName)) hown (mvT hZ (hw _ (List.mem_of_getElem? (i := 24) rfl))) (mvT hZ (hw _ (List.mem_of_getElem? (i := 25) rfl))) (notFace_of_selects (args := #[]) (mvT hZ (hw _ (List.mem_of_getElem? (i := 27) rfl)))) (mvT hZ (hw _ (List.mem_of_getElem? (i := 27) rfl))) (mvT hZ (hw _ (List.mem_of_getElem? (i := 26) rfl))) (by decide) (backOf (W := 0) (own_addM l Z a0 hw [] b4 pg en b3 kP kE k3 (2 : Int32) (3 : Int32) (la + lb) lc ((la + lb) + lc) [(.int la), (.int (la + lb)), (.int (0 : Int32))] _ T45.heap n0 (Nat.le_trans Z0 K0_45.1) (own_bcN l Z a0 hw [] b4 pg en kP kE (2 : Int32) _ _ (la + lb) T45.heap n0 TU45 (by decide) ⟨by decide, by decide⟩ rfl) (own_B2 hA hB) hC V3__45 rfl ⟨by decide, by decide⟩ (by decide) (rfl) gn_b4 gn_pg gn_en ne_b4_en ne_b4_pg npe ne_b3_b4 ne_b3_pg ne_b3_en hp2 TU45) hZ (hw _ (List.mem_of_getElem? (i := 28) rfl)) (hw _ (List.mem_of_getElem? (i := 3) rfl)) (by decide) (by decide)) q47a q47c (g := (mkF m 149 #[.val (.int p0), .val (.int p1), .val (.int p2), .val (.int p3), .val (.int (3 : Int32)), .val (.int la), .val (.int lb), .val (.int lc), .val (.ref b1), .val (.ref b2), .val (.ref b3), .val (.ref b4), .val (.int (1 : Int32))] [(.ref b3), (.ref b4)])) rfl (by rw [hml]; rfl) (Steps.refl _) (argsL := [(.ref b3)]) (rest := []) (lenOf pd_3 rfl) rfl (by show 2 * 0 + _ ≤ _; exact Nat.le_of_eq rfl) (hb hby at_149) (fun _ _ => ⟨rfl, e46, (by decide : 6 + 1 ≤ _), (by decide : 100 + 65536 ≤ _)⟩)
          dsimp only [Pt.U, Pt.locs, Pt.cells, Pt.slots] at X47 l47 y47 z47 st47 hQ47
          subst l47 y47 z47
          obtain ⟨qp, rfl, N47q, K47, hqp, TT47, GG47⟩ := hQ47
          have N47 := Fr.app N46 N47q
          refine own_st (fun _ k => st47.trans k) ?_
          have ne_b1_qp : b1 ≠ qp := Nat.ne_of_lt (Nat.lt_of_lt_of_le V1__45.lt hqp)
          have ne_b2_qp : b2 ≠ qp := Nat.ne_of_lt (Nat.lt_of_lt_of_le V2__45.lt hqp)
          have ne_b3_qp : b3 ≠ qp := Nat.ne_of_lt (Nat.lt_of_lt_of_le V3__45.lt hqp)
          have ne_b4_qp : b4 ≠ qp := Nat.ne_of_lt (Nat.lt_of_lt_of_le TU45.1.lt hqp)
          have ne_pg_qp : pg ≠ qp := Nat.ne_of_lt (Nat.lt_of_lt_of_le TU45.2.2.2.2.1.lt hqp)
          have ne_en_qp : en ≠ qp := Nat.ne_of_lt (Nat.lt_of_lt_of_le TU45.2.2.2.2.2.1.lt hqp)
          have sz_qp : h0.size ≤ qp := Nat.le_trans K0_45.1 hqp
          have gn_qp : n0 ≤ qp := Nat.le_trans Z0 sz_qp
          have V1__47 := V1__45.keep K47 (ninS ne_b1_b4 (ninS ne_b1_pg (ninS ne_b1_en nin0)))
          have V2__47 := V2__45.keep K47 (ninS ne_b2_b4 (ninS ne_b2_pg (ninS ne_b2_en nin0)))
          have V3__47 := V3__45.keep K47 (ninS ne_b3_b4 (ninS ne_b3_pg (ninS ne_b3_en nin0)))
          have K0_47 := own_ext_keep K0_45 K47 (allS sz_b4 (allS sz_pg (allS sz_en all0)))
          have TU47 : own_T Z T47.heap b4 pg en kP kE (3 : Int32) [(.int la), (.int (la + lb)), (.int ((la + lb) + lc))] (.ref qp) := TT47
          show own_Go p.tables e below F (T47.setTop (mkF m 152 #[.val (.int p0), .val (.int p1), .val (.int p2), .val (.int p3), .val (.int (3 : Int32)), .val (.int la), .val (.int lb), .val (.int lc), .val (.ref b1), .val (.ref b2), .val (.ref b3), .val (.ref b4), .val (.int (1 : Int32))] []))
          refine own_st (fun _ k => XS.iload X47.here hx rfl (hb hby at_152) rfl k) ?_
          show own_Go p.tables e below F (T47.setTop (mkF m 154 #[.val (.int p0), .val (.int p1), .val (.int p2), .val (.int p3), .val (.int (3 : Int32)), .val (.int la), .val (.int lb), .val (.int lc), .val (.ref b1), .val (.ref b2), .val (.ref b3), .val (.ref b4), .val (.int (1 : Int32))] [(.int (1 : Int32))]))
          refine own_st (fun _ k => XS.ifNo X47.here hx rfl (hb hby at_154) rfl ((if0 _ _).trans (feq (by decide : ¬ ((1 : Int32) = (0 : Int32)))).1) k) ?_
          show own_Go p.tables e below F (T47.setTop (mkF m 157 #[.val (.int p0), .val (.int p1), .val (.int p2), .val (.int p3), .val (.int (3 : Int32)), .val (.int la), .val (.int lb), .val (.int lc), .val (.ref b1), .val (.ref b2), .val (.ref b3), .val (.ref b4), .val (.int (1 : Int32))] []))
          refine own_st (fun _ k => XS.aload X47.here hx rfl (hb hby at_157) rfl rfl k) ?_
          show own_Go p.tables e below F (T47.setTop (mkF m 159 #[.val (.int p0), .val (.int p1), .val (.int p2), .val (.int p3), .val (.int (3 : Int32)), .val (.int la), .val (.int lb), .val (.int lc), .val (.ref b1), .val (.ref b2), .val (.ref b3), .val (.ref b4), .val (.int (1 : Int32))] [(.ref b4)]))
          obtain ⟨cq48, kq48, q48a, q48b, q48c⟩ := isOf hZ rfl TU47.1
          obtain ⟨_, _, ⟨T48, L48, k48, n48⟩, -, X48, ⟨Lc48, hQ48, l48, y48, z48⟩, st48⟩ := X47.virtualBack hx (y := (⟨"com/example/libmerit/libmerit/index/DocnoTable", "byteCount", "()I"⟩ : MethodName)) (z := (⟨"com/example/libmerit/libmerit/index/DocnoTable", "byteCount", "()I"⟩ : MethodName)) hown (mvT hZ (hw _ (List.mem_of_getElem? (i := 17) rfl))) (mvT hZ (hw _ (List.mem_of_getElem? (i := 18) rfl))) (notFace_of_selects (args := #[]) (mvT hZ (hw _ (List.mem_of_getElem? (i := 20) rfl)))) (mvT hZ (hw _ (List.mem_of_getElem? (i := 20) rfl))) (mvT hZ (hw _ (List.mem_of_getElem? (i := 19) rfl))) (by decide) (backOf (W := 0) (own_bcN l Z a0 hw [] b4 pg en kP kE (3 : Int32) _ _ ((la + lb) + lc) T47.heap n0 TU47 (by decide) ⟨by decide, by decide⟩ rfl) hZ (hw _ (List.mem_of_getElem? (i := 21) rfl)) (hw _ (List.mem_of_getElem? (i := 3) rfl)) (by decide) (by decide)) q48a q48c (g := (mkF m 159 #[.val (.int p0), .val (.int p1), .val (.int p2), .val (.int p3), .val (.int (3 : Int32)), .val (.int la), .val (.int lb), .val (.int lc), .val (.ref b1), .val (.ref b2), .val (.ref b3), .val (.ref b4), .val (.int (1 : Int32))] [(.ref b4)])) rfl (by rw [hml]; rfl) (Steps.refl _) (argsL := []) (rest := []) (lenOf pd_0 rfl) rfl (by show 2 * 0 + _ ≤ _; exact Nat.le_of_eq rfl) (hb hby at_159) (fun _ _ => ⟨rfl, rfl, (by decide : 7 + 0 ≤ _), (by decide : 65636 + 0 ≤ _)⟩)
          dsimp only [Pt.U, Pt.locs, Pt.cells, Pt.slots] at X48 l48 y48 z48 st48 hQ48
          subst l48 y48 z48
          obtain ⟨rfl, N48q, e48⟩ := hQ48
          have N48 := Fr.app N47 N48q
          refine own_st (fun _ k => st48.trans k) ?_
          show own_Go p.tables e below F (T48.setTop (mkF m 162 #[.val (.int p0), .val (.int p1), .val (.int p2), .val (.int p3), .val (.int (3 : Int32)), .val (.int la), .val (.int lb), .val (.int lc), .val (.ref b1), .val (.ref b2), .val (.ref b3), .val (.ref b4), .val (.int (1 : Int32))] [(.int ((la + lb) + lc))]))
          refine own_st (fun _ k => XS.iload X48.here hx rfl (hb hby at_162) rfl k) ?_
          show own_Go p.tables e below F (T48.setTop (mkF m 164 #[.val (.int p0), .val (.int p1), .val (.int p2), .val (.int p3), .val (.int (3 : Int32)), .val (.int la), .val (.int lb), .val (.int lc), .val (.ref b1), .val (.ref b2), .val (.ref b3), .val (.ref b4), .val (.int (1 : Int32))] [(.int la), (.int ((la + lb) + lc))]))
          refine own_st (fun _ k => XS.iload X48.here hx rfl (hb hby at_164) rfl k) ?_
          show own_Go p.tables e below F (T48.setTop (mkF m 166 #[.val (.int p0), .val (.int p1), .val (.int p2), .val (.int p3), .val (.int (3 : Int32)), .val (.int la), .val (.int lb), .val (.int lc), .val (.ref b1), .val (.ref b2), .val (.ref b3), .val (.ref b4), .val (.int (1 : Int32))] [(.int lb), (.int la), (.int ((la + lb) + lc))]))
          refine own_st (fun _ k => XS.iadd X48.here hx rfl (hb hby at_166) rfl k) ?_
          show own_Go p.tables e below F (T48.setTop (mkF m 167 #[.val (.int p0), .val (.int p1), .val (.int p2), .val (.int p3), .val (.int (3 : Int32)), .val (.int la), .val (.int lb), .val (.int lc), .val (.ref b1), .val (.ref b2), .val (.ref b3), .val (.ref b4), .val (.int (1 : Int32))] [(.int (la + lb)), (.int ((la + lb) + lc))]))
          refine own_st (fun _ k => XS.iload X48.here hx rfl (hb hby at_167) rfl k) ?_
          show own_Go p.tables e below F (T48.setTop (mkF m 169 #[.val (.int p0), .val (.int p1), .val (.int p2), .val (.int p3), .val (.int (3 : Int32)), .val (.int la), .val (.int lb), .val (.int lc), .val (.ref b1), .val (.ref b2), .val (.ref b3), .val (.ref b4), .val (.int (1 : Int32))] [(.int lc), (.int (la + lb)), (.int ((la + lb) + lc))]))
          refine own_st (fun _ k => XS.iadd X48.here hx rfl (hb hby at_169) rfl k) ?_
          show own_Go p.tables e below F (T48.setTop (mkF m 170 #[.val (.int p0), .val (.int p1), .val (.int p2), .val (.int p3), .val (.int (3 : Int32)), .val (.int la), .val (.int lb), .val (.int lc), .val (.ref b1), .val (.ref b2), .val (.ref b3), .val (.ref b4), .val (.int (1 : Int32))] [(.int ((la + lb) + lc)), (.int ((la + lb) + lc))]))
          refine own_st (fun _ k => XS.icmpNo X48.here hx rfl (hb hby at_170) rfl (teq (rfl : ((la + lb) + lc) = ((la + lb) + lc))).2 k) ?_
          show own_Go p.tables e below F (T48.setTop (mkF m 173 #[.val (.int p0), .val (.int p1), .val (.int p2), .val (.int p3), .val (.int (3 : Int32)), .val (.int la), .val (.int lb), .val (.int lc), .val (.ref b1), .val (.ref b2), .val (.ref b3), .val (.ref b4), .val (.int (1 : Int32))] []))
          refine own_st (fun _ k => XS.iconst X48.here hx rfl (hb hby at_173) k) ?_
          show own_Go p.tables e below F (T48.setTop (mkF m 174 #[.val (.int p0), .val (.int p1), .val (.int p2), .val (.int p3), .val (.int (3 : Int32)), .val (.int la), .val (.int lb), .val (.int lc), .val (.ref b1), .val (.ref b2), .val (.ref b3), .val (.ref b4), .val (.int (1 : Int32))] [(.int (1 : Int32))]))
          refine own_st (fun _ k => XS.goto X48.here hx rfl (pc0 := 174) (pc' := 178) rfl (hb hby at_174) (by decide) (by decide) k) ?_
          show own_Go p.tables e below F (T48.setTop (mkF m 178 #[.val (.int p0), .val (.int p1), .val (.int p2), .val (.int p3), .val (.int (3 : Int32)), .val (.int la), .val (.int lb), .val (.int lc), .val (.ref b1), .val (.ref b2), .val (.ref b3), .val (.ref b4), .val (.int (1 : Int32))] [(.int (1 : Int32))]))
          refine own_st (fun _ k => XS.istore X48.here hx rfl (hb hby at_178) rfl (l' := #[.val (.int p0), .val (.int p1), .val (.int p2), .val (.int p3), .val (.int (3 : Int32)), .val (.int la), .val (.int lb), .val (.int lc), .val (.ref b1), .val (.ref b2), .val (.ref b3), .val (.ref b4), .val (.int (1 : Int32))]) rfl k) ?_
          show own_Go p.tables e below F (T48.setTop (mkF m 180 #[.val (.int p0), .val (.int p1), .val (.int p2), .val (.int p3), .val (.int (3 : Int32)), .val (.int la), .val (.int lb), .val (.int lc), .val (.ref b1), .val (.ref b2), .val (.ref b3), .val (.ref b4), .val (.int (1 : Int32))] []))
          refine own_st (fun _ k => XS.iload X48.here hx rfl (hb hby at_180) rfl k) ?_
          show own_Go p.tables e below F (T48.setTop (mkF m 182 #[.val (.int p0), .val (.int p1), .val (.int p2), .val (.int p3), .val (.int (3 : Int32)), .val (.int la), .val (.int lb), .val (.int lc), .val (.ref b1), .val (.ref b2), .val (.ref b3), .val (.ref b4), .val (.int (1 : Int32))] [(.int (1 : Int32))]))
          obtain ⟨fs, hrL, hrun, hended, hW, hsame⟩ := X48.leave (v := some (.int (1 : Int32))) (fun h => by rw [Bd.returns] at h; cases h)
          refine own_end hF (o := .returned (some (.int (1 : Int32)))) (retN X48 hx (t := .boolean) Bd.returns (by simp) (hb hby at_182) hrL) ?_
          refine ⟨hrun, hended, _, _, rfl, ?_, ⟨_, rfl⟩, hW, hsame.mono (by decide) (by decide)⟩
          exact ⟨rfl, N48⟩
        ·
          obtain ⟨cq49, kq49, q49a, q49b, q49c⟩ := isOf hZ e46 TU45.1
          obtain ⟨_, _, ⟨T49, L49, k49, n49⟩, -, X49, ⟨Lc49, hQ49, l49, y49, z49⟩, st49⟩ := X46.virtualBack hx (y := (⟨"com/example/libmerit/libmerit/index/DocnoTable", "add", "([B)V"⟩ : MethodName)) (z := (⟨"com/example/libmerit/libmerit/index/DocnoTable", "add", "([B)V"⟩ : MethodName)) hown (mvT hZ (hw _ (List.mem_of_getElem? (i := 24) rfl))) (mvT hZ (hw _ (List.mem_of_getElem? (i := 25) rfl))) (notFace_of_selects (args := #[]) (mvT hZ (hw _ (List.mem_of_getElem? (i := 27) rfl)))) (mvT hZ (hw _ (List.mem_of_getElem? (i := 27) rfl))) (mvT hZ (hw _ (List.mem_of_getElem? (i := 26) rfl))) (by decide) (backOf (W := 0) (own_addZ l Z a0 hw [] b4 pg en b3 kP kE k3 (2 : Int32) (3 : Int32) (la + lb) lc ((la + lb) + lc) [(.int la), (.int (la + lb)), (.int (0 : Int32))] _ .null T45.heap n0 (Nat.le_trans Z0 K0_45.1) (own_bcN l Z a0 hw [] b4 pg en kP kE (2 : Int32) _ _ (la + lb) T45.heap n0 TU45 (by decide) ⟨by decide, by decide⟩ rfl) (own_B2 hA hB) hC V3__45 rfl ⟨by decide, by decide⟩ (by decide) (rfl) gn_b4 gn_pg gn_en ne_b4_en ne_b4_pg npe ne_b3_b4 ne_b3_pg ne_b3_en hp2 TU45) hZ (hw _ (List.mem_of_getElem? (i := 28) rfl)) (hw _ (List.mem_of_getElem? (i := 3) rfl)) (by decide) (by decide)) q49a q49c (g := (mkF m 149 #[.val (.int p0), .val (.int p1), .val (.int p2), .val (.int p3), .val (.int (3 : Int32)), .val (.int la), .val (.int lb), .val (.int lc), .val (.ref b1), .val (.ref b2), .val (.ref b3), .val (.ref b4), .val (.int (1 : Int32))] [(.ref b3), (.ref b4)])) rfl (by rw [hml]; rfl) (Steps.refl _) (argsL := [(.ref b3)]) (rest := []) (lenOf pd_3 rfl) rfl (by show 2 * 0 + _ ≤ _; exact Nat.le_of_eq rfl) (hb hby at_149) (fun _ _ => ⟨rfl, e46, (by decide : 6 + 0 ≤ _), (by decide : 100 + 0 ≤ _)⟩)
          dsimp only [Pt.U, Pt.locs, Pt.cells, Pt.slots] at X49 l49 y49 z49 st49 hQ49
          subst l49 y49 z49
          obtain ⟨rfl, N49q, K49, TT49⟩ := hQ49
          have N49 := Fr.app N46 N49q
          refine own_st (fun _ k => st49.trans k) ?_
          have V1__49 := V1__45.keep K49 (ninS ne_b1_b4 (ninS ne_b1_en nin0))
          have V2__49 := V2__45.keep K49 (ninS ne_b2_b4 (ninS ne_b2_en nin0))
          have V3__49 := V3__45.keep K49 (ninS ne_b3_b4 (ninS ne_b3_en nin0))
          have K0_49 := own_ext_keep K0_45 K49 (allS sz_b4 (allS sz_en all0))
          have TU49 : own_T Z T49.heap b4 pg en kP kE (3 : Int32) [(.int la), (.int (la + lb)), (.int ((la + lb) + lc))] .null := TT49
          show own_Go p.tables e below F (T49.setTop (mkF m 152 #[.val (.int p0), .val (.int p1), .val (.int p2), .val (.int p3), .val (.int (3 : Int32)), .val (.int la), .val (.int lb), .val (.int lc), .val (.ref b1), .val (.ref b2), .val (.ref b3), .val (.ref b4), .val (.int (1 : Int32))] []))
          refine own_st (fun _ k => XS.iload X49.here hx rfl (hb hby at_152) rfl k) ?_
          show own_Go p.tables e below F (T49.setTop (mkF m 154 #[.val (.int p0), .val (.int p1), .val (.int p2), .val (.int p3), .val (.int (3 : Int32)), .val (.int la), .val (.int lb), .val (.int lc), .val (.ref b1), .val (.ref b2), .val (.ref b3), .val (.ref b4), .val (.int (1 : Int32))] [(.int (1 : Int32))]))
          refine own_st (fun _ k => XS.ifNo X49.here hx rfl (hb hby at_154) rfl ((if0 _ _).trans (feq (by decide : ¬ ((1 : Int32) = (0 : Int32)))).1) k) ?_
          show own_Go p.tables e below F (T49.setTop (mkF m 157 #[.val (.int p0), .val (.int p1), .val (.int p2), .val (.int p3), .val (.int (3 : Int32)), .val (.int la), .val (.int lb), .val (.int lc), .val (.ref b1), .val (.ref b2), .val (.ref b3), .val (.ref b4), .val (.int (1 : Int32))] []))
          refine own_st (fun _ k => XS.aload X49.here hx rfl (hb hby at_157) rfl rfl k) ?_
          show own_Go p.tables e below F (T49.setTop (mkF m 159 #[.val (.int p0), .val (.int p1), .val (.int p2), .val (.int p3), .val (.int (3 : Int32)), .val (.int la), .val (.int lb), .val (.int lc), .val (.ref b1), .val (.ref b2), .val (.ref b3), .val (.ref b4), .val (.int (1 : Int32))] [(.ref b4)]))
          obtain ⟨cq50, kq50, q50a, q50b, q50c⟩ := isOf hZ rfl TU49.1
          obtain ⟨_, _, ⟨T50, L50, k50, n50⟩, -, X50, ⟨Lc50, hQ50, l50, y50, z50⟩, st50⟩ := X49.virtualBack hx (y := (⟨"com/example/libmerit/libmerit/index/DocnoTable", "byteCount", "()I"⟩ : MethodName)) (z := (⟨"com/example/libmerit/libmerit/index/DocnoTable", "byteCount", "()I"⟩ : MethodName)) hown (mvT hZ (hw _ (List.mem_of_getElem? (i := 17) rfl))) (mvT hZ (hw _ (List.mem_of_getElem? (i := 18) rfl))) (notFace_of_selects (args := #[]) (mvT hZ (hw _ (List.mem_of_getElem? (i := 20) rfl)))) (mvT hZ (hw _ (List.mem_of_getElem? (i := 20) rfl))) (mvT hZ (hw _ (List.mem_of_getElem? (i := 19) rfl))) (by decide) (backOf (W := 0) (own_bcN l Z a0 hw [] b4 pg en kP kE (3 : Int32) _ _ ((la + lb) + lc) T49.heap n0 TU49 (by decide) ⟨by decide, by decide⟩ rfl) hZ (hw _ (List.mem_of_getElem? (i := 21) rfl)) (hw _ (List.mem_of_getElem? (i := 3) rfl)) (by decide) (by decide)) q50a q50c (g := (mkF m 159 #[.val (.int p0), .val (.int p1), .val (.int p2), .val (.int p3), .val (.int (3 : Int32)), .val (.int la), .val (.int lb), .val (.int lc), .val (.ref b1), .val (.ref b2), .val (.ref b3), .val (.ref b4), .val (.int (1 : Int32))] [(.ref b4)])) rfl (by rw [hml]; rfl) (Steps.refl _) (argsL := []) (rest := []) (lenOf pd_0 rfl) rfl (by show 2 * 0 + _ ≤ _; exact Nat.le_of_eq rfl) (hb hby at_159) (fun _ _ => ⟨rfl, rfl, (by decide : 6 + 0 ≤ _), (by decide : 100 + 0 ≤ _)⟩)
          dsimp only [Pt.U, Pt.locs, Pt.cells, Pt.slots] at X50 l50 y50 z50 st50 hQ50
          subst l50 y50 z50
          obtain ⟨rfl, N50q, e50⟩ := hQ50
          have N50 := Fr.app N49 N50q
          refine own_st (fun _ k => st50.trans k) ?_
          show own_Go p.tables e below F (T50.setTop (mkF m 162 #[.val (.int p0), .val (.int p1), .val (.int p2), .val (.int p3), .val (.int (3 : Int32)), .val (.int la), .val (.int lb), .val (.int lc), .val (.ref b1), .val (.ref b2), .val (.ref b3), .val (.ref b4), .val (.int (1 : Int32))] [(.int ((la + lb) + lc))]))
          refine own_st (fun _ k => XS.iload X50.here hx rfl (hb hby at_162) rfl k) ?_
          show own_Go p.tables e below F (T50.setTop (mkF m 164 #[.val (.int p0), .val (.int p1), .val (.int p2), .val (.int p3), .val (.int (3 : Int32)), .val (.int la), .val (.int lb), .val (.int lc), .val (.ref b1), .val (.ref b2), .val (.ref b3), .val (.ref b4), .val (.int (1 : Int32))] [(.int la), (.int ((la + lb) + lc))]))
          refine own_st (fun _ k => XS.iload X50.here hx rfl (hb hby at_164) rfl k) ?_
          show own_Go p.tables e below F (T50.setTop (mkF m 166 #[.val (.int p0), .val (.int p1), .val (.int p2), .val (.int p3), .val (.int (3 : Int32)), .val (.int la), .val (.int lb), .val (.int lc), .val (.ref b1), .val (.ref b2), .val (.ref b3), .val (.ref b4), .val (.int (1 : Int32))] [(.int lb), (.int la), (.int ((la + lb) + lc))]))
          refine own_st (fun _ k => XS.iadd X50.here hx rfl (hb hby at_166) rfl k) ?_
          show own_Go p.tables e below F (T50.setTop (mkF m 167 #[.val (.int p0), .val (.int p1), .val (.int p2), .val (.int p3), .val (.int (3 : Int32)), .val (.int la), .val (.int lb), .val (.int lc), .val (.ref b1), .val (.ref b2), .val (.ref b3), .val (.ref b4), .val (.int (1 : Int32))] [(.int (la + lb)), (.int ((la + lb) + lc))]))
          refine own_st (fun _ k => XS.iload X50.here hx rfl (hb hby at_167) rfl k) ?_
          show own_Go p.tables e below F (T50.setTop (mkF m 169 #[.val (.int p0), .val (.int p1), .val (.int p2), .val (.int p3), .val (.int (3 : Int32)), .val (.int la), .val (.int lb), .val (.int lc), .val (.ref b1), .val (.ref b2), .val (.ref b3), .val (.ref b4), .val (.int (1 : Int32))] [(.int lc), (.int (la + lb)), (.int ((la + lb) + lc))]))
          refine own_st (fun _ k => XS.iadd X50.here hx rfl (hb hby at_169) rfl k) ?_
          show own_Go p.tables e below F (T50.setTop (mkF m 170 #[.val (.int p0), .val (.int p1), .val (.int p2), .val (.int p3), .val (.int (3 : Int32)), .val (.int la), .val (.int lb), .val (.int lc), .val (.ref b1), .val (.ref b2), .val (.ref b3), .val (.ref b4), .val (.int (1 : Int32))] [(.int ((la + lb) + lc)), (.int ((la + lb) + lc))]))
          refine own_st (fun _ k => XS.icmpNo X50.here hx rfl (hb hby at_170) rfl (teq (rfl : ((la + lb) + lc) = ((la + lb) + lc))).2 k) ?_
          show own_Go p.tables e below F (T50.setTop (mkF m 173 #[.val (.int p0), .val (.int p1), .val (.int p2), .val (.int p3), .val (.int (3 : Int32)), .val (.int la), .val (.int lb), .val (.int lc), .val (.ref b1), .val (.ref b2), .val (.ref b3), .val (.ref b4), .val (.int (1 : Int32))] []))
          refine own_st (fun _ k => XS.iconst X50.here hx rfl (hb hby at_173) k) ?_
          show own_Go p.tables e below F (T50.setTop (mkF m 174 #[.val (.int p0), .val (.int p1), .val (.int p2), .val (.int p3), .val (.int (3 : Int32)), .val (.int la), .val (.int lb), .val (.int lc), .val (.ref b1), .val (.ref b2), .val (.ref b3), .val (.ref b4), .val (.int (1 : Int32))] [(.int (1 : Int32))]))
          refine own_st (fun _ k => XS.goto X50.here hx rfl (pc0 := 174) (pc' := 178) rfl (hb hby at_174) (by decide) (by decide) k) ?_
          show own_Go p.tables e below F (T50.setTop (mkF m 178 #[.val (.int p0), .val (.int p1), .val (.int p2), .val (.int p3), .val (.int (3 : Int32)), .val (.int la), .val (.int lb), .val (.int lc), .val (.ref b1), .val (.ref b2), .val (.ref b3), .val (.ref b4), .val (.int (1 : Int32))] [(.int (1 : Int32))]))
          refine own_st (fun _ k => XS.istore X50.here hx rfl (hb hby at_178) rfl (l' := #[.val (.int p0), .val (.int p1), .val (.int p2), .val (.int p3), .val (.int (3 : Int32)), .val (.int la), .val (.int lb), .val (.int lc), .val (.ref b1), .val (.ref b2), .val (.ref b3), .val (.ref b4), .val (.int (1 : Int32))]) rfl k) ?_
          show own_Go p.tables e below F (T50.setTop (mkF m 180 #[.val (.int p0), .val (.int p1), .val (.int p2), .val (.int p3), .val (.int (3 : Int32)), .val (.int la), .val (.int lb), .val (.int lc), .val (.ref b1), .val (.ref b2), .val (.ref b3), .val (.ref b4), .val (.int (1 : Int32))] []))
          refine own_st (fun _ k => XS.iload X50.here hx rfl (hb hby at_180) rfl k) ?_
          show own_Go p.tables e below F (T50.setTop (mkF m 182 #[.val (.int p0), .val (.int p1), .val (.int p2), .val (.int p3), .val (.int (3 : Int32)), .val (.int la), .val (.int lb), .val (.int lc), .val (.ref b1), .val (.ref b2), .val (.ref b3), .val (.ref b4), .val (.int (1 : Int32))] [(.int (1 : Int32))]))
          obtain ⟨fs, hrL, hrun, hended, hW, hsame⟩ := X50.leave (v := some (.int (1 : Int32))) (fun h => by rw [Bd.returns] at h; cases h)
          refine own_end hF (o := .returned (some (.int (1 : Int32)))) (retN X50 hx (t := .boolean) Bd.returns (by simp) (hb hby at_182) hrL) ?_
          refine ⟨hrun, hended, _, _, rfl, ?_, ⟨_, rfl⟩, hW, hsame.mono (by decide) (by decide)⟩
          exact ⟨rfl, N50⟩
set_option maxRecDepth 65536 in
set_option maxHeartbeats 40000000 in
theorem comes_1 {Post : Tables → Env → Array Value → State → Outcome → State → Prop} (hpost : ∀ tb e args s v u, (limb_1_1.after args s (.returned v) u = true ∧ limb_1_2.after args s (.returned v) u = true ∧ True) → FrameEnd s (.returned v) u (Jvm.fieldLocs frame_1_writes args s ++ Jvm.arrayLocs frame_1_arrays args s ++ Jvm.staticLocs frame_1_statics s) 24 131392 → Post tb e args s (.returned v) u) :
    ArmFor flags0 classFile x code maxLocals ret World_1 tables_1 room_1 Calls_1 rest_1 Pre_1 Post := by
  intro l hfl _ _ p e ha hc hk s m args below hf hA hF happ hP
  obtain ⟨hcalls, hrest, hpre⟩ := hP
  obtain ⟨-, -, -, hnamed, -, -, -, hat⟩ := (Spec.applies_iff hf).mp happ
  obtain ⟨hg, hn⟩ := and_e (Cond.before_iff.mp (show (Jvm.Cond.and given_1 narrow_1).before args s = true from hpre))
  obtain ⟨gc, gr0⟩ := and_e hg
  obtain ⟨ga0, gr1⟩ := and_e gr0
  obtain ⟨ga1, gr2⟩ := and_e gr1
  obtain ⟨ga2, gr3⟩ := and_e gr2
  have ga3 := gr3
  obtain ⟨w0, w1, w2, w3, rfl⟩ : ∃ w0 w1 w2 w3 : Value, args = #[w0, w1, w2, w3] := by
    have hs : args.size = 4 := by simpa [Cond.value, given_1] using gc
    obtain ⟨L⟩ := args
    match L, hs with
    | [w0, w1, w2, w3], _ => exact ⟨w0, w1, w2, w3, rfl⟩
  have hw := fun d (hd : d ∈ tables_1) => atoms_spec (ws := Jvm.Cond.code x code maxLocals ret :: tables_1) hat d (List.mem_cons_of_mem _ hd)
  have hfit : Fit s := fun {y c} hc i hi => by
    obtain ⟨ha, rfl⟩ := Array.getElem?_eq_some_iff.mp hc
    have q := List.all_eq_true.mp ((Array.all_eq_true_iff_forall_mem.mp hF) _ (Array.getElem_mem ha)) i (List.mem_range.mpr hi)
    simpa [Array.getElem?_eq_getElem hi] using q
  obtain ⟨i0, ei0⟩ := is_v ga0
  obtain rfl : w0 = (.int i0) := Option.some.inj ei0
  obtain ⟨i1, ei1⟩ := is_v ga1
  obtain rfl : w1 = (.int i1) := Option.some.inj ei1
  obtain ⟨i2, ei2⟩ := is_v ga2
  obtain rfl : w2 = (.int i2) := Option.some.inj ei2
  obtain ⟨i3, ei3⟩ := is_v ga3
  obtain rfl : w3 = (.int i3) := Option.some.inj ei3
  obtain ⟨n, o, h1, h2, h3, _, L, rfl, ⟨rfl, N⟩, hq⟩ := (own_law l s _ hw tables_1 i0 i1 i2 i3 s.heap s.heap.size (Nat.le_refl _)) p e ha hc hk s m _ below hf ((Spec.applies_iff_loose hf).mp happ).1 ⟨rfl, State.Warmed39.refl s, rfl⟩ trivial
  refine ⟨n, _, h1, h2, h3, hpost _ _ _ _ _ _ ⟨Cond.after_iff.mpr rfl, Cond.after_iff.mpr (eq_i res_at (Term.int_eval (1)) rfl), trivial⟩ ⟨hq.1, hq.2.1, (hq.2.2.sift fun y hy => Or.inr (N y hy)).mono (by decide) (by decide)⟩⟩
theorem main_1_1 : Claimed_1_1 := comes_1 fun _ _ _ _ _ _ h hF => ⟨h.1, hF⟩
theorem main_1_2 : Claimed_1_2 := comes_1 fun _ _ _ _ _ _ h hF => ⟨h.2.1, hF⟩
end Jvm.Pilot.@@N@@
namespace Jvm.Pilot.@@N@@
open Jvm Jvm.ClassFile Sem Op Lib Jvm.Free Jvm.Stand Jvm.Pilot.@@N@@.Jvm.D
/-! MADE BY PROGRAM (witnessworld.py) out of the Statement's table words and the real class files: 11 classes; the members and pool entries that the words name. The judged class is class 1, her method 1. -/
namespace start1
open Jvm.ClassFile
def u (s : String) : CpInfo := .utf8 (stringToUtf16 s)
/-- a pool by its gaps: so many unusable entries, then the entry; so many at the end -/
def gap : Nat → List CpInfo → List CpInfo
  | 0, r => r
  | n + 1, r => .unusable :: gap n r
def poolList (es : List (Nat × CpInfo)) (last : Nat) : List CpInfo := es.foldr (fun e r => gap e.1 (e.2 :: r)) (gap last [])
def pool (es : List (Nat × CpInfo)) (last : Nat) : Array CpInfo := ⟨poolList es last⟩
def fileOf (pool : Array CpInfo) (this : Nat) (attrs : Array Attribute := #[]) (ms : Array MethodInfo := #[]) (fl : Nat := 33) (sup : Nat := 0) (ifs : Array Nat := #[]) (fds : Array FieldInfo := #[]) : ClassFile where
  minorVersion := 0
  majorVersion := 65
  constantPool := pool
  accessFlags := fl
  thisClass := this
  superClass := sup
  interfaces := ifs
  fields := fds
  methods := ms
  attributes := attrs
def plain (name : String) (sup : Option ClassId) : Class where
  name := name
  kind := .ordinary
  loader := none
  accessFlags := 33
  super := sup
  interfaces := #[]
  cf := none
  fields := #[]
  methods := #[]
  instanceTypes := #[]
  staticTypes := #[]
  resolved := #[]
  callSites := []
  init := .initialized
  statics := none
  mirror := none

def pool0 : Array CpInfo := pool [(5, u "<init>"), (0, u "()V"), (1, .class_ 10), (1, u "java/lang/Object")] 113

def k0c0 : Code := { maxStack := 0, maxLocals := 1, code := object_method_1_code, exceptionTable := #[], attributes := #[] }
def k0m0 : Method := { name := "<init>", desc := "()V", sig := { parameters := [], returnType := none }, accessFlags := 1, code := some k0c0 }
/-- java/lang/Object -/
def k0 : Class := { plain "java/lang/Object" none with
  accessFlags := 33
  interfaces := #[]
  cf := some (fileOf pool0 8 #[] #[{ accessFlags := 1, nameIndex := 5, descriptorIndex := 6, attributes := #[] }] 33 0 #[] #[])
  fields := #[]
  methods := #[k0m0]
  instanceTypes := #[]
  staticTypes := #[]
  resolved := Array.replicate 124 none
  statics := none }

def pool1 : Array CpInfo := pool [(2, .class_ 4), (1, u "java/lang/Object"), (0, u "<init>"), (0, u "()V"), (0, .class_ 8), (0, u "com/example/libmerit/libmerit/index/DocnoTable"), (0, .methodref 7 10), (0, .nameAndType 5 11), (0, u "(I)V"), (0, .methodref 7 13), (0, .nameAndType 14 15), (0, u "byteCount"), (0, u "()I"), (0, .methodref 7 17), (0, .nameAndType 18 19), (0, u "add"), (0, u "([B)V"), (0, .class_ 21), (0, u "com/example/libmerit/libmerit/index/DocnoTableByteCountPinLaw"), (2, u "law"), (0, u "(IIII)Z")] 5

def k1m0 : Method := { name := "<init>", desc := "()V", sig := { parameters := [], returnType := none }, accessFlags := 1, code := none }
def k1c1 : Code := { maxStack := 3, maxLocals := 13, code := code, exceptionTable := #[], attributes := #[] }
def k1m1 : Method := { name := "law", desc := "(IIII)Z", sig := { parameters := [.int, .int, .int, .int], returnType := some .boolean }, accessFlags := 9, code := some k1c1 }
/-- com/example/libmerit/libmerit/index/DocnoTableByteCountPinLaw -/
def k1 : Class := { plain "com/example/libmerit/libmerit/index/DocnoTableByteCountPinLaw" (some 0) with
  accessFlags := 49
  interfaces := #[]
  cf := some (fileOf pool1 20 #[] #[{ accessFlags := 1, nameIndex := 5, descriptorIndex := 6, attributes := #[] }, { accessFlags := 9, nameIndex := 24, descriptorIndex := 25, attributes := #[] }] 49 2 #[] #[])
  fields := #[]
  methods := #[k1m0, k1m1]
  instanceTypes := #[]
  staticTypes := #[]
  resolved := Array.replicate 31 none
  statics := none }

def pool2 : Array CpInfo := pool [(1, .class_ 2), (0, u "com/example/libmerit/libmerit/index/DocnoTable"), (0, .methodref 4 5), (0, .class_ 6), (0, .nameAndType 7 8), (0, u "java/lang/Object"), (0, u "<init>"), (0, u "()V"), (0, .class_ 10), (0, u "[B"), (0, .fieldref 1 12), (0, .nameAndType 13 14), (0, u "pages"), (0, u "[[B"), (0, .fieldref 1 16), (0, .nameAndType 17 18), (0, u "ends"), (0, u "[I"), (0, .fieldref 1 20), (0, .nameAndType 21 22), (0, u "size"), (0, u "I"), (0, .methodref 1 24), (0, .nameAndType 25 26), (0, u "byteCount"), (0, u "()I"), (13, .integer 65536), (0, .integer 65535), (0, .methodref 43 44), (0, .class_ 45), (0, .nameAndType 46 47), (0, u "java/lang/Math"), (0, u "min"), (0, u "(II)I"), (0, .methodref 49 50), (0, .class_ 51), (0, .nameAndType 52 53), (0, u "java/lang/System"), (0, u "arraycopy"), (0, u "(Ljava/lang/Object;ILjava/lang/Object;II)V"), (11, u "PAGE_BITS"), (2, u "PAGE_SIZE"), (0, u "(I)V"), (3, u "add"), (0, u "([B)V")] 4

def k2c0 : Code := { maxStack := 2, maxLocals := 2, code := prog_19_method_1_code, exceptionTable := #[], attributes := #[] }
def k2m0 : Method := { name := "<init>", desc := "(I)V", sig := { parameters := [.int], returnType := none }, accessFlags := 0, code := some k2c0 }
def k2c1 : Code := { maxStack := 3, maxLocals := 1, code := prog_19_method_2_code, exceptionTable := #[], attributes := #[] }
def k2m1 : Method := { name := "byteCount", desc := "()I", sig := { parameters := [], returnType := some .int }, accessFlags := 0, code := some k2c1 }
def k2c2 : Code := { maxStack := 5, maxLocals := 7, code := prog_19_method_3_code, exceptionTable := #[], attributes := #[] }
def k2m2 : Method := { name := "add", desc := "([B)V", sig := { parameters := [(.array .byte)], returnType := none }, accessFlags := 0, code := some k2c2 }
/-- com/example/libmerit/libmerit/index/DocnoTable -/
def k2 : Class := { plain "com/example/libmerit/libmerit/index/DocnoTable" (some 0) with
  accessFlags := 48
  interfaces := #[]
  cf := some (fileOf pool2 1 #[] #[{ accessFlags := 0, nameIndex := 7, descriptorIndex := 69, attributes := #[] }, { accessFlags := 0, nameIndex := 25, descriptorIndex := 26, attributes := #[] }, { accessFlags := 0, nameIndex := 73, descriptorIndex := 74, attributes := #[] }] 48 4 #[] #[{ accessFlags := 26, nameIndex := 65, descriptorIndex := 22, attributes := #[] }, { accessFlags := 26, nameIndex := 68, descriptorIndex := 22, attributes := #[] }, { accessFlags := 18, nameIndex := 17, descriptorIndex := 18, attributes := #[] }, { accessFlags := 2, nameIndex := 13, descriptorIndex := 14, attributes := #[] }, { accessFlags := 2, nameIndex := 21, descriptorIndex := 22, attributes := #[] }])
  fields := #[{ name := "PAGE_BITS", type := .int, accessFlags := 26, slot := 0, constantValue := 0 }, { name := "PAGE_SIZE", type := .int, accessFlags := 26, slot := 1, constantValue := 0 }, { name := "ends", type := (.array .int), accessFlags := 18, slot := 0, constantValue := 0 }, { name := "pages", type := (.array (.array .byte)), accessFlags := 2, slot := 1, constantValue := 0 }, { name := "size", type := .int, accessFlags := 2, slot := 2, constantValue := 0 }]
  methods := #[k2m0, k2m1, k2m2]
  instanceTypes := #[(.array .int), (.array (.array .byte)), .int]
  staticTypes := #[.int, .int]
  resolved := Array.replicate 79 none
  statics := none }

def pool3 : Array CpInfo := pool [(1, .class_ 2), (0, u "java/lang/Math"), (1, .class_ 6), (1, u "java/lang/Object"), (0, u "<init>"), (0, u "()V"), (89, .class_ 100), (1, u "java/lang/Math$RandomNumberGeneratorHolder"), (71, u "negativeZeroFloatBits"), (0, u "J"), (2, u "negativeZeroDoubleBits"), (24, u "min"), (43, u "$assertionsDisabled"), (0, u "Z"), (88, u "(II)I"), (2, u "twoToTheDoubleScaleDown"), (0, u "D"), (4, u "twoToTheDoubleScaleUp"), (9, u "E"), (3, u "PI"), (2, u "TAU"), (2, u "DEGREES_TO_RADIANS"), (0, u "RADIANS_TO_DEGREES")] 94

def k3m0 : Method := { name := "<init>", desc := "()V", sig := { parameters := [], returnType := none }, accessFlags := 2, code := none }
def k3c1 : Code := { maxStack := 2, maxLocals := 2, code := jdk_29_method_69_code, exceptionTable := #[], attributes := #[] }
def k3m1 : Method := { name := "min", desc := "(II)I", sig := { parameters := [.int, .int], returnType := some .int }, accessFlags := 9, code := some k3c1 }
/-- java/lang/Math -/
def k3 : Class := { plain "java/lang/Math" (some 0) with
  accessFlags := 49
  interfaces := #[]
  cf := some (fileOf pool3 1 #[.nestMembers #[98]] #[{ accessFlags := 2, nameIndex := 7, descriptorIndex := 8, attributes := #[] }, { accessFlags := 9, nameIndex := 201, descriptorIndex := 335, attributes := #[] }] 49 4 #[] #[{ accessFlags := 25, nameIndex := 354, descriptorIndex := 339, attributes := #[] }, { accessFlags := 25, nameIndex := 358, descriptorIndex := 339, attributes := #[] }, { accessFlags := 25, nameIndex := 361, descriptorIndex := 339, attributes := #[] }, { accessFlags := 26, nameIndex := 364, descriptorIndex := 339, attributes := #[] }, { accessFlags := 26, nameIndex := 365, descriptorIndex := 339, attributes := #[] }, { accessFlags := 26, nameIndex := 172, descriptorIndex := 173, attributes := #[] }, { accessFlags := 26, nameIndex := 176, descriptorIndex := 173, attributes := #[] }, { accessFlags := 8, nameIndex := 344, descriptorIndex := 339, attributes := #[] }, { accessFlags := 8, nameIndex := 338, descriptorIndex := 339, attributes := #[] }, { accessFlags := 4120, nameIndex := 245, descriptorIndex := 246, attributes := #[] }])
  fields := #[{ name := "E", type := .double, accessFlags := 25, slot := 0, constantValue := 0 }, { name := "PI", type := .double, accessFlags := 25, slot := 1, constantValue := 0 }, { name := "TAU", type := .double, accessFlags := 25, slot := 2, constantValue := 0 }, { name := "DEGREES_TO_RADIANS", type := .double, accessFlags := 26, slot := 3, constantValue := 0 }, { name := "RADIANS_TO_DEGREES", type := .double, accessFlags := 26, slot := 4, constantValue := 0 }, { name := "negativeZeroFloatBits", type := .long, accessFlags := 26, slot := 5, constantValue := 0 }, { name := "negativeZeroDoubleBits", type := .long, accessFlags := 26, slot := 6, constantValue := 0 }, { name := "twoToTheDoubleScaleUp", type := .double, accessFlags := 8, slot := 7, constantValue := 0 }, { name := "twoToTheDoubleScaleDown", type := .double, accessFlags := 8, slot := 8, constantValue := 0 }, { name := "$assertionsDisabled", type := .boolean, accessFlags := 4120, slot := 9, constantValue := 0 }]
  methods := #[k3m0, k3m1]
  instanceTypes := #[]
  staticTypes := #[.double, .double, .double, .double, .double, .long, .long, .double, .double, .boolean]
  resolved := Array.replicate 460 none
  statics := none }

def pool4 : Array CpInfo := pool [(2, .class_ 4), (1, u "java/lang/Object"), (0, u "<init>"), (0, u "()V"), (1, .class_ 10), (1, u "java/lang/System"), (0, u "allowSecurityManager"), (0, u "I"), (16, u "cons"), (0, u "Ljava/io/Console;"), (77, .class_ 110), (1, u "java/lang/System$CallersHolder"), (43, u "initialErrStream"), (0, u "Ljava/io/PrintStream;"), (19, u "security"), (0, u "Ljava/lang/SecurityManager;"), (31, .class_ 209), (0, u "java/lang/System$1"), (7, u "props"), (0, u "Ljava/util/Properties;"), (2, u "lineSeparator"), (0, u "Ljava/lang/String;"), (96, .class_ 321), (1, u "java/lang/System$LoggerFinder"), (5, .class_ 328), (0, u "java/lang/System$Logger"), (67, u "err"), (2, u "out"), (91, u "notSupportedJnuEncoding"), (15, u "in"), (17, u "initialIn"), (0, u "Ljava/io/InputStream;"), (35, u "bootLayer"), (0, u "Ljava/lang/ModuleLayer;"), (99, .class_ 664), (0, u "java/lang/System$2"), (9, u "NEVER"), (2, u "MAYBE"), (49, u "arraycopy"), (0, u "(Ljava/lang/Object;ILjava/lang/Object;II)V"), (72, .class_ 802), (0, u "java/lang/System$Logger$Level")] 31

def k4m0 : Method := { name := "<init>", desc := "()V", sig := { parameters := [], returnType := none }, accessFlags := 2, code := none }
def k4m1 : Method := { name := "arraycopy", desc := "(Ljava/lang/Object;ILjava/lang/Object;II)V", sig := { parameters := [(.object "java/lang/Object"), .int, (.object "java/lang/Object"), .int, .int], returnType := none }, accessFlags := 265, code := none }
/-- java/lang/System -/
def k4 : Class := { plain "java/lang/System" (some 0) with
  accessFlags := 49
  interfaces := #[]
  cf := some (fileOf pool4 8 #[.nestMembers #[319, 327, 801, 108, 663, 208]] #[{ accessFlags := 2, nameIndex := 5, descriptorIndex := 6, attributes := #[] }, { accessFlags := 265, nameIndex := 727, descriptorIndex := 728, attributes := #[] }] 49 2 #[] #[{ accessFlags := 25, nameIndex := 507, descriptorIndex := 526, attributes := #[] }, { accessFlags := 25, nameIndex := 399, descriptorIndex := 155, attributes := #[] }, { accessFlags := 25, nameIndex := 396, descriptorIndex := 155, attributes := #[] }, { accessFlags := 10, nameIndex := 525, descriptorIndex := 526, attributes := #[] }, { accessFlags := 26, nameIndex := 674, descriptorIndex := 12, attributes := #[] }, { accessFlags := 26, nameIndex := 677, descriptorIndex := 12, attributes := #[] }, { accessFlags := 10, nameIndex := 11, descriptorIndex := 12, attributes := #[] }, { accessFlags := 74, nameIndex := 175, descriptorIndex := 176, attributes := #[] }, { accessFlags := 10, nameIndex := 491, descriptorIndex := 222, attributes := #[] }, { accessFlags := 74, nameIndex := 29, descriptorIndex := 30, attributes := #[] }, { accessFlags := 74, nameIndex := 154, descriptorIndex := 155, attributes := #[] }, { accessFlags := 10, nameIndex := 217, descriptorIndex := 218, attributes := #[] }, { accessFlags := 10, nameIndex := 221, descriptorIndex := 222, attributes := #[] }, { accessFlags := 8, nameIndex := 562, descriptorIndex := 563, attributes := #[] }])
  fields := #[{ name := "in", type := (.object "java/io/InputStream"), accessFlags := 25, slot := 0, constantValue := 0 }, { name := "out", type := (.object "java/io/PrintStream"), accessFlags := 25, slot := 1, constantValue := 0 }, { name := "err", type := (.object "java/io/PrintStream"), accessFlags := 25, slot := 2, constantValue := 0 }, { name := "initialIn", type := (.object "java/io/InputStream"), accessFlags := 10, slot := 3, constantValue := 0 }, { name := "NEVER", type := .int, accessFlags := 26, slot := 4, constantValue := 0 }, { name := "MAYBE", type := .int, accessFlags := 26, slot := 5, constantValue := 0 }, { name := "allowSecurityManager", type := .int, accessFlags := 10, slot := 6, constantValue := 0 }, { name := "security", type := (.object "java/lang/SecurityManager"), accessFlags := 74, slot := 7, constantValue := 0 }, { name := "notSupportedJnuEncoding", type := (.object "java/lang/String"), accessFlags := 10, slot := 8, constantValue := 0 }, { name := "cons", type := (.object "java/io/Console"), accessFlags := 74, slot := 9, constantValue := 0 }, { name := "initialErrStream", type := (.object "java/io/PrintStream"), accessFlags := 74, slot := 10, constantValue := 0 }, { name := "props", type := (.object "java/util/Properties"), accessFlags := 10, slot := 11, constantValue := 0 }, { name := "lineSeparator", type := (.object "java/lang/String"), accessFlags := 10, slot := 12, constantValue := 0 }, { name := "bootLayer", type := (.object "java/lang/ModuleLayer"), accessFlags := 8, slot := 13, constantValue := 0 }]
  methods := #[k4m0, k4m1]
  instanceTypes := #[]
  staticTypes := #[(.object "java/io/InputStream"), (.object "java/io/PrintStream"), (.object "java/io/PrintStream"), (.object "java/io/InputStream"), .int, .int, .int, (.object "java/lang/SecurityManager"), (.object "java/lang/String"), (.object "java/io/Console"), (.object "java/io/PrintStream"), (.object "java/util/Properties"), (.object "java/lang/String"), (.object "java/lang/ModuleLayer")]
  resolved := Array.replicate 834 none
  statics := none }

def pool5 : Array CpInfo := pool [(1, u "java/lang/Cloneable"), (0, .class_ 1), (0, u "java/lang/Object"), (0, .class_ 3)] 3

/-- java/lang/Cloneable -/
def k5 : Class := { plain "java/lang/Cloneable" (some 0) with
  accessFlags := 1537
  interfaces := #[]
  cf := some (fileOf pool5 2 #[] #[] 1537 4 #[] #[])
  fields := #[]
  methods := #[]
  instanceTypes := #[]
  staticTypes := #[]
  resolved := Array.replicate 8 none
  statics := none }

def pool6 : Array CpInfo := pool [(1, u "java/io/Serializable"), (0, .class_ 1), (0, u "java/lang/Object"), (0, .class_ 3)] 3

/-- java/io/Serializable -/
def k6 : Class := { plain "java/io/Serializable" (some 0) with
  accessFlags := 1537
  interfaces := #[]
  cf := some (fileOf pool6 2 #[] #[] 1537 4 #[] #[])
  fields := #[]
  methods := #[]
  instanceTypes := #[]
  staticTypes := #[]
  resolved := Array.replicate 8 none
  statics := none }

/-- the primitive byte -/
def k7 : Class := { plain "byte" none with kind := .primitive 'B', accessFlags := 0x411 }
/-- [B -/
def k8 : Class := { plain "[B" (some 0) with kind := .array 7 .byte, interfaces := #[5, 6], accessFlags := 1041 }
/-- [[B -/
def kBB : Class := { plain "[[B" (some 0) with kind := .array 8 (.array .byte), interfaces := #[5, 6], accessFlags := 1041 }

/-- the primitive int -/
def k9 : Class := { plain "int" none with kind := .primitive 'I', accessFlags := 0x411 }
/-- [I -/
def k10 : Class := { plain "[I" (some 0) with kind := .array 9 .int, interfaces := #[5, 6], accessFlags := 1041 }

def heap : Heap := #[]
def classes : Array Class := #[k0, k1, k2, k3, k4, k5, k6, k7, k8, k9, k10, kBB]
def interned : List (Array UInt16 × Addr) := []
def slotsUsed : Nat := 0
def theMethod : MethodId := ⟨1, 1⟩
def args0 : Array Value := #[.int 3, .int 4, .int 5, .int 6]
def aboutOver (below : List Frame) : State where
  vm := { classes := classes, interned := interned.toArray }
  heap := heap
  slotsUsed := slotsUsed
  threads := #[{ frames := .invoking theMethod args0 :: below }]
def below0 : List Frame := [.native { method := ⟨0, 0⟩, args := #[] }]
def about1 : State := aboutOver below0
def p0 : Program := .bare "" "" ""
def e0 : Env := launch0.env 0 0 0
theorem w_frames : about1.frames = Frame.invoking theMethod args0 :: below0 := rfl
set_option maxRecDepth 65536 in
theorem w_args : argsFit about1.vm theMethod args0 = true := by decide +kernel
set_option maxRecDepth 65536 in
theorem w_heap : heapFits about1 = true := by decide +kernel
set_option maxRecDepth 65536 in
theorem w_runnable : about1.curStatus? = some .runnable := by decide +kernel
set_option maxRecDepth 65536 in
theorem w_alone : about1.alone = true := by decide +kernel
set_option maxRecDepth 65536 in
theorem w_named : about1.methodNamed? x = some theMethod := by decide +kernel
set_option maxRecDepth 65536 in
theorem w_hears : about1.hears theMethod below0 = true := by decide +kernel
set_option maxRecDepth 65536 in
theorem w_ripe : about1.ripe theMethod args0 below0 = true := by decide +kernel
theorem w_running : about1.status = .running := rfl
set_option maxRecDepth 65536 in
theorem w_room : about1.hasRoom e0.platform room_1 = true :=
  launch0.hasRoom_least _ room_1 (by decide +kernel) (by decide +kernel) (by decide +kernel) (by decide +kernel) (by decide +kernel) (by decide +kernel)
theorem allAtoms_all (ts : List Jvm.Cond) (a : Array Jvm.Value) (st : Jvm.State) : (allAtoms ts).before a st = ts.all (fun c => c.before a st) := by
  induction ts with
  | nil => rfl
  | cons c t ih =>
    show (Jvm.Cond.and c (allAtoms t)).before a st = _
    rw [Jvm.Cond.before_and, ih, List.all_cons]
def words1 : List Jvm.Cond := Jvm.Cond.code x code maxLocals ret :: tables_1
/-- a 'code' word, met by the world's own term for the bytes: nothing is compared byte by byte -/
theorem code_word {y : MethodName} {bytes : ByteArray} {mx : Nat} {rt : Option FieldType} {a : Array Value} {s : State} {m : MethodId} {meth : Method} {c : Code} (h1 : s.methodNamed? y = some m) (h2 : s.vm.method? m = some meth) (h3 : meth.code = some c) (h4 : c.code = bytes)
    (h5 : (c.maxLocals == mx && c.exceptionTable.isEmpty && decide (c.maxStack ≤ mostOperands) && decide (meth.sig.returnType = rt) && !meth.locks && decide (parseMethodDescriptor y.desc = some meth.sig)) = true) : (Jvm.Cond.code y bytes mx rt).before a s = true := by
  simp only [Bool.and_eq_true, beq_iff_eq, Bool.not_eq_true', decide_eq_true_eq] at h5
  obtain ⟨⟨⟨⟨⟨g1, g2⟩, g3⟩, g4⟩, g5⟩, g6⟩ := h5
  simp [Cond.before, Cond.holds, Cond.value, h1, h2, h3, h4, g1, g2, g3, g4, g5, g6]
def isCode : Jvm.Cond → Bool
  | .code _ _ _ _ => true
  | _ => false
theorem all_split {L : List Jvm.Cond} {P : Jvm.Cond → Bool} (h1 : L.all (fun c => isCode c || P c) = true) (h2 : ∀ c ∈ L.filter isCode, P c = true) : L.all P = true := by
  refine List.all_eq_true.mpr fun c hc => ?_
  have h := List.all_eq_true.mp h1 c hc
  rcases Bool.eq_false_or_eq_true (isCode c) with hi | hi
  · exact h2 c (List.mem_filter.mpr ⟨hc, hi⟩)
  · simpa [hi] using h
set_option maxRecDepth 65536 in
theorem w_c0 : (Jvm.Cond.code x code maxLocals ret).before args0 about1 = true := code_word (m := ⟨1, 1⟩) (meth := k1m1) (c := k1c1) (by decide +kernel) rfl rfl rfl (by decide +kernel)
set_option maxRecDepth 65536 in
theorem w_c1 : (Jvm.Cond.code ({ cls := "com/example/libmerit/libmerit/index/DocnoTable", name := "<init>", desc := "(I)V" } : Jvm.MethodName) prog_19_method_1_code (2 : Nat) (Option.none : Option Jvm.ClassFile.FieldType)).before args0 about1 = true := code_word (m := ⟨2, 0⟩) (meth := k2m0) (c := k2c0) (by decide +kernel) rfl rfl rfl (by decide +kernel)
set_option maxRecDepth 65536 in
theorem w_c2 : (Jvm.Cond.code ({ cls := "java/lang/Object", name := "<init>", desc := "()V" } : Jvm.MethodName) object_method_1_code (1 : Nat) (Option.none : Option Jvm.ClassFile.FieldType)).before args0 about1 = true := code_word (m := ⟨0, 0⟩) (meth := k0m0) (c := k0c0) (by decide +kernel) rfl rfl rfl (by decide +kernel)
set_option maxRecDepth 65536 in
theorem w_c3 : (Jvm.Cond.code ({ cls := "com/example/libmerit/libmerit/index/DocnoTable", name := "byteCount", desc := "()I" } : Jvm.MethodName) prog_19_method_2_code (1 : Nat) (Option.some Jvm.ClassFile.FieldType.int)).before args0 about1 = true := code_word (m := ⟨2, 1⟩) (meth := k2m1) (c := k2c1) (by decide +kernel) rfl rfl rfl (by decide +kernel)
set_option maxRecDepth 65536 in
theorem w_c4 : (Jvm.Cond.code ({ cls := "com/example/libmerit/libmerit/index/DocnoTable", name := "add", desc := "([B)V" } : Jvm.MethodName) prog_19_method_3_code (7 : Nat) (Option.none : Option Jvm.ClassFile.FieldType)).before args0 about1 = true := code_word (m := ⟨2, 2⟩) (meth := k2m2) (c := k2c2) (by decide +kernel) rfl rfl rfl (by decide +kernel)
set_option maxRecDepth 65536 in
theorem w_c5 : (Jvm.Cond.code ({ cls := "java/lang/Math", name := "min", desc := "(II)I" } : Jvm.MethodName) jdk_29_method_69_code (2 : Nat) (Option.some Jvm.ClassFile.FieldType.int)).before args0 about1 = true := code_word (m := ⟨3, 1⟩) (meth := k3m1) (c := k3c1) (by decide +kernel) rfl rfl rfl (by decide +kernel)
def codes1 : List Jvm.Cond := [Jvm.Cond.code x code maxLocals ret, Jvm.Cond.code ({ cls := "com/example/libmerit/libmerit/index/DocnoTable", name := "<init>", desc := "(I)V" } : Jvm.MethodName) prog_19_method_1_code (2 : Nat) (Option.none : Option Jvm.ClassFile.FieldType), Jvm.Cond.code ({ cls := "java/lang/Object", name := "<init>", desc := "()V" } : Jvm.MethodName) object_method_1_code (1 : Nat) (Option.none : Option Jvm.ClassFile.FieldType), Jvm.Cond.code ({ cls := "com/example/libmerit/libmerit/index/DocnoTable", name := "byteCount", desc := "()I" } : Jvm.MethodName) prog_19_method_2_code (1 : Nat) (Option.some Jvm.ClassFile.FieldType.int), Jvm.Cond.code ({ cls := "com/example/libmerit/libmerit/index/DocnoTable", name := "add", desc := "([B)V" } : Jvm.MethodName) prog_19_method_3_code (7 : Nat) (Option.none : Option Jvm.ClassFile.FieldType), Jvm.Cond.code ({ cls := "java/lang/Math", name := "min", desc := "(II)I" } : Jvm.MethodName) jdk_29_method_69_code (2 : Nat) (Option.some Jvm.ClassFile.FieldType.int)]
set_option maxRecDepth 65536 in
theorem codes_eq : words1.filter isCode = codes1 := rfl
theorem w_codes : ∀ c ∈ words1.filter isCode, c.before args0 about1 = true := by
  rw [codes_eq]
  intro c hc
  simp only [codes1, List.mem_cons, List.not_mem_nil, or_false] at hc
  rcases hc with rfl | rfl | rfl | rfl | rfl | rfl
  · exact w_c0
  · exact w_c1
  · exact w_c2
  · exact w_c3
  · exact w_c4
  · exact w_c5
set_option maxRecDepth 65536 in
theorem w_t1 : (words1.take 24).all (fun c => isCode c || c.before args0 about1) = true := by decide +kernel
set_option maxRecDepth 65536 in
theorem w_t2 : (words1.drop 24).all (fun c => isCode c || c.before args0 about1) = true := by decide +kernel
theorem w_tables : (allAtoms (Jvm.Cond.code x code maxLocals ret :: tables_1)).before args0 about1 = true := by
  rw [allAtoms_all]
  show words1.all (fun c => c.before args0 about1) = true
  refine all_split ?_ w_codes
  rw [← List.take_append_drop 24 words1, List.all_append, w_t1, w_t2]
  rfl
set_option maxRecDepth 65536 in
theorem w_case : (Jvm.Cond.and given_1 narrow_1).before args0 about1 = true := by decide +kernel
theorem w_applies : (headSpec (Jvm.Cond.code x code maxLocals ret :: tables_1) room_1).applies x e0.platform about1 = true :=
  (Spec.applies_iff w_frames).mpr ⟨w_running, w_runnable, w_alone, w_named, w_hears, w_ripe, w_room, w_tables⟩
theorem atStart : AtStart classFile x code maxLocals ret World_1 tables_1 room_1 Calls_1 rest_1 Pre_1 launch0 p0 e0 about1 theMethod args0 below0 :=
  ⟨lists_1, trivial, launch0.admits_env _ _ _, launch0.least_env, fairChoices_fair.cas, fairChoices_fair.clock, w_frames, w_args, w_heap, w_applies, trivial, trivial, w_case⟩
end start1
theorem witness_1 : WitnessClaimed_1 := ⟨start1.p0, start1.e0, start1.about1, start1.theMethod, start1.args0, start1.below0, start1.atStart⟩
end Jvm.Pilot.@@N@@
