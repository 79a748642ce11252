import JvmDerived
import JvmDerived.Pilot.@@N@@Statement
import JvmDerived.Pilot.@@N@@Code
set_option linter.unusedVariables false
set_option linter.unusedSimpArgs false
namespace Jvm.Pilot.@@N@@
open Jvm Jvm.ClassFile Sem Op Lib Jvm.Free Jvm.Stand Jvm.LawKit Jvm.RoadKit Bundle Jvm.Pilot.@@N@@.Jvm.D

/-! 0. What a body that writes nothing leaves; a walk told forwards; the three calls -/
def own_Q (v0 : Option Value) (h0 : Heap) (v : Option Value) (h : Heap) (L : List Loc) : Prop := v = v0 ∧ L = [] ∧ h = h0
def own_Pur (l : Launch) (Z : State) (y : MethodName) (bytes : ByteArray) (maxL : Nat) (rt : Option FieldType) (fr lo : Nat) (as : Array Value) (v : Option Value) (h : Heap) : Prop :=
  ∀ ws : List Jvm.Cond, MetFree l y (head1 (Jvm.Cond.code y bytes maxL rt :: ws) ({ frames := fr, cells := 0, slots := 0, locals := lo } : Room)) (fun a U => a = as ∧ Z.Warmed39 U.vm ∧ U.heap = h) (fun _ _ _ _ _ => True)
    (fun _ U o U' => ∃ v' L, o = .returned v' ∧ own_Q v h v' U'.heap L ∧ FrameEnd U o U' L ({ frames := fr, cells := 0, slots := 0, locals := lo } : Room).cells ({ frames := fr, cells := 0, slots := 0, locals := lo } : Room).slots)
def own_Fin (p : Program) (l : Launch) (e : Env) (R : Room) (s : State) (m : MethodId) (args : Array Value) (below : List Frame) (meth : Method) (c : Code) (h : Heap) (v : Option Value) (S : State) : Prop :=
  ∃ T : State, Stand p l e R s m args below meth c T [] 0 0 ∧ T.heap = h ∧ ∀ fs : List Frame, (∀ (f : JFrame) (acts : List Action), f.method = m → f.locked = none → f.entered = [] → (doReturn e (T.setTop f) acts v).1 = T.setFrames fs) → Steps p.tables e below S (T.setFrames fs)
section Own
variable {p : Program} {l : Launch} {e : Env} {R : Room} {s : State} {m : MethodId} {args : Array Value} {below : List Frame} {meth : Method} {c : Code} {T : State} {Z : State} {a0 : Array Value} {h : Heap} {v : Option Value}
theorem own_Fin.back {S S' : State} (k : ∀ t, Steps p.tables e below S' t → Steps p.tables e below S t) (F : own_Fin p l e R s m args below meth c h v S') : own_Fin p l e R s m args below meth c h v S := by
  obtain ⟨T, X, eT, g⟩ := F
  exact ⟨T, X, eT, fun fs hr => k _ (g fs hr)⟩
theorem own_body {y : MethodName} {bytes : ByteArray} {maxL : Nat} {rt : FieldType} {fr lo : Nat} {as : Array Value} {w : Value} (hpl : plainName y.cls = true)
    (body : ∀ (p : Program) (e : Env) (s : State) (m : MethodId) (below : List Frame) (meth : Method) (c : Code) (T : State), Stand p l e ({ frames := fr, cells := 0, slots := 0, locals := lo } : Room) s m as below meth c T [] 0 0 → T.heap = h → p.tables.exec = Jvm.exec → c.code = bytes → c.maxLocals = maxL →
      s.vm.findClass y.cls = some m.cls → meth.sig.returnType = some rt → Z.Warmed39 s.vm → own_Fin p l e ({ frames := fr, cells := 0, slots := 0, locals := lo } : Room) s m as below meth c h (some w) (T.setTop (entryFrame m as maxL))) :
    own_Pur l Z y bytes maxL (some rt) fr lo as (some w) h := by
  intro ws
  refine MetFree.of_bodySF (plainFor_of_name hpl) hisR ?_
  intro p e s m args below meth c s₁ Bd hml0 hP hK
  obtain ⟨rfl, hZ, hh⟩ := hP
  have X0 : Stand p l e ({ frames := fr, cells := 0, slots := 0, locals := lo } : Room) s m args below meth c s₁ [] 0 0 := Stand.of_body Bd
  have e0 : s₁.heap = h := by rw [← hh, Bd.state]; rfl
  obtain ⟨T, X, eT, go⟩ := body p e s m below meth c s₁ X0 e0 Bd.exec Bd.bytes hml0 (findClass_of_methodNamed Bd.named) Bd.returns hZ
  obtain ⟨fs, hr, hrun, hended, hW, hsame⟩ := X.leave (v := some w) (fun h => by rw [Bd.returns] at h; cases h)
  exact ⟨_, _, go fs hr, hrun, hended, _, _, rfl, ⟨rfl, rfl, eT⟩, ⟨_, rfl⟩, hW, hsame⟩
theorem own_callS (X : Stand p l e R s m args below meth c T [] 0 0) (hx : p.tables.exec = Jvm.exec) (hZ : Z.Warmed39 s.vm) {own : String} {index : Nat} {y : MethodName} {bytes : ByteArray} {maxL : Nat} {rt : Option FieldType} {fr lo W : Nat} {argsL rest : List Value} {w : Option Value}
    (hown : s.vm.findClass own = some m.cls) (w1 : (Jvm.Cond.methodLink own index y).before a0 Z = true) (w2 : (Jvm.Cond.static y).before a0 Z = true) (w3 : (Jvm.Cond.initialized y.cls).before a0 Z = true) (w4 : (Jvm.Cond.code y bytes maxL rt).before a0 Z = true)
    (hy : y.cls ≠ "java/lang/invoke/MethodHandle" ∧ y.cls ≠ "java/lang/invoke/VarHandle")
    (hM : own_Pur l Z y bytes maxL rt fr lo argsL.toArray w h) (eT : T.heap = h) (hf : fr + 1 ≤ R.frames) (hl : W + (maxL + 11) + lo ≤ R.locals)
    {g : JFrame} (hg : g.method = m) (hsize : g.locals.size = c.maxLocals) (hlen : ∀ sig, parseMethodDescriptor y.desc = some sig → argsL.length = sig.parameters.length)
    (hstack : g.stack = argsL.reverse ++ rest) (hW : 2 * g.monitorRoom + (rest.map fun v => v.category).sum ≤ W) (hdg : decode c.code g.pc = .ok (.invokestatic index, 3)) :
    ∃ T', Stand p l e R s m args below meth c T' [] 0 0 ∧ T'.heap = h ∧ ∀ t, Steps p.tables e below (T'.setTop { g with pc := g.pc + 3, stack := w.toList ++ rest }) t → Steps p.tables e below (T.setTop g) t := by
  obtain ⟨_, _, ⟨T1, L1, k1, n1⟩, -, X1, ⟨Lc, hQ, l1, y1, z1⟩, st⟩ := Jvm.LawKit.callS X hx hown (mvT hZ w1) (mvT hZ w2) (mvT hZ w3) (mvT hZ w4) hy (backOf (W := W) (hM []) hZ w4 w3 hf hl) hg hsize hlen hstack hW hdg (fun _ _ => ⟨rfl, eT, Nat.zero_le _, Nat.zero_le _⟩)
  dsimp only [Pt.U, Pt.locs, Pt.cells, Pt.slots] at X1 l1 y1 z1 st hQ
  subst l1 y1 z1
  obtain ⟨rfl, rfl, e1⟩ := hQ
  exact ⟨T1, X1, e1, st⟩
theorem own_callV (X : Stand p l e R s m args below meth c T [] 0 0) (hx : p.tables.exec = Jvm.exec) (hZ : Z.Warmed39 s.vm) {own C : String} {index : Nat} {y : MethodName} {bytes : ByteArray} {maxL : Nat} {rt : Option FieldType} {fr lo W : Nat} {b : Addr} {argsL rest : List Value} {w : Option Value}
    (hown : s.vm.findClass own = some m.cls) (w1 : (Jvm.Cond.methodLink own index y).before a0 Z = true) (w2 : (Jvm.Cond.declares y).before a0 Z = true) (w3 : (Jvm.Cond.selects C y y).before a0 Z = true) (w4 : (Jvm.Cond.instanceMethod y).before a0 Z = true) (w5 : (Jvm.Cond.code y bytes maxL rt).before a0 Z = true) (w6 : (Jvm.Cond.initialized y.cls).before a0 Z = true)
    (hy : y.cls ≠ "java/lang/invoke/MethodHandle" ∧ y.cls ≠ "java/lang/invoke/VarHandle")
    (hM : own_Pur l Z y bytes maxL rt fr lo (Value.ref b :: argsL).toArray w h) (eT : T.heap = h) (E : Exa Z h b C) (hf : fr + 1 ≤ R.frames) (hl : W + (maxL + 11) + lo ≤ R.locals)
    {g : JFrame} (hg : g.method = m) (hsize : g.locals.size = c.maxLocals) (hlen : ∀ sig, parseMethodDescriptor y.desc = some sig → argsL.length = sig.parameters.length)
    (hstack : g.stack = argsL.reverse ++ .ref b :: rest) (hW : 2 * g.monitorRoom + (rest.map fun v => v.category).sum ≤ W) (hdg : decode c.code g.pc = .ok (.invokevirtual index, 3)) :
    ∃ T', Stand p l e R s m args below meth c T' [] 0 0 ∧ T'.heap = h ∧ ∀ t, Steps p.tables e below (T'.setTop { g with pc := g.pc + 3, stack := w.toList ++ rest }) t → Steps p.tables e below (T.setTop g) t := by
  obtain ⟨cq, kq, qa, qb, qc⟩ := isOf (T := T) hZ eT E
  obtain ⟨_, _, ⟨T1, L1, k1, n1⟩, -, X1, ⟨Lc, hQ, l1, y1, z1⟩, st⟩ := X.virtualBack hx hown (mvT hZ w1) (mvT hZ w2) (notFace_of_selects (args := #[]) (mvT hZ w3)) (mvT hZ w3) (mvT hZ w4) hy (backOf (W := W) (hM []) hZ w5 w6 hf hl) qa qc hg hsize (Steps.refl _) hlen hstack hW hdg (fun _ _ => ⟨rfl, eT, Nat.zero_le _, Nat.zero_le _⟩)
  dsimp only [Pt.U, Pt.locs, Pt.cells, Pt.slots] at X1 l1 y1 z1 st hQ
  subst l1 y1 z1
  obtain ⟨rfl, rfl, e1⟩ := hQ
  exact ⟨T1, X1, e1, fun t k => st.trans k⟩
theorem own_callU (X : Stand p l e R s m args below meth c T [] 0 0) (hx : p.tables.exec = Jvm.exec) (hZ : Z.Warmed39 s.vm) {own C owner : String} {index : Nat} {y z : MethodName} {bytes : ByteArray} {maxL : Nat} {rt : Option FieldType} {fr lo W : Nat} {b : Addr} {argsL rest : List Value} {w : Option Value}
    (hown : s.vm.findClass own = some m.cls) (w1 : (Jvm.Cond.methodLink own index y).before a0 Z = true) (w2 : (Jvm.Cond.sameMethod y.cls owner y.name y.desc).before a0 Z = true) (w3 : (Jvm.Cond.declares ⟨owner, y.name, y.desc⟩).before a0 Z = true) (w4 : (Jvm.Cond.selects C y z).before a0 Z = true) (w5 : (Jvm.Cond.instanceMethod z).before a0 Z = true) (w6 : (Jvm.Cond.code z bytes maxL rt).before a0 Z = true) (w7 : (Jvm.Cond.initialized z.cls).before a0 Z = true)
    (hy : owner ≠ "java/lang/invoke/MethodHandle" ∧ owner ≠ "java/lang/invoke/VarHandle")
    (hM : own_Pur l Z z bytes maxL rt fr lo (Value.ref b :: argsL).toArray w h) (eT : T.heap = h) (E : Exa Z h b C) (hf : fr + 1 ≤ R.frames) (hl : W + (maxL + 11) + lo ≤ R.locals)
    {g : JFrame} (hg : g.method = m) (hsize : g.locals.size = c.maxLocals) (hlen : ∀ sig, parseMethodDescriptor y.desc = some sig → argsL.length = sig.parameters.length)
    (hstack : g.stack = argsL.reverse ++ .ref b :: rest) (hW : 2 * g.monitorRoom + (rest.map fun v => v.category).sum ≤ W) (hdg : decode c.code g.pc = .ok (.invokevirtual index, 3)) :
    ∃ T', Stand p l e R s m args below meth c T' [] 0 0 ∧ T'.heap = h ∧ ∀ t, Steps p.tables e below (T'.setTop { g with pc := g.pc + 3, stack := w.toList ++ rest }) t → Steps p.tables e below (T.setTop g) t := by
  obtain ⟨cq, kq, qa, qb, qc⟩ := isOf (T := T) hZ eT E
  obtain ⟨_, _, ⟨T1, L1, k1, n1⟩, -, X1, ⟨Lc, hQ, l1, y1, z1⟩, st⟩ := X.virtualBackUp hx hown (mvT hZ w1) (mvT hZ w2) (mvT hZ w3) hy (mvT hZ w4) (mvT hZ w5) (backOf (W := W) (hM []) hZ w6 w7 hf hl) qa qc hg hsize (Steps.refl _) hlen hstack hW hdg (fun _ _ => ⟨rfl, eT, Nat.zero_le _, Nat.zero_le _⟩)
  dsimp only [Pt.U, Pt.locs, Pt.cells, Pt.slots] at X1 l1 y1 z1 st hQ
  subst l1 y1 z1
  obtain ⟨rfl, rfl, e1⟩ := hQ
  exact ⟨T1, X1, e1, fun t k => st.trans k⟩
theorem own_ne {a b : Addr} {C n d : String} {x y : Value} (F : Fld Z h a C n d x) (G : Fld Z h b C n d y) (hn : x ≠ y) : a ≠ b := fun q => by
  subst q
  obtain ⟨c1, f1, k1, i1, g1, h1, h2, -, -, -, -, h7⟩ := F
  obtain ⟨c2, f2, k2, i2, g2, j1, j2, -, -, -, -, j7⟩ := G
  cases h1.symm.trans j1
  cases h2.symm.trans j2
  exact hn (Option.some.inj (h7.symm.trans j7))
theorem own_acmp_same {b : Addr} : XT.acmp .eq (.ref b) (.ref b) = true ∧ XT.acmp .ne (.ref b) (.ref b) = false := by simp [XT.acmp]
theorem own_acmp_diff {a b : Addr} (hn : a ≠ b) : XT.acmp .eq (.ref a) (.ref b) = false ∧ XT.acmp .ne (.ref a) (.ref b) = true := by simp [XT.acmp, hn]
theorem own_sta {C n d : String} {a : Addr} (ev : (Term.static C n d).eval args Z none [] Z = some (.ref a)) (wi : (Jvm.Cond.initialized C).before args Z = true) (wl : (Jvm.Cond.laysStatic C n d).before args Z = true) : Sta Z Z.heap C n d (.ref a) := Sta.start ev (Or.inr ⟨wi, wl⟩)
theorem own_fldE {t : Term} {C n d : String} {a : Addr} {x : Value} (ev : t.eval args Z none [] Z = some (.ref a)) (e2 : (Term.field t C n d).eval args Z none [] Z = some x) : Fld Z Z.heap a C n d x := Fld.start ((fld_at ev).symm.trans e2)
theorem own_fldI {t : Term} {C n d : String} {a : Addr} {k : Int32} (ev : t.eval args Z none [] Z = some (.ref a)) (hN : (Jvm.Cond.eq (.field t C n d) (.int k)).value args Z none Z [] = some true) : Fld Z Z.heap a C n d (.int k) := by
  obtain ⟨x, y, g1, g2, k1, k2⟩ := cmp_v (Or.inl hN)
  obtain rfl : Value.int k = y := Option.some.inj ((Term.int_eval k).symm.trans g2)
  obtain ⟨z, rfl⟩ := k2
  obtain rfl : z = k := gotT (Jvm.Cond.eq_ints g1 g2) hN
  exact own_fldE ev g1
theorem own_fldL {t : Term} {C n d : String} {a : Addr} {k : Int64} (ev : t.eval args Z none [] Z = some (.ref a)) (hN : (Jvm.Cond.eq (.field t C n d) (.long k)).value args Z none Z [] = some true) : Fld Z Z.heap a C n d (.long k) := by
  obtain ⟨x, y, g1, g2, k1, k2⟩ := cmp_v (Or.inl hN)
  have g3 : (Term.long k).eval args Z none [] Z = some (.long k) := rfl
  obtain rfl : Value.long k = y := Option.some.inj (g3.symm.trans g2)
  obtain ⟨z, rfl⟩ := k2
  obtain rfl : z = k := gotT (eq_L g1 g2) hN
  exact own_fldE ev g1
theorem own_fldR {t u : Term} {C n d : String} {a b : Addr} (ev : t.eval args Z none [] Z = some (.ref a)) (eu : u.eval args Z none [] Z = some (.ref b)) (hN : (Jvm.Cond.eq (.field t C n d) u).value args Z none Z [] = some true) : Fld Z Z.heap a C n d (.ref b) := by
  obtain ⟨x, y, g1, g2, k1, k2⟩ := cmp_v (Or.inl hN)
  obtain rfl : Value.ref b = y := Option.some.inj (eu.symm.trans g2)
  have hx : x.isRef = true := k2.2
  obtain rfl : x = Value.ref b := gotT (eq_R g1 eu hx rfl) hN
  exact own_fldE ev g1
end Own

/-! 1. What is known of the constants -/
def own_Facts (Z : State) (h0 : Heap) (a_FALSE a_TRUE a_Kind_FALSE a_Kind_TRUE : Addr) : Prop :=
  (Sta Z h0 "com/example/relational_model_translator/relationalmodeltranslator/writer/Ltl" "FALSE" "Lcom/example/relational_model_translator/relationalmodeltranslator/writer/Ltl;" (.ref a_FALSE)) ∧
  (Exa Z h0 a_FALSE "com/example/relational_model_translator/relationalmodeltranslator/writer/Ltl") ∧
  (Sta Z h0 "com/example/relational_model_translator/relationalmodeltranslator/writer/Ltl" "TRUE" "Lcom/example/relational_model_translator/relationalmodeltranslator/writer/Ltl;" (.ref a_TRUE)) ∧
  (Exa Z h0 a_TRUE "com/example/relational_model_translator/relationalmodeltranslator/writer/Ltl") ∧
  (Sta Z h0 "com/example/relational_model_translator/relationalmodeltranslator/writer/Ltl$Kind" "FALSE" "Lcom/example/relational_model_translator/relationalmodeltranslator/writer/Ltl$Kind;" (.ref a_Kind_FALSE)) ∧
  (Exa Z h0 a_Kind_FALSE "com/example/relational_model_translator/relationalmodeltranslator/writer/Ltl$Kind") ∧
  (Sta Z h0 "com/example/relational_model_translator/relationalmodeltranslator/writer/Ltl$Kind" "TRUE" "Lcom/example/relational_model_translator/relationalmodeltranslator/writer/Ltl$Kind;" (.ref a_Kind_TRUE)) ∧
  (Exa Z h0 a_Kind_TRUE "com/example/relational_model_translator/relationalmodeltranslator/writer/Ltl$Kind") ∧
  (Fld Z h0 a_FALSE "com/example/relational_model_translator/relationalmodeltranslator/writer/Ltl" "kind" "Lcom/example/relational_model_translator/relationalmodeltranslator/writer/Ltl$Kind;" (.ref a_Kind_FALSE)) ∧
  (Fld Z h0 a_Kind_FALSE "java/lang/Enum" "ordinal" "I" (.int (1 : Int32))) ∧
  (Fld Z h0 a_Kind_TRUE "java/lang/Enum" "ordinal" "I" (.int (0 : Int32))) ∧
  (a_FALSE ≠ a_TRUE) ∧
  (Fld Z h0 a_FALSE "com/example/relational_model_translator/relationalmodeltranslator/writer/Ltl" "hash" "I" (.int (29552673 : Int32))) ∧
  (Fld Z h0 a_TRUE "com/example/relational_model_translator/relationalmodeltranslator/writer/Ltl" "hash" "I" (.int (29552673 : Int32))) ∧
  (Fld Z h0 a_TRUE "com/example/relational_model_translator/relationalmodeltranslator/writer/Ltl" "kind" "Lcom/example/relational_model_translator/relationalmodeltranslator/writer/Ltl$Kind;" (.ref a_Kind_TRUE)) ∧
  (Fld Z h0 a_FALSE "com/example/relational_model_translator/relationalmodeltranslator/writer/Ltl" "length" "J" (.long (5 : Int64))) ∧
  (Fld Z h0 a_TRUE "com/example/relational_model_translator/relationalmodeltranslator/writer/Ltl" "length" "J" (.long (4 : Int64))) ∧
  (a_Kind_FALSE ≠ a_Kind_TRUE)
theorem own_pn0 : plainName "com/example/relational_model_translator/relationalmodeltranslator/writer/Ltl" = true := by first | (simp [plainName, overriddenIn]; done) | decide +kernel
theorem own_ef_d1 (m : MethodId) (x0 : Int32) : entryFrame m #[(.int x0)] 1 = mkF m 0 #[.val (.int x0)] [] := by first | (simp [entryFrame, mkF, argsToLocals, Value.category]; done) | rfl
theorem own_d1_0 : decode prog_127_method_6_code 0 = .ok (.iload_n 0, 1) := by decide +kernel
theorem own_d1_1 : decode prog_127_method_6_code 1 = .ok (.ifCond .eq 9, 3) := by decide +kernel
theorem own_d1_10 : decode prog_127_method_6_code 10 = .ok (.getstatic 149, 3) := by decide +kernel
theorem own_d1_13 : decode prog_127_method_6_code 13 = .ok (.areturn, 1) := by decide +kernel
set_option maxRecDepth 65536 in
set_option maxHeartbeats 40000000 in
theorem own_of0 (l : Launch) (Z : State) (a0 : Array Value) (hw : ∀ d ∈ tables_1, d.before a0 Z = true) (h0 : Heap) {a_FALSE a_TRUE a_Kind_FALSE a_Kind_TRUE : Addr} (H : own_Facts Z h0 a_FALSE a_TRUE a_Kind_FALSE a_Kind_TRUE) :
    own_Pur l Z (⟨"com/example/relational_model_translator/relationalmodeltranslator/writer/Ltl", "of", "(Z)Lcom/example/relational_model_translator/relationalmodeltranslator/writer/Ltl;"⟩ : MethodName) prog_127_method_6_code 1 (some (.object "com/example/relational_model_translator/relationalmodeltranslator/writer/Ltl")) 0 0 #[(.int (0 : Int32))] (some (.ref a_FALSE)) h0 := by
  have H0 := H
  obtain ⟨S_FALSE, X_FALSE, S_TRUE, X_TRUE, S_Kind_FALSE, X_Kind_FALSE, S_Kind_TRUE, X_Kind_TRUE, F_FALSE_kind, F_Kind_FALSE_ordinal, F_Kind_TRUE_ordinal, D_FALSE_TRUE, F_FALSE_hash, F_TRUE_hash, F_TRUE_kind, F_FALSE_length, F_TRUE_length, D_Kind_FALSE_Kind_TRUE⟩ := H0
  refine own_body own_pn0 ?_
  intro p e s m below meth c T0 X0 e0 hx hby hml hown hret hZ
  have hown : s.vm.findClass "com/example/relational_model_translator/relationalmodeltranslator/writer/Ltl" = some m.cls := hown
  rw [own_ef_d1 m ((0 : Int32))]
  refine own_Fin.back (S' := T0.setTop (mkF m 1 #[.val (.int (0 : Int32))] [(.int (0 : Int32))])) (fun t k => XS.iloadN X0.here hx rfl (hb hby own_d1_0) rfl k) ?_
  refine own_Fin.back (S' := T0.setTop (mkF m 10 #[.val (.int (0 : Int32))] [])) (fun t k => XS.ifYes X0.here hx rfl (pc0 := 1) (pc' := 10) rfl (hb hby own_d1_1) rfl (by decide) (by decide) (by decide) k) ?_
  obtain ⟨T1, X1, e1, k1⟩ := getS X0 hx hZ hown (host := "") (hw _ (List.mem_of_getElem? (i := 4) rfl)) Via.refl e0 S_FALSE (g := (mkF m 10 #[.val (.int (0 : Int32))] [])) rfl (hb hby own_d1_10)
  refine own_Fin.back (S' := T1.setTop (mkF m 13 #[.val (.int (0 : Int32))] [(.ref a_FALSE)])) k1 ?_
  exact ⟨T1, X1, e1, fun fs hr => retOut X1 hx (w := (.ref a_FALSE)) (t := (.object "com/example/relational_model_translator/relationalmodeltranslator/writer/Ltl")) hret rfl (Or.inr (Or.inr (Or.inr (Or.inr ⟨rfl, rfl, rfl⟩)))) (hb hby own_d1_13) hr⟩
theorem own_d1_4 : decode prog_127_method_6_code 4 = .ok (.getstatic 146, 3) := by decide +kernel
theorem own_d1_7 : decode prog_127_method_6_code 7 = .ok (.goto 6, 3) := by decide +kernel
set_option maxRecDepth 65536 in
set_option maxHeartbeats 40000000 in
theorem own_of1 (l : Launch) (Z : State) (a0 : Array Value) (hw : ∀ d ∈ tables_1, d.before a0 Z = true) (h0 : Heap) {a_FALSE a_TRUE a_Kind_FALSE a_Kind_TRUE : Addr} (H : own_Facts Z h0 a_FALSE a_TRUE a_Kind_FALSE a_Kind_TRUE) :
    own_Pur l Z (⟨"com/example/relational_model_translator/relationalmodeltranslator/writer/Ltl", "of", "(Z)Lcom/example/relational_model_translator/relationalmodeltranslator/writer/Ltl;"⟩ : MethodName) prog_127_method_6_code 1 (some (.object "com/example/relational_model_translator/relationalmodeltranslator/writer/Ltl")) 0 0 #[(.int (1 : Int32))] (some (.ref a_TRUE)) h0 := by
  have H0 := H
  obtain ⟨S_FALSE, X_FALSE, S_TRUE, X_TRUE, S_Kind_FALSE, X_Kind_FALSE, S_Kind_TRUE, X_Kind_TRUE, F_FALSE_kind, F_Kind_FALSE_ordinal, F_Kind_TRUE_ordinal, D_FALSE_TRUE, F_FALSE_hash, F_TRUE_hash, F_TRUE_kind, F_FALSE_length, F_TRUE_length, D_Kind_FALSE_Kind_TRUE⟩ := H0
  refine own_body own_pn0 ?_
  intro p e s m below meth c T0 X0 e0 hx hby hml hown hret hZ
  have hown : s.vm.findClass "com/example/relational_model_translator/relationalmodeltranslator/writer/Ltl" = some m.cls := hown
  rw [own_ef_d1 m ((1 : Int32))]
  refine own_Fin.back (S' := T0.setTop (mkF m 1 #[.val (.int (1 : Int32))] [(.int (1 : Int32))])) (fun t k => XS.iloadN X0.here hx rfl (hb hby own_d1_0) rfl k) ?_
  refine own_Fin.back (S' := T0.setTop (mkF m 4 #[.val (.int (1 : Int32))] [])) (fun t k => XS.ifNo X0.here hx rfl (hb hby own_d1_1) rfl (by decide) k) ?_
  obtain ⟨T2, X2, e2, k2⟩ := getS X0 hx hZ hown (host := "") (hw _ (List.mem_of_getElem? (i := 6) rfl)) Via.refl e0 S_TRUE (g := (mkF m 4 #[.val (.int (1 : Int32))] [])) rfl (hb hby own_d1_4)
  refine own_Fin.back (S' := T2.setTop (mkF m 7 #[.val (.int (1 : Int32))] [(.ref a_TRUE)])) k2 ?_
  refine own_Fin.back (S' := T2.setTop (mkF m 13 #[.val (.int (1 : Int32))] [(.ref a_TRUE)])) (fun t k => XS.goto X2.here hx rfl (pc0 := 7) (pc' := 13) rfl (hb hby own_d1_7) (by decide) (by decide) k) ?_
  exact ⟨T2, X2, e2, fun fs hr => retOut X2 hx (w := (.ref a_TRUE)) (t := (.object "com/example/relational_model_translator/relationalmodeltranslator/writer/Ltl")) hret rfl (Or.inr (Or.inr (Or.inr (Or.inr ⟨rfl, rfl, rfl⟩)))) (hb hby own_d1_13) hr⟩
theorem own_ef_d2 (m : MethodId) (x0 : Addr) : entryFrame m #[(.ref x0)] 1 = mkF m 0 #[.val (.ref x0)] [] := by first | (simp [entryFrame, mkF, argsToLocals, Value.category]; done) | rfl
theorem own_d2_0 : decode prog_127_method_20_code 0 = .ok (.aload_n 0, 1) := by decide +kernel
theorem own_d2_1 : decode prog_127_method_20_code 1 = .ok (.getfield 7, 3) := by decide +kernel
theorem own_d2_4 : decode prog_127_method_20_code 4 = .ok (.getstatic 42, 3) := by decide +kernel
theorem own_d2_7 : decode prog_127_method_20_code 7 = .ok (.if_acmp .eq 13, 3) := by decide +kernel
theorem own_d2_10 : decode prog_127_method_20_code 10 = .ok (.aload_n 0, 1) := by decide +kernel
theorem own_d2_11 : decode prog_127_method_20_code 11 = .ok (.getfield 7, 3) := by decide +kernel
theorem own_d2_14 : decode prog_127_method_20_code 14 = .ok (.getstatic 47, 3) := by decide +kernel
theorem own_d2_17 : decode prog_127_method_20_code 17 = .ok (.if_acmp .ne 7, 3) := by decide +kernel
theorem own_d2_20 : decode prog_127_method_20_code 20 = .ok (.iconst 1, 1) := by decide +kernel
theorem own_d2_21 : decode prog_127_method_20_code 21 = .ok (.goto 4, 3) := by decide +kernel
theorem own_d2_25 : decode prog_127_method_20_code 25 = .ok (.ireturn, 1) := by decide +kernel
set_option maxRecDepth 65536 in
set_option maxHeartbeats 40000000 in
theorem own_cst_a_FALSE (l : Launch) (Z : State) (a0 : Array Value) (hw : ∀ d ∈ tables_1, d.before a0 Z = true) (h0 : Heap) {a_FALSE a_TRUE a_Kind_FALSE a_Kind_TRUE : Addr} (H : own_Facts Z h0 a_FALSE a_TRUE a_Kind_FALSE a_Kind_TRUE) :
    own_Pur l Z (⟨"com/example/relational_model_translator/relationalmodeltranslator/writer/Ltl", "isConstant", "()Z"⟩ : MethodName) prog_127_method_20_code 1 (some .boolean) 0 0 #[(.ref a_FALSE)] (some (.int (1 : Int32))) h0 := by
  have H0 := H
  obtain ⟨S_FALSE, X_FALSE, S_TRUE, X_TRUE, S_Kind_FALSE, X_Kind_FALSE, S_Kind_TRUE, X_Kind_TRUE, F_FALSE_kind, F_Kind_FALSE_ordinal, F_Kind_TRUE_ordinal, D_FALSE_TRUE, F_FALSE_hash, F_TRUE_hash, F_TRUE_kind, F_FALSE_length, F_TRUE_length, D_Kind_FALSE_Kind_TRUE⟩ := H0
  refine own_body own_pn0 ?_
  intro p e s m below meth c T0 X0 e0 hx hby hml hown hret hZ
  have hown : s.vm.findClass "com/example/relational_model_translator/relationalmodeltranslator/writer/Ltl" = some m.cls := hown
  rw [own_ef_d2 m a_FALSE]
  refine own_Fin.back (S' := T0.setTop (mkF m 1 #[.val (.ref a_FALSE)] [(.ref a_FALSE)])) (fun t k => XS.aloadN X0.here hx rfl (hb hby own_d2_0) rfl rfl k) ?_
  obtain ⟨T3, X3, e3, k3⟩ := getF X0 hx hZ hown (host := "") (Or.inl (hw _ (List.mem_of_getElem? (i := 13) rfl))) Via.refl e0 F_FALSE_kind (g := (mkF m 1 #[.val (.ref a_FALSE)] [(.ref a_FALSE)])) rfl rfl (hb hby own_d2_1)
  refine own_Fin.back (S' := T3.setTop (mkF m 4 #[.val (.ref a_FALSE)] [(.ref a_Kind_FALSE)])) k3 ?_
  obtain ⟨T4, X4, e4, k4⟩ := getS X3 hx hZ hown (host := "") (hw _ (List.mem_of_getElem? (i := 17) rfl)) Via.refl e3 S_Kind_TRUE (g := (mkF m 4 #[.val (.ref a_FALSE)] [(.ref a_Kind_FALSE)])) rfl (hb hby own_d2_4)
  refine own_Fin.back (S' := T4.setTop (mkF m 7 #[.val (.ref a_FALSE)] [(.ref a_Kind_TRUE), (.ref a_Kind_FALSE)])) k4 ?_
  refine own_Fin.back (S' := T4.setTop (mkF m 10 #[.val (.ref a_FALSE)] [])) (fun t k => XT.acmpNo X4.here hx rfl (hb hby own_d2_7) rfl rfl rfl (own_acmp_diff D_Kind_FALSE_Kind_TRUE).1 k) ?_
  refine own_Fin.back (S' := T4.setTop (mkF m 11 #[.val (.ref a_FALSE)] [(.ref a_FALSE)])) (fun t k => XS.aloadN X4.here hx rfl (hb hby own_d2_10) rfl rfl k) ?_
  obtain ⟨T5, X5, e5, k5⟩ := getF X4 hx hZ hown (host := "") (Or.inl (hw _ (List.mem_of_getElem? (i := 13) rfl))) Via.refl e4 F_FALSE_kind (g := (mkF m 11 #[.val (.ref a_FALSE)] [(.ref a_FALSE)])) rfl rfl (hb hby own_d2_11)
  refine own_Fin.back (S' := T5.setTop (mkF m 14 #[.val (.ref a_FALSE)] [(.ref a_Kind_FALSE)])) k5 ?_
  obtain ⟨T6, X6, e6, k6⟩ := getS X5 hx hZ hown (host := "") (hw _ (List.mem_of_getElem? (i := 19) rfl)) Via.refl e5 S_Kind_FALSE (g := (mkF m 14 #[.val (.ref a_FALSE)] [(.ref a_Kind_FALSE)])) rfl (hb hby own_d2_14)
  refine own_Fin.back (S' := T6.setTop (mkF m 17 #[.val (.ref a_FALSE)] [(.ref a_Kind_FALSE), (.ref a_Kind_FALSE)])) k6 ?_
  refine own_Fin.back (S' := T6.setTop (mkF m 20 #[.val (.ref a_FALSE)] [])) (fun t k => XT.acmpNo X6.here hx rfl (hb hby own_d2_17) rfl rfl rfl own_acmp_same.2 k) ?_
  refine own_Fin.back (S' := T6.setTop (mkF m 21 #[.val (.ref a_FALSE)] [(.int (1 : Int32))])) (fun t k => XS.iconst X6.here hx rfl (hb hby own_d2_20) k) ?_
  refine own_Fin.back (S' := T6.setTop (mkF m 25 #[.val (.ref a_FALSE)] [(.int (1 : Int32))])) (fun t k => XS.goto X6.here hx rfl (pc0 := 21) (pc' := 25) rfl (hb hby own_d2_21) (by decide) (by decide) k) ?_
  exact ⟨T6, X6, e6, fun fs hr => retOut X6 hx (w := (.int (1 : Int32))) (t := .boolean) hret (by first | rfl | decide) (Or.inl ⟨rfl, Or.inr (Or.inl rfl), _, rfl⟩) (hb hby own_d2_25) hr⟩
set_option maxRecDepth 65536 in
set_option maxHeartbeats 40000000 in
theorem own_cst_a_TRUE (l : Launch) (Z : State) (a0 : Array Value) (hw : ∀ d ∈ tables_1, d.before a0 Z = true) (h0 : Heap) {a_FALSE a_TRUE a_Kind_FALSE a_Kind_TRUE : Addr} (H : own_Facts Z h0 a_FALSE a_TRUE a_Kind_FALSE a_Kind_TRUE) :
    own_Pur l Z (⟨"com/example/relational_model_translator/relationalmodeltranslator/writer/Ltl", "isConstant", "()Z"⟩ : MethodName) prog_127_method_20_code 1 (some .boolean) 0 0 #[(.ref a_TRUE)] (some (.int (1 : Int32))) h0 := by
  have H0 := H
  obtain ⟨S_FALSE, X_FALSE, S_TRUE, X_TRUE, S_Kind_FALSE, X_Kind_FALSE, S_Kind_TRUE, X_Kind_TRUE, F_FALSE_kind, F_Kind_FALSE_ordinal, F_Kind_TRUE_ordinal, D_FALSE_TRUE, F_FALSE_hash, F_TRUE_hash, F_TRUE_kind, F_FALSE_length, F_TRUE_length, D_Kind_FALSE_Kind_TRUE⟩ := H0
  refine own_body own_pn0 ?_
  intro p e s m below meth c T0 X0 e0 hx hby hml hown hret hZ
  have hown : s.vm.findClass "com/example/relational_model_translator/relationalmodeltranslator/writer/Ltl" = some m.cls := hown
  rw [own_ef_d2 m a_TRUE]
  refine own_Fin.back (S' := T0.setTop (mkF m 1 #[.val (.ref a_TRUE)] [(.ref a_TRUE)])) (fun t k => XS.aloadN X0.here hx rfl (hb hby own_d2_0) rfl rfl k) ?_
  obtain ⟨T7, X7, e7, k7⟩ := getF X0 hx hZ hown (host := "") (Or.inl (hw _ (List.mem_of_getElem? (i := 13) rfl))) Via.refl e0 F_TRUE_kind (g := (mkF m 1 #[.val (.ref a_TRUE)] [(.ref a_TRUE)])) rfl rfl (hb hby own_d2_1)
  refine own_Fin.back (S' := T7.setTop (mkF m 4 #[.val (.ref a_TRUE)] [(.ref a_Kind_TRUE)])) k7 ?_
  obtain ⟨T8, X8, e8, k8⟩ := getS X7 hx hZ hown (host := "") (hw _ (List.mem_of_getElem? (i := 17) rfl)) Via.refl e7 S_Kind_TRUE (g := (mkF m 4 #[.val (.ref a_TRUE)] [(.ref a_Kind_TRUE)])) rfl (hb hby own_d2_4)
  refine own_Fin.back (S' := T8.setTop (mkF m 7 #[.val (.ref a_TRUE)] [(.ref a_Kind_TRUE), (.ref a_Kind_TRUE)])) k8 ?_
  refine own_Fin.back (S' := T8.setTop (mkF m 20 #[.val (.ref a_TRUE)] [])) (fun t k => XT.acmpYes X8.here hx rfl (pc0 := 7) (pc' := 20) rfl (hb hby own_d2_7) rfl rfl rfl own_acmp_same.1 (by decide) (by decide) k) ?_
  refine own_Fin.back (S' := T8.setTop (mkF m 21 #[.val (.ref a_TRUE)] [(.int (1 : Int32))])) (fun t k => XS.iconst X8.here hx rfl (hb hby own_d2_20) k) ?_
  refine own_Fin.back (S' := T8.setTop (mkF m 25 #[.val (.ref a_TRUE)] [(.int (1 : Int32))])) (fun t k => XS.goto X8.here hx rfl (pc0 := 21) (pc' := 25) rfl (hb hby own_d2_21) (by decide) (by decide) k) ?_
  exact ⟨T8, X8, e8, fun fs hr => retOut X8 hx (w := (.int (1 : Int32))) (t := .boolean) hret (by first | rfl | decide) (Or.inl ⟨rfl, Or.inr (Or.inl rfl), _, rfl⟩) (hb hby own_d2_25) hr⟩
theorem own_ef_d4 (m : MethodId) (x0 : Addr) : entryFrame m #[(.ref x0)] 1 = mkF m 0 #[.val (.ref x0)] [] := by first | (simp [entryFrame, mkF, argsToLocals, Value.category]; done) | rfl
theorem own_d4_0 : decode prog_127_method_18_code 0 = .ok (.aload_n 0, 1) := by decide +kernel
theorem own_d4_1 : decode prog_127_method_18_code 1 = .ok (.getfield 90, 3) := by decide +kernel
theorem own_d4_4 : decode prog_127_method_18_code 4 = .ok (.lreturn, 1) := by decide +kernel
set_option maxRecDepth 65536 in
set_option maxHeartbeats 40000000 in
theorem own_len_a_FALSE (l : Launch) (Z : State) (a0 : Array Value) (hw : ∀ d ∈ tables_1, d.before a0 Z = true) (h0 : Heap) {a_FALSE a_TRUE a_Kind_FALSE a_Kind_TRUE : Addr} (H : own_Facts Z h0 a_FALSE a_TRUE a_Kind_FALSE a_Kind_TRUE) :
    own_Pur l Z (⟨"com/example/relational_model_translator/relationalmodeltranslator/writer/Ltl", "length", "()J"⟩ : MethodName) prog_127_method_18_code 1 (some .long) 0 0 #[(.ref a_FALSE)] (some (.long (5 : Int64))) h0 := by
  have H0 := H
  obtain ⟨S_FALSE, X_FALSE, S_TRUE, X_TRUE, S_Kind_FALSE, X_Kind_FALSE, S_Kind_TRUE, X_Kind_TRUE, F_FALSE_kind, F_Kind_FALSE_ordinal, F_Kind_TRUE_ordinal, D_FALSE_TRUE, F_FALSE_hash, F_TRUE_hash, F_TRUE_kind, F_FALSE_length, F_TRUE_length, D_Kind_FALSE_Kind_TRUE⟩ := H0
  refine own_body own_pn0 ?_
  intro p e s m below meth c T0 X0 e0 hx hby hml hown hret hZ
  have hown : s.vm.findClass "com/example/relational_model_translator/relationalmodeltranslator/writer/Ltl" = some m.cls := hown
  rw [own_ef_d4 m a_FALSE]
  refine own_Fin.back (S' := T0.setTop (mkF m 1 #[.val (.ref a_FALSE)] [(.ref a_FALSE)])) (fun t k => XS.aloadN X0.here hx rfl (hb hby own_d4_0) rfl rfl k) ?_
  obtain ⟨T9, X9, e9, k9⟩ := getF X0 hx hZ hown (host := "") (Or.inl (hw _ (List.mem_of_getElem? (i := 36) rfl))) Via.refl e0 F_FALSE_length (g := (mkF m 1 #[.val (.ref a_FALSE)] [(.ref a_FALSE)])) rfl rfl (hb hby own_d4_1)
  refine own_Fin.back (S' := T9.setTop (mkF m 4 #[.val (.ref a_FALSE)] [(.long (5 : Int64))])) k9 ?_
  exact ⟨T9, X9, e9, fun fs hr => retOut X9 hx (w := (.long (5 : Int64))) (t := .long) hret rfl (Or.inr (Or.inl ⟨rfl, rfl, _, rfl⟩)) (hb hby own_d4_4) hr⟩
set_option maxRecDepth 65536 in
set_option maxHeartbeats 40000000 in
theorem own_len_a_TRUE (l : Launch) (Z : State) (a0 : Array Value) (hw : ∀ d ∈ tables_1, d.before a0 Z = true) (h0 : Heap) {a_FALSE a_TRUE a_Kind_FALSE a_Kind_TRUE : Addr} (H : own_Facts Z h0 a_FALSE a_TRUE a_Kind_FALSE a_Kind_TRUE) :
    own_Pur l Z (⟨"com/example/relational_model_translator/relationalmodeltranslator/writer/Ltl", "length", "()J"⟩ : MethodName) prog_127_method_18_code 1 (some .long) 0 0 #[(.ref a_TRUE)] (some (.long (4 : Int64))) h0 := by
  have H0 := H
  obtain ⟨S_FALSE, X_FALSE, S_TRUE, X_TRUE, S_Kind_FALSE, X_Kind_FALSE, S_Kind_TRUE, X_Kind_TRUE, F_FALSE_kind, F_Kind_FALSE_ordinal, F_Kind_TRUE_ordinal, D_FALSE_TRUE, F_FALSE_hash, F_TRUE_hash, F_TRUE_kind, F_FALSE_length, F_TRUE_length, D_Kind_FALSE_Kind_TRUE⟩ := H0
  refine own_body own_pn0 ?_
  intro p e s m below meth c T0 X0 e0 hx hby hml hown hret hZ
  have hown : s.vm.findClass "com/example/relational_model_translator/relationalmodeltranslator/writer/Ltl" = some m.cls := hown
  rw [own_ef_d4 m a_TRUE]
  refine own_Fin.back (S' := T0.setTop (mkF m 1 #[.val (.ref a_TRUE)] [(.ref a_TRUE)])) (fun t k => XS.aloadN X0.here hx rfl (hb hby own_d4_0) rfl rfl k) ?_
  obtain ⟨T10, X10, e10, k10⟩ := getF X0 hx hZ hown (host := "") (Or.inl (hw _ (List.mem_of_getElem? (i := 36) rfl))) Via.refl e0 F_TRUE_length (g := (mkF m 1 #[.val (.ref a_TRUE)] [(.ref a_TRUE)])) rfl rfl (hb hby own_d4_1)
  refine own_Fin.back (S' := T10.setTop (mkF m 4 #[.val (.ref a_TRUE)] [(.long (4 : Int64))])) k10 ?_
  exact ⟨T10, X10, e10, fun fs hr => retOut X10 hx (w := (.long (4 : Int64))) (t := .long) hret rfl (Or.inr (Or.inl ⟨rfl, rfl, _, rfl⟩)) (hb hby own_d4_4) hr⟩
theorem own_ef_d3 (m : MethodId) (x0 : Addr) (x1 : Addr) : entryFrame m #[(.ref x0), (.ref x1)] 4 = mkF m 0 #[.val (.ref x0), .val (.ref x1), .unset, .unset] [] := by first | (simp [entryFrame, mkF, argsToLocals, Value.category]; done) | rfl
theorem own_d3_0 : decode prog_127_method_25_code 0 = .ok (.aload_n 0, 1) := by decide +kernel
theorem own_d3_1 : decode prog_127_method_25_code 1 = .ok (.aload_n 1, 1) := by decide +kernel
theorem own_d3_2 : decode prog_127_method_25_code 2 = .ok (.if_acmp .ne 7, 3) := by decide +kernel
theorem own_d3_5 : decode prog_127_method_25_code 5 = .ok (.iconst 1, 1) := by decide +kernel
theorem own_d3_6 : decode prog_127_method_25_code 6 = .ok (.goto 4, 3) := by decide +kernel
theorem own_d3_10 : decode prog_127_method_25_code 10 = .ok (.istore_n 2, 1) := by decide +kernel
theorem own_d3_11 : decode prog_127_method_25_code 11 = .ok (.iload_n 2, 1) := by decide +kernel
theorem own_d3_12 : decode prog_127_method_25_code 12 = .ok (.ifCond .ne 95, 3) := by decide +kernel
theorem own_d3_107 : decode prog_127_method_25_code 107 = .ok (.iload_n 2, 1) := by decide +kernel
theorem own_d3_108 : decode prog_127_method_25_code 108 = .ok (.ireturn, 1) := by decide +kernel
set_option maxRecDepth 65536 in
set_option maxHeartbeats 40000000 in
theorem own_eq_a_FALSE_a_FALSE (l : Launch) (Z : State) (a0 : Array Value) (hw : ∀ d ∈ tables_1, d.before a0 Z = true) (h0 : Heap) {a_FALSE a_TRUE a_Kind_FALSE a_Kind_TRUE : Addr} (H : own_Facts Z h0 a_FALSE a_TRUE a_Kind_FALSE a_Kind_TRUE) :
    own_Pur l Z (⟨"com/example/relational_model_translator/relationalmodeltranslator/writer/Ltl", "equals", "(Ljava/lang/Object;)Z"⟩ : MethodName) prog_127_method_25_code 4 (some .boolean) 0 0 #[(.ref a_FALSE), (.ref a_FALSE)] (some (.int (1 : Int32))) h0 := by
  have H0 := H
  obtain ⟨S_FALSE, X_FALSE, S_TRUE, X_TRUE, S_Kind_FALSE, X_Kind_FALSE, S_Kind_TRUE, X_Kind_TRUE, F_FALSE_kind, F_Kind_FALSE_ordinal, F_Kind_TRUE_ordinal, D_FALSE_TRUE, F_FALSE_hash, F_TRUE_hash, F_TRUE_kind, F_FALSE_length, F_TRUE_length, D_Kind_FALSE_Kind_TRUE⟩ := H0
  refine own_body own_pn0 ?_
  intro p e s m below meth c T0 X0 e0 hx hby hml hown hret hZ
  have hown : s.vm.findClass "com/example/relational_model_translator/relationalmodeltranslator/writer/Ltl" = some m.cls := hown
  rw [own_ef_d3 m a_FALSE a_FALSE]
  refine own_Fin.back (S' := T0.setTop (mkF m 1 #[.val (.ref a_FALSE), .val (.ref a_FALSE), .unset, .unset] [(.ref a_FALSE)])) (fun t k => XS.aloadN X0.here hx rfl (hb hby own_d3_0) rfl rfl k) ?_
  refine own_Fin.back (S' := T0.setTop (mkF m 2 #[.val (.ref a_FALSE), .val (.ref a_FALSE), .unset, .unset] [(.ref a_FALSE), (.ref a_FALSE)])) (fun t k => XS.aloadN X0.here hx rfl (hb hby own_d3_1) rfl rfl k) ?_
  refine own_Fin.back (S' := T0.setTop (mkF m 5 #[.val (.ref a_FALSE), .val (.ref a_FALSE), .unset, .unset] [])) (fun t k => XT.acmpNo X0.here hx rfl (hb hby own_d3_2) rfl rfl rfl own_acmp_same.2 k) ?_
  refine own_Fin.back (S' := T0.setTop (mkF m 6 #[.val (.ref a_FALSE), .val (.ref a_FALSE), .unset, .unset] [(.int (1 : Int32))])) (fun t k => XS.iconst X0.here hx rfl (hb hby own_d3_5) k) ?_
  refine own_Fin.back (S' := T0.setTop (mkF m 10 #[.val (.ref a_FALSE), .val (.ref a_FALSE), .unset, .unset] [(.int (1 : Int32))])) (fun t k => XS.goto X0.here hx rfl (pc0 := 6) (pc' := 10) rfl (hb hby own_d3_6) (by decide) (by decide) k) ?_
  refine own_Fin.back (S' := T0.setTop (mkF m 11 #[.val (.ref a_FALSE), .val (.ref a_FALSE), .val (.int (1 : Int32)), .unset] [])) (fun t k => XS.istoreN X0.here hx rfl (hb hby own_d3_10) rfl (l' := #[.val (.ref a_FALSE), .val (.ref a_FALSE), .val (.int (1 : Int32)), .unset]) rfl k) ?_
  refine own_Fin.back (S' := T0.setTop (mkF m 12 #[.val (.ref a_FALSE), .val (.ref a_FALSE), .val (.int (1 : Int32)), .unset] [(.int (1 : Int32))])) (fun t k => XS.iloadN X0.here hx rfl (hb hby own_d3_11) rfl k) ?_
  refine own_Fin.back (S' := T0.setTop (mkF m 107 #[.val (.ref a_FALSE), .val (.ref a_FALSE), .val (.int (1 : Int32)), .unset] [])) (fun t k => XS.ifYes X0.here hx rfl (pc0 := 12) (pc' := 107) rfl (hb hby own_d3_12) rfl (by decide) (by decide) (by decide) k) ?_
  refine own_Fin.back (S' := T0.setTop (mkF m 108 #[.val (.ref a_FALSE), .val (.ref a_FALSE), .val (.int (1 : Int32)), .unset] [(.int (1 : Int32))])) (fun t k => XS.iloadN X0.here hx rfl (hb hby own_d3_107) rfl k) ?_
  exact ⟨T0, X0, e0, fun fs hr => retOut X0 hx (w := (.int (1 : Int32))) (t := .boolean) hret (by first | rfl | decide) (Or.inl ⟨rfl, Or.inr (Or.inl rfl), _, rfl⟩) (hb hby own_d3_108) hr⟩
theorem own_d3_9 : decode prog_127_method_25_code 9 = .ok (.iconst 0, 1) := by decide +kernel
theorem own_d3_15 : decode prog_127_method_25_code 15 = .ok (.aload_n 1, 1) := by decide +kernel
theorem own_d3_16 : decode prog_127_method_25_code 16 = .ok (.instanceof 8, 3) := by decide +kernel
theorem own_d3_19 : decode prog_127_method_25_code 19 = .ok (.ifCond .eq 88, 3) := by decide +kernel
theorem own_d3_22 : decode prog_127_method_25_code 22 = .ok (.aload_n 1, 1) := by decide +kernel
theorem own_d3_23 : decode prog_127_method_25_code 23 = .ok (.checkcast 8, 3) := by decide +kernel
theorem own_d3_26 : decode prog_127_method_25_code 26 = .ok (.astore_n 3, 1) := by decide +kernel
theorem own_d3_27 : decode prog_127_method_25_code 27 = .ok (.aload_n 0, 1) := by decide +kernel
theorem own_d3_28 : decode prog_127_method_25_code 28 = .ok (.getfield 40, 3) := by decide +kernel
theorem own_d3_31 : decode prog_127_method_25_code 31 = .ok (.aload_n 3, 1) := by decide +kernel
theorem own_d3_32 : decode prog_127_method_25_code 32 = .ok (.getfield 40, 3) := by decide +kernel
theorem own_d3_35 : decode prog_127_method_25_code 35 = .ok (.if_icmp .ne 70, 3) := by decide +kernel
theorem own_d3_38 : decode prog_127_method_25_code 38 = .ok (.aload_n 0, 1) := by decide +kernel
theorem own_d3_39 : decode prog_127_method_25_code 39 = .ok (.getfield 7, 3) := by decide +kernel
theorem own_d3_42 : decode prog_127_method_25_code 42 = .ok (.aload_n 3, 1) := by decide +kernel
theorem own_d3_43 : decode prog_127_method_25_code 43 = .ok (.getfield 7, 3) := by decide +kernel
theorem own_d3_46 : decode prog_127_method_25_code 46 = .ok (.if_acmp .ne 59, 3) := by decide +kernel
theorem own_d3_105 : decode prog_127_method_25_code 105 = .ok (.iconst 0, 1) := by decide +kernel
theorem own_d3_106 : decode prog_127_method_25_code 106 = .ok (.istore_n 2, 1) := by decide +kernel
set_option maxRecDepth 65536 in
set_option maxHeartbeats 40000000 in
theorem own_eq_a_FALSE_a_TRUE (l : Launch) (Z : State) (a0 : Array Value) (hw : ∀ d ∈ tables_1, d.before a0 Z = true) (h0 : Heap) {a_FALSE a_TRUE a_Kind_FALSE a_Kind_TRUE : Addr} (H : own_Facts Z h0 a_FALSE a_TRUE a_Kind_FALSE a_Kind_TRUE) :
    own_Pur l Z (⟨"com/example/relational_model_translator/relationalmodeltranslator/writer/Ltl", "equals", "(Ljava/lang/Object;)Z"⟩ : MethodName) prog_127_method_25_code 4 (some .boolean) 0 0 #[(.ref a_FALSE), (.ref a_TRUE)] (some (.int (0 : Int32))) h0 := by
  have H0 := H
  obtain ⟨S_FALSE, X_FALSE, S_TRUE, X_TRUE, S_Kind_FALSE, X_Kind_FALSE, S_Kind_TRUE, X_Kind_TRUE, F_FALSE_kind, F_Kind_FALSE_ordinal, F_Kind_TRUE_ordinal, D_FALSE_TRUE, F_FALSE_hash, F_TRUE_hash, F_TRUE_kind, F_FALSE_length, F_TRUE_length, D_Kind_FALSE_Kind_TRUE⟩ := H0
  refine own_body own_pn0 ?_
  intro p e s m below meth c T0 X0 e0 hx hby hml hown hret hZ
  have hown : s.vm.findClass "com/example/relational_model_translator/relationalmodeltranslator/writer/Ltl" = some m.cls := hown
  rw [own_ef_d3 m a_FALSE a_TRUE]
  refine own_Fin.back (S' := T0.setTop (mkF m 1 #[.val (.ref a_FALSE), .val (.ref a_TRUE), .unset, .unset] [(.ref a_FALSE)])) (fun t k => XS.aloadN X0.here hx rfl (hb hby own_d3_0) rfl rfl k) ?_
  refine own_Fin.back (S' := T0.setTop (mkF m 2 #[.val (.ref a_FALSE), .val (.ref a_TRUE), .unset, .unset] [(.ref a_TRUE), (.ref a_FALSE)])) (fun t k => XS.aloadN X0.here hx rfl (hb hby own_d3_1) rfl rfl k) ?_
  refine own_Fin.back (S' := T0.setTop (mkF m 9 #[.val (.ref a_FALSE), .val (.ref a_TRUE), .unset, .unset] [])) (fun t k => XT.acmpYes X0.here hx rfl (pc0 := 2) (pc' := 9) rfl (hb hby own_d3_2) rfl rfl rfl (own_acmp_diff D_FALSE_TRUE).2 (by decide) (by decide) k) ?_
  refine own_Fin.back (S' := T0.setTop (mkF m 10 #[.val (.ref a_FALSE), .val (.ref a_TRUE), .unset, .unset] [(.int (0 : Int32))])) (fun t k => XS.iconst X0.here hx rfl (hb hby own_d3_9) k) ?_
  refine own_Fin.back (S' := T0.setTop (mkF m 11 #[.val (.ref a_FALSE), .val (.ref a_TRUE), .val (.int (0 : Int32)), .unset] [])) (fun t k => XS.istoreN X0.here hx rfl (hb hby own_d3_10) rfl (l' := #[.val (.ref a_FALSE), .val (.ref a_TRUE), .val (.int (0 : Int32)), .unset]) rfl k) ?_
  refine own_Fin.back (S' := T0.setTop (mkF m 12 #[.val (.ref a_FALSE), .val (.ref a_TRUE), .val (.int (0 : Int32)), .unset] [(.int (0 : Int32))])) (fun t k => XS.iloadN X0.here hx rfl (hb hby own_d3_11) rfl k) ?_
  refine own_Fin.back (S' := T0.setTop (mkF m 15 #[.val (.ref a_FALSE), .val (.ref a_TRUE), .val (.int (0 : Int32)), .unset] [])) (fun t k => XS.ifNo X0.here hx rfl (hb hby own_d3_12) rfl (by decide) k) ?_
  refine own_Fin.back (S' := T0.setTop (mkF m 16 #[.val (.ref a_FALSE), .val (.ref a_TRUE), .val (.int (0 : Int32)), .unset] [(.ref a_TRUE)])) (fun t k => XS.aloadN X0.here hx rfl (hb hby own_d3_15) rfl rfl k) ?_
  obtain ⟨T11, X11, e11, k11⟩ := instY X0 hx hZ hown (hw _ (List.mem_of_getElem? (i := 26) rfl)) e0 (Ins.self X_TRUE) (g := (mkF m 16 #[.val (.ref a_FALSE), .val (.ref a_TRUE), .val (.int (0 : Int32)), .unset] [(.ref a_TRUE)])) rfl rfl (hb hby own_d3_16)
  refine own_Fin.back (S' := T11.setTop (mkF m 19 #[.val (.ref a_FALSE), .val (.ref a_TRUE), .val (.int (0 : Int32)), .unset] [(.int (1 : Int32))])) k11 ?_
  refine own_Fin.back (S' := T11.setTop (mkF m 22 #[.val (.ref a_FALSE), .val (.ref a_TRUE), .val (.int (0 : Int32)), .unset] [])) (fun t k => XS.ifNo X11.here hx rfl (hb hby own_d3_19) rfl (by decide) k) ?_
  refine own_Fin.back (S' := T11.setTop (mkF m 23 #[.val (.ref a_FALSE), .val (.ref a_TRUE), .val (.int (0 : Int32)), .unset] [(.ref a_TRUE)])) (fun t k => XS.aloadN X11.here hx rfl (hb hby own_d3_22) rfl rfl k) ?_
  obtain ⟨T12, X12, e12, k12⟩ := castY X11 hx hZ hown (hw _ (List.mem_of_getElem? (i := 26) rfl)) e11 (Ins.self X_TRUE) (g := (mkF m 23 #[.val (.ref a_FALSE), .val (.ref a_TRUE), .val (.int (0 : Int32)), .unset] [(.ref a_TRUE)])) rfl rfl (hb hby own_d3_23)
  refine own_Fin.back (S' := T12.setTop (mkF m 26 #[.val (.ref a_FALSE), .val (.ref a_TRUE), .val (.int (0 : Int32)), .unset] [(.ref a_TRUE)])) k12 ?_
  refine own_Fin.back (S' := T12.setTop (mkF m 27 #[.val (.ref a_FALSE), .val (.ref a_TRUE), .val (.int (0 : Int32)), .val (.ref a_TRUE)] [])) (fun t k => XS.astoreN X12.here hx rfl (hb hby own_d3_26) rfl rfl (l' := #[.val (.ref a_FALSE), .val (.ref a_TRUE), .val (.int (0 : Int32)), .val (.ref a_TRUE)]) rfl k) ?_
  refine own_Fin.back (S' := T12.setTop (mkF m 28 #[.val (.ref a_FALSE), .val (.ref a_TRUE), .val (.int (0 : Int32)), .val (.ref a_TRUE)] [(.ref a_FALSE)])) (fun t k => XS.aloadN X12.here hx rfl (hb hby own_d3_27) rfl rfl k) ?_
  obtain ⟨T13, X13, e13, k13⟩ := getF X12 hx hZ hown (host := "") (Or.inl (hw _ (List.mem_of_getElem? (i := 28) rfl))) Via.refl e12 F_FALSE_hash (g := (mkF m 28 #[.val (.ref a_FALSE), .val (.ref a_TRUE), .val (.int (0 : Int32)), .val (.ref a_TRUE)] [(.ref a_FALSE)])) rfl rfl (hb hby own_d3_28)
  refine own_Fin.back (S' := T13.setTop (mkF m 31 #[.val (.ref a_FALSE), .val (.ref a_TRUE), .val (.int (0 : Int32)), .val (.ref a_TRUE)] [(.int (29552673 : Int32))])) k13 ?_
  refine own_Fin.back (S' := T13.setTop (mkF m 32 #[.val (.ref a_FALSE), .val (.ref a_TRUE), .val (.int (0 : Int32)), .val (.ref a_TRUE)] [(.ref a_TRUE), (.int (29552673 : Int32))])) (fun t k => XS.aloadN X13.here hx rfl (hb hby own_d3_31) rfl rfl k) ?_
  obtain ⟨T14, X14, e14, k14⟩ := getF X13 hx hZ hown (host := "") (Or.inl (hw _ (List.mem_of_getElem? (i := 28) rfl))) Via.refl e13 F_TRUE_hash (g := (mkF m 32 #[.val (.ref a_FALSE), .val (.ref a_TRUE), .val (.int (0 : Int32)), .val (.ref a_TRUE)] [(.ref a_TRUE), (.int (29552673 : Int32))])) rfl rfl (hb hby own_d3_32)
  refine own_Fin.back (S' := T14.setTop (mkF m 35 #[.val (.ref a_FALSE), .val (.ref a_TRUE), .val (.int (0 : Int32)), .val (.ref a_TRUE)] [(.int (29552673 : Int32)), (.int (29552673 : Int32))])) k14 ?_
  refine own_Fin.back (S' := T14.setTop (mkF m 38 #[.val (.ref a_FALSE), .val (.ref a_TRUE), .val (.int (0 : Int32)), .val (.ref a_TRUE)] [])) (fun t k => XS.icmpNo X14.here hx rfl (hb hby own_d3_35) rfl (by decide) k) ?_
  refine own_Fin.back (S' := T14.setTop (mkF m 39 #[.val (.ref a_FALSE), .val (.ref a_TRUE), .val (.int (0 : Int32)), .val (.ref a_TRUE)] [(.ref a_FALSE)])) (fun t k => XS.aloadN X14.here hx rfl (hb hby own_d3_38) rfl rfl k) ?_
  obtain ⟨T15, X15, e15, k15⟩ := getF X14 hx hZ hown (host := "") (Or.inl (hw _ (List.mem_of_getElem? (i := 13) rfl))) Via.refl e14 F_FALSE_kind (g := (mkF m 39 #[.val (.ref a_FALSE), .val (.ref a_TRUE), .val (.int (0 : Int32)), .val (.ref a_TRUE)] [(.ref a_FALSE)])) rfl rfl (hb hby own_d3_39)
  refine own_Fin.back (S' := T15.setTop (mkF m 42 #[.val (.ref a_FALSE), .val (.ref a_TRUE), .val (.int (0 : Int32)), .val (.ref a_TRUE)] [(.ref a_Kind_FALSE)])) k15 ?_
  refine own_Fin.back (S' := T15.setTop (mkF m 43 #[.val (.ref a_FALSE), .val (.ref a_TRUE), .val (.int (0 : Int32)), .val (.ref a_TRUE)] [(.ref a_TRUE), (.ref a_Kind_FALSE)])) (fun t k => XS.aloadN X15.here hx rfl (hb hby own_d3_42) rfl rfl k) ?_
  obtain ⟨T16, X16, e16, k16⟩ := getF X15 hx hZ hown (host := "") (Or.inl (hw _ (List.mem_of_getElem? (i := 13) rfl))) Via.refl e15 F_TRUE_kind (g := (mkF m 43 #[.val (.ref a_FALSE), .val (.ref a_TRUE), .val (.int (0 : Int32)), .val (.ref a_TRUE)] [(.ref a_TRUE), (.ref a_Kind_FALSE)])) rfl rfl (hb hby own_d3_43)
  refine own_Fin.back (S' := T16.setTop (mkF m 46 #[.val (.ref a_FALSE), .val (.ref a_TRUE), .val (.int (0 : Int32)), .val (.ref a_TRUE)] [(.ref a_Kind_TRUE), (.ref a_Kind_FALSE)])) k16 ?_
  refine own_Fin.back (S' := T16.setTop (mkF m 105 #[.val (.ref a_FALSE), .val (.ref a_TRUE), .val (.int (0 : Int32)), .val (.ref a_TRUE)] [])) (fun t k => XT.acmpYes X16.here hx rfl (pc0 := 46) (pc' := 105) rfl (hb hby own_d3_46) rfl rfl rfl (own_acmp_diff D_Kind_FALSE_Kind_TRUE).2 (by decide) (by decide) k) ?_
  refine own_Fin.back (S' := T16.setTop (mkF m 106 #[.val (.ref a_FALSE), .val (.ref a_TRUE), .val (.int (0 : Int32)), .val (.ref a_TRUE)] [(.int (0 : Int32))])) (fun t k => XS.iconst X16.here hx rfl (hb hby own_d3_105) k) ?_
  refine own_Fin.back (S' := T16.setTop (mkF m 107 #[.val (.ref a_FALSE), .val (.ref a_TRUE), .val (.int (0 : Int32)), .val (.ref a_TRUE)] [])) (fun t k => XS.istoreN X16.here hx rfl (hb hby own_d3_106) rfl (l' := #[.val (.ref a_FALSE), .val (.ref a_TRUE), .val (.int (0 : Int32)), .val (.ref a_TRUE)]) rfl k) ?_
  refine own_Fin.back (S' := T16.setTop (mkF m 108 #[.val (.ref a_FALSE), .val (.ref a_TRUE), .val (.int (0 : Int32)), .val (.ref a_TRUE)] [(.int (0 : Int32))])) (fun t k => XS.iloadN X16.here hx rfl (hb hby own_d3_107) rfl k) ?_
  exact ⟨T16, X16, e16, fun fs hr => retOut X16 hx (w := (.int (0 : Int32))) (t := .boolean) hret (by first | rfl | decide) (Or.inl ⟨rfl, Or.inr (Or.inl rfl), _, rfl⟩) (hb hby own_d3_108) hr⟩
set_option maxRecDepth 65536 in
set_option maxHeartbeats 40000000 in
theorem own_eq_a_TRUE_a_FALSE (l : Launch) (Z : State) (a0 : Array Value) (hw : ∀ d ∈ tables_1, d.before a0 Z = true) (h0 : Heap) {a_FALSE a_TRUE a_Kind_FALSE a_Kind_TRUE : Addr} (H : own_Facts Z h0 a_FALSE a_TRUE a_Kind_FALSE a_Kind_TRUE) :
    own_Pur l Z (⟨"com/example/relational_model_translator/relationalmodeltranslator/writer/Ltl", "equals", "(Ljava/lang/Object;)Z"⟩ : MethodName) prog_127_method_25_code 4 (some .boolean) 0 0 #[(.ref a_TRUE), (.ref a_FALSE)] (some (.int (0 : Int32))) h0 := by
  have H0 := H
  obtain ⟨S_FALSE, X_FALSE, S_TRUE, X_TRUE, S_Kind_FALSE, X_Kind_FALSE, S_Kind_TRUE, X_Kind_TRUE, F_FALSE_kind, F_Kind_FALSE_ordinal, F_Kind_TRUE_ordinal, D_FALSE_TRUE, F_FALSE_hash, F_TRUE_hash, F_TRUE_kind, F_FALSE_length, F_TRUE_length, D_Kind_FALSE_Kind_TRUE⟩ := H0
  refine own_body own_pn0 ?_
  intro p e s m below meth c T0 X0 e0 hx hby hml hown hret hZ
  have hown : s.vm.findClass "com/example/relational_model_translator/relationalmodeltranslator/writer/Ltl" = some m.cls := hown
  rw [own_ef_d3 m a_TRUE a_FALSE]
  refine own_Fin.back (S' := T0.setTop (mkF m 1 #[.val (.ref a_TRUE), .val (.ref a_FALSE), .unset, .unset] [(.ref a_TRUE)])) (fun t k => XS.aloadN X0.here hx rfl (hb hby own_d3_0) rfl rfl k) ?_
  refine own_Fin.back (S' := T0.setTop (mkF m 2 #[.val (.ref a_TRUE), .val (.ref a_FALSE), .unset, .unset] [(.ref a_FALSE), (.ref a_TRUE)])) (fun t k => XS.aloadN X0.here hx rfl (hb hby own_d3_1) rfl rfl k) ?_
  refine own_Fin.back (S' := T0.setTop (mkF m 9 #[.val (.ref a_TRUE), .val (.ref a_FALSE), .unset, .unset] [])) (fun t k => XT.acmpYes X0.here hx rfl (pc0 := 2) (pc' := 9) rfl (hb hby own_d3_2) rfl rfl rfl (own_acmp_diff D_FALSE_TRUE.symm).2 (by decide) (by decide) k) ?_
  refine own_Fin.back (S' := T0.setTop (mkF m 10 #[.val (.ref a_TRUE), .val (.ref a_FALSE), .unset, .unset] [(.int (0 : Int32))])) (fun t k => XS.iconst X0.here hx rfl (hb hby own_d3_9) k) ?_
  refine own_Fin.back (S' := T0.setTop (mkF m 11 #[.val (.ref a_TRUE), .val (.ref a_FALSE), .val (.int (0 : Int32)), .unset] [])) (fun t k => XS.istoreN X0.here hx rfl (hb hby own_d3_10) rfl (l' := #[.val (.ref a_TRUE), .val (.ref a_FALSE), .val (.int (0 : Int32)), .unset]) rfl k) ?_
  refine own_Fin.back (S' := T0.setTop (mkF m 12 #[.val (.ref a_TRUE), .val (.ref a_FALSE), .val (.int (0 : Int32)), .unset] [(.int (0 : Int32))])) (fun t k => XS.iloadN X0.here hx rfl (hb hby own_d3_11) rfl k) ?_
  refine own_Fin.back (S' := T0.setTop (mkF m 15 #[.val (.ref a_TRUE), .val (.ref a_FALSE), .val (.int (0 : Int32)), .unset] [])) (fun t k => XS.ifNo X0.here hx rfl (hb hby own_d3_12) rfl (by decide) k) ?_
  refine own_Fin.back (S' := T0.setTop (mkF m 16 #[.val (.ref a_TRUE), .val (.ref a_FALSE), .val (.int (0 : Int32)), .unset] [(.ref a_FALSE)])) (fun t k => XS.aloadN X0.here hx rfl (hb hby own_d3_15) rfl rfl k) ?_
  obtain ⟨T17, X17, e17, k17⟩ := instY X0 hx hZ hown (hw _ (List.mem_of_getElem? (i := 26) rfl)) e0 (Ins.self X_FALSE) (g := (mkF m 16 #[.val (.ref a_TRUE), .val (.ref a_FALSE), .val (.int (0 : Int32)), .unset] [(.ref a_FALSE)])) rfl rfl (hb hby own_d3_16)
  refine own_Fin.back (S' := T17.setTop (mkF m 19 #[.val (.ref a_TRUE), .val (.ref a_FALSE), .val (.int (0 : Int32)), .unset] [(.int (1 : Int32))])) k17 ?_
  refine own_Fin.back (S' := T17.setTop (mkF m 22 #[.val (.ref a_TRUE), .val (.ref a_FALSE), .val (.int (0 : Int32)), .unset] [])) (fun t k => XS.ifNo X17.here hx rfl (hb hby own_d3_19) rfl (by decide) k) ?_
  refine own_Fin.back (S' := T17.setTop (mkF m 23 #[.val (.ref a_TRUE), .val (.ref a_FALSE), .val (.int (0 : Int32)), .unset] [(.ref a_FALSE)])) (fun t k => XS.aloadN X17.here hx rfl (hb hby own_d3_22) rfl rfl k) ?_
  obtain ⟨T18, X18, e18, k18⟩ := castY X17 hx hZ hown (hw _ (List.mem_of_getElem? (i := 26) rfl)) e17 (Ins.self X_FALSE) (g := (mkF m 23 #[.val (.ref a_TRUE), .val (.ref a_FALSE), .val (.int (0 : Int32)), .unset] [(.ref a_FALSE)])) rfl rfl (hb hby own_d3_23)
  refine own_Fin.back (S' := T18.setTop (mkF m 26 #[.val (.ref a_TRUE), .val (.ref a_FALSE), .val (.int (0 : Int32)), .unset] [(.ref a_FALSE)])) k18 ?_
  refine own_Fin.back (S' := T18.setTop (mkF m 27 #[.val (.ref a_TRUE), .val (.ref a_FALSE), .val (.int (0 : Int32)), .val (.ref a_FALSE)] [])) (fun t k => XS.astoreN X18.here hx rfl (hb hby own_d3_26) rfl rfl (l' := #[.val (.ref a_TRUE), .val (.ref a_FALSE), .val (.int (0 : Int32)), .val (.ref a_FALSE)]) rfl k) ?_
  refine own_Fin.back (S' := T18.setTop (mkF m 28 #[.val (.ref a_TRUE), .val (.ref a_FALSE), .val (.int (0 : Int32)), .val (.ref a_FALSE)] [(.ref a_TRUE)])) (fun t k => XS.aloadN X18.here hx rfl (hb hby own_d3_27) rfl rfl k) ?_
  obtain ⟨T19, X19, e19, k19⟩ := getF X18 hx hZ hown (host := "") (Or.inl (hw _ (List.mem_of_getElem? (i := 28) rfl))) Via.refl e18 F_TRUE_hash (g := (mkF m 28 #[.val (.ref a_TRUE), .val (.ref a_FALSE), .val (.int (0 : Int32)), .val (.ref a_FALSE)] [(.ref a_TRUE)])) rfl rfl (hb hby own_d3_28)
  refine own_Fin.back (S' := T19.setTop (mkF m 31 #[.val (.ref a_TRUE), .val (.ref a_FALSE), .val (.int (0 : Int32)), .val (.ref a_FALSE)] [(.int (29552673 : Int32))])) k19 ?_
  refine own_Fin.back (S' := T19.setTop (mkF m 32 #[.val (.ref a_TRUE), .val (.ref a_FALSE), .val (.int (0 : Int32)), .val (.ref a_FALSE)] [(.ref a_FALSE), (.int (29552673 : Int32))])) (fun t k => XS.aloadN X19.here hx rfl (hb hby own_d3_31) rfl rfl k) ?_
  obtain ⟨T20, X20, e20, k20⟩ := getF X19 hx hZ hown (host := "") (Or.inl (hw _ (List.mem_of_getElem? (i := 28) rfl))) Via.refl e19 F_FALSE_hash (g := (mkF m 32 #[.val (.ref a_TRUE), .val (.ref a_FALSE), .val (.int (0 : Int32)), .val (.ref a_FALSE)] [(.ref a_FALSE), (.int (29552673 : Int32))])) rfl rfl (hb hby own_d3_32)
  refine own_Fin.back (S' := T20.setTop (mkF m 35 #[.val (.ref a_TRUE), .val (.ref a_FALSE), .val (.int (0 : Int32)), .val (.ref a_FALSE)] [(.int (29552673 : Int32)), (.int (29552673 : Int32))])) k20 ?_
  refine own_Fin.back (S' := T20.setTop (mkF m 38 #[.val (.ref a_TRUE), .val (.ref a_FALSE), .val (.int (0 : Int32)), .val (.ref a_FALSE)] [])) (fun t k => XS.icmpNo X20.here hx rfl (hb hby own_d3_35) rfl (by decide) k) ?_
  refine own_Fin.back (S' := T20.setTop (mkF m 39 #[.val (.ref a_TRUE), .val (.ref a_FALSE), .val (.int (0 : Int32)), .val (.ref a_FALSE)] [(.ref a_TRUE)])) (fun t k => XS.aloadN X20.here hx rfl (hb hby own_d3_38) rfl rfl k) ?_
  obtain ⟨T21, X21, e21, k21⟩ := getF X20 hx hZ hown (host := "") (Or.inl (hw _ (List.mem_of_getElem? (i := 13) rfl))) Via.refl e20 F_TRUE_kind (g := (mkF m 39 #[.val (.ref a_TRUE), .val (.ref a_FALSE), .val (.int (0 : Int32)), .val (.ref a_FALSE)] [(.ref a_TRUE)])) rfl rfl (hb hby own_d3_39)
  refine own_Fin.back (S' := T21.setTop (mkF m 42 #[.val (.ref a_TRUE), .val (.ref a_FALSE), .val (.int (0 : Int32)), .val (.ref a_FALSE)] [(.ref a_Kind_TRUE)])) k21 ?_
  refine own_Fin.back (S' := T21.setTop (mkF m 43 #[.val (.ref a_TRUE), .val (.ref a_FALSE), .val (.int (0 : Int32)), .val (.ref a_FALSE)] [(.ref a_FALSE), (.ref a_Kind_TRUE)])) (fun t k => XS.aloadN X21.here hx rfl (hb hby own_d3_42) rfl rfl k) ?_
  obtain ⟨T22, X22, e22, k22⟩ := getF X21 hx hZ hown (host := "") (Or.inl (hw _ (List.mem_of_getElem? (i := 13) rfl))) Via.refl e21 F_FALSE_kind (g := (mkF m 43 #[.val (.ref a_TRUE), .val (.ref a_FALSE), .val (.int (0 : Int32)), .val (.ref a_FALSE)] [(.ref a_FALSE), (.ref a_Kind_TRUE)])) rfl rfl (hb hby own_d3_43)
  refine own_Fin.back (S' := T22.setTop (mkF m 46 #[.val (.ref a_TRUE), .val (.ref a_FALSE), .val (.int (0 : Int32)), .val (.ref a_FALSE)] [(.ref a_Kind_FALSE), (.ref a_Kind_TRUE)])) k22 ?_
  refine own_Fin.back (S' := T22.setTop (mkF m 105 #[.val (.ref a_TRUE), .val (.ref a_FALSE), .val (.int (0 : Int32)), .val (.ref a_FALSE)] [])) (fun t k => XT.acmpYes X22.here hx rfl (pc0 := 46) (pc' := 105) rfl (hb hby own_d3_46) rfl rfl rfl (own_acmp_diff D_Kind_FALSE_Kind_TRUE.symm).2 (by decide) (by decide) k) ?_
  refine own_Fin.back (S' := T22.setTop (mkF m 106 #[.val (.ref a_TRUE), .val (.ref a_FALSE), .val (.int (0 : Int32)), .val (.ref a_FALSE)] [(.int (0 : Int32))])) (fun t k => XS.iconst X22.here hx rfl (hb hby own_d3_105) k) ?_
  refine own_Fin.back (S' := T22.setTop (mkF m 107 #[.val (.ref a_TRUE), .val (.ref a_FALSE), .val (.int (0 : Int32)), .val (.ref a_FALSE)] [])) (fun t k => XS.istoreN X22.here hx rfl (hb hby own_d3_106) rfl (l' := #[.val (.ref a_TRUE), .val (.ref a_FALSE), .val (.int (0 : Int32)), .val (.ref a_FALSE)]) rfl k) ?_
  refine own_Fin.back (S' := T22.setTop (mkF m 108 #[.val (.ref a_TRUE), .val (.ref a_FALSE), .val (.int (0 : Int32)), .val (.ref a_FALSE)] [(.int (0 : Int32))])) (fun t k => XS.iloadN X22.here hx rfl (hb hby own_d3_107) rfl k) ?_
  exact ⟨T22, X22, e22, fun fs hr => retOut X22 hx (w := (.int (0 : Int32))) (t := .boolean) hret (by first | rfl | decide) (Or.inl ⟨rfl, Or.inr (Or.inl rfl), _, rfl⟩) (hb hby own_d3_108) hr⟩
set_option maxRecDepth 65536 in
set_option maxHeartbeats 40000000 in
theorem own_eq_a_TRUE_a_TRUE (l : Launch) (Z : State) (a0 : Array Value) (hw : ∀ d ∈ tables_1, d.before a0 Z = true) (h0 : Heap) {a_FALSE a_TRUE a_Kind_FALSE a_Kind_TRUE : Addr} (H : own_Facts Z h0 a_FALSE a_TRUE a_Kind_FALSE a_Kind_TRUE) :
    own_Pur l Z (⟨"com/example/relational_model_translator/relationalmodeltranslator/writer/Ltl", "equals", "(Ljava/lang/Object;)Z"⟩ : MethodName) prog_127_method_25_code 4 (some .boolean) 0 0 #[(.ref a_TRUE), (.ref a_TRUE)] (some (.int (1 : Int32))) h0 := by
  have H0 := H
  obtain ⟨S_FALSE, X_FALSE, S_TRUE, X_TRUE, S_Kind_FALSE, X_Kind_FALSE, S_Kind_TRUE, X_Kind_TRUE, F_FALSE_kind, F_Kind_FALSE_ordinal, F_Kind_TRUE_ordinal, D_FALSE_TRUE, F_FALSE_hash, F_TRUE_hash, F_TRUE_kind, F_FALSE_length, F_TRUE_length, D_Kind_FALSE_Kind_TRUE⟩ := H0
  refine own_body own_pn0 ?_
  intro p e s m below meth c T0 X0 e0 hx hby hml hown hret hZ
  have hown : s.vm.findClass "com/example/relational_model_translator/relationalmodeltranslator/writer/Ltl" = some m.cls := hown
  rw [own_ef_d3 m a_TRUE a_TRUE]
  refine own_Fin.back (S' := T0.setTop (mkF m 1 #[.val (.ref a_TRUE), .val (.ref a_TRUE), .unset, .unset] [(.ref a_TRUE)])) (fun t k => XS.aloadN X0.here hx rfl (hb hby own_d3_0) rfl rfl k) ?_
  refine own_Fin.back (S' := T0.setTop (mkF m 2 #[.val (.ref a_TRUE), .val (.ref a_TRUE), .unset, .unset] [(.ref a_TRUE), (.ref a_TRUE)])) (fun t k => XS.aloadN X0.here hx rfl (hb hby own_d3_1) rfl rfl k) ?_
  refine own_Fin.back (S' := T0.setTop (mkF m 5 #[.val (.ref a_TRUE), .val (.ref a_TRUE), .unset, .unset] [])) (fun t k => XT.acmpNo X0.here hx rfl (hb hby own_d3_2) rfl rfl rfl own_acmp_same.2 k) ?_
  refine own_Fin.back (S' := T0.setTop (mkF m 6 #[.val (.ref a_TRUE), .val (.ref a_TRUE), .unset, .unset] [(.int (1 : Int32))])) (fun t k => XS.iconst X0.here hx rfl (hb hby own_d3_5) k) ?_
  refine own_Fin.back (S' := T0.setTop (mkF m 10 #[.val (.ref a_TRUE), .val (.ref a_TRUE), .unset, .unset] [(.int (1 : Int32))])) (fun t k => XS.goto X0.here hx rfl (pc0 := 6) (pc' := 10) rfl (hb hby own_d3_6) (by decide) (by decide) k) ?_
  refine own_Fin.back (S' := T0.setTop (mkF m 11 #[.val (.ref a_TRUE), .val (.ref a_TRUE), .val (.int (1 : Int32)), .unset] [])) (fun t k => XS.istoreN X0.here hx rfl (hb hby own_d3_10) rfl (l' := #[.val (.ref a_TRUE), .val (.ref a_TRUE), .val (.int (1 : Int32)), .unset]) rfl k) ?_
  refine own_Fin.back (S' := T0.setTop (mkF m 12 #[.val (.ref a_TRUE), .val (.ref a_TRUE), .val (.int (1 : Int32)), .unset] [(.int (1 : Int32))])) (fun t k => XS.iloadN X0.here hx rfl (hb hby own_d3_11) rfl k) ?_
  refine own_Fin.back (S' := T0.setTop (mkF m 107 #[.val (.ref a_TRUE), .val (.ref a_TRUE), .val (.int (1 : Int32)), .unset] [])) (fun t k => XS.ifYes X0.here hx rfl (pc0 := 12) (pc' := 107) rfl (hb hby own_d3_12) rfl (by decide) (by decide) (by decide) k) ?_
  refine own_Fin.back (S' := T0.setTop (mkF m 108 #[.val (.ref a_TRUE), .val (.ref a_TRUE), .val (.int (1 : Int32)), .unset] [(.int (1 : Int32))])) (fun t k => XS.iloadN X0.here hx rfl (hb hby own_d3_107) rfl k) ?_
  exact ⟨T0, X0, e0, fun fs hr => retOut X0 hx (w := (.int (1 : Int32))) (t := .boolean) hret (by first | rfl | decide) (Or.inl ⟨rfl, Or.inr (Or.inl rfl), _, rfl⟩) (hb hby own_d3_108) hr⟩
theorem own_ef_d5 (m : MethodId) (x0 : Addr) : entryFrame m #[(.ref x0)] 2 = mkF m 0 #[.val (.ref x0), .unset] [] := by first | (simp [entryFrame, mkF, argsToLocals, Value.category]; done) | rfl
theorem own_d5_0 : decode prog_127_method_7_code 0 = .ok (.aload_n 0, 1) := by decide +kernel
theorem own_d5_1 : decode prog_127_method_7_code 1 = .ok (.getfield 7, 3) := by decide +kernel
theorem own_d5_4 : decode prog_127_method_7_code 4 = .ok (.getstatic 42, 3) := by decide +kernel
theorem own_d5_7 : decode prog_127_method_7_code 7 = .ok (.if_acmp .ne 10, 3) := by decide +kernel
theorem own_d5_17 : decode prog_127_method_7_code 17 = .ok (.aload_n 0, 1) := by decide +kernel
theorem own_d5_18 : decode prog_127_method_7_code 18 = .ok (.getfield 7, 3) := by decide +kernel
theorem own_d5_21 : decode prog_127_method_7_code 21 = .ok (.getstatic 47, 3) := by decide +kernel
theorem own_d5_24 : decode prog_127_method_7_code 24 = .ok (.if_acmp .ne 10, 3) := by decide +kernel
theorem own_d5_27 : decode prog_127_method_7_code 27 = .ok (.getstatic 146, 3) := by decide +kernel
theorem own_d5_30 : decode prog_127_method_7_code 30 = .ok (.astore_n 1, 1) := by decide +kernel
theorem own_d5_31 : decode prog_127_method_7_code 31 = .ok (.goto 48, 3) := by decide +kernel
theorem own_d5_79 : decode prog_127_method_7_code 79 = .ok (.aload_n 1, 1) := by decide +kernel
theorem own_d5_80 : decode prog_127_method_7_code 80 = .ok (.areturn, 1) := by decide +kernel
set_option maxRecDepth 65536 in
set_option maxHeartbeats 40000000 in
theorem own_not_a_FALSE (l : Launch) (Z : State) (a0 : Array Value) (hw : ∀ d ∈ tables_1, d.before a0 Z = true) (h0 : Heap) {a_FALSE a_TRUE a_Kind_FALSE a_Kind_TRUE : Addr} (H : own_Facts Z h0 a_FALSE a_TRUE a_Kind_FALSE a_Kind_TRUE) :
    own_Pur l Z (⟨"com/example/relational_model_translator/relationalmodeltranslator/writer/Ltl", "not", "(Lcom/example/relational_model_translator/relationalmodeltranslator/writer/Ltl;)Lcom/example/relational_model_translator/relationalmodeltranslator/writer/Ltl;"⟩ : MethodName) prog_127_method_7_code 2 (some (.object "com/example/relational_model_translator/relationalmodeltranslator/writer/Ltl")) 0 0 #[(.ref a_FALSE)] (some (.ref a_TRUE)) h0 := by
  have H0 := H
  obtain ⟨S_FALSE, X_FALSE, S_TRUE, X_TRUE, S_Kind_FALSE, X_Kind_FALSE, S_Kind_TRUE, X_Kind_TRUE, F_FALSE_kind, F_Kind_FALSE_ordinal, F_Kind_TRUE_ordinal, D_FALSE_TRUE, F_FALSE_hash, F_TRUE_hash, F_TRUE_kind, F_FALSE_length, F_TRUE_length, D_Kind_FALSE_Kind_TRUE⟩ := H0
  refine own_body own_pn0 ?_
  intro p e s m below meth c T0 X0 e0 hx hby hml hown hret hZ
  have hown : s.vm.findClass "com/example/relational_model_translator/relationalmodeltranslator/writer/Ltl" = some m.cls := hown
  rw [own_ef_d5 m a_FALSE]
  refine own_Fin.back (S' := T0.setTop (mkF m 1 #[.val (.ref a_FALSE), .unset] [(.ref a_FALSE)])) (fun t k => XS.aloadN X0.here hx rfl (hb hby own_d5_0) rfl rfl k) ?_
  obtain ⟨T23, X23, e23, k23⟩ := getF X0 hx hZ hown (host := "") (Or.inl (hw _ (List.mem_of_getElem? (i := 13) rfl))) Via.refl e0 F_FALSE_kind (g := (mkF m 1 #[.val (.ref a_FALSE), .unset] [(.ref a_FALSE)])) rfl rfl (hb hby own_d5_1)
  refine own_Fin.back (S' := T23.setTop (mkF m 4 #[.val (.ref a_FALSE), .unset] [(.ref a_Kind_FALSE)])) k23 ?_
  obtain ⟨T24, X24, e24, k24⟩ := getS X23 hx hZ hown (host := "") (hw _ (List.mem_of_getElem? (i := 17) rfl)) Via.refl e23 S_Kind_TRUE (g := (mkF m 4 #[.val (.ref a_FALSE), .unset] [(.ref a_Kind_FALSE)])) rfl (hb hby own_d5_4)
  refine own_Fin.back (S' := T24.setTop (mkF m 7 #[.val (.ref a_FALSE), .unset] [(.ref a_Kind_TRUE), (.ref a_Kind_FALSE)])) k24 ?_
  refine own_Fin.back (S' := T24.setTop (mkF m 17 #[.val (.ref a_FALSE), .unset] [])) (fun t k => XT.acmpYes X24.here hx rfl (pc0 := 7) (pc' := 17) rfl (hb hby own_d5_7) rfl rfl rfl (own_acmp_diff D_Kind_FALSE_Kind_TRUE).2 (by decide) (by decide) k) ?_
  refine own_Fin.back (S' := T24.setTop (mkF m 18 #[.val (.ref a_FALSE), .unset] [(.ref a_FALSE)])) (fun t k => XS.aloadN X24.here hx rfl (hb hby own_d5_17) rfl rfl k) ?_
  obtain ⟨T25, X25, e25, k25⟩ := getF X24 hx hZ hown (host := "") (Or.inl (hw _ (List.mem_of_getElem? (i := 13) rfl))) Via.refl e24 F_FALSE_kind (g := (mkF m 18 #[.val (.ref a_FALSE), .unset] [(.ref a_FALSE)])) rfl rfl (hb hby own_d5_18)
  refine own_Fin.back (S' := T25.setTop (mkF m 21 #[.val (.ref a_FALSE), .unset] [(.ref a_Kind_FALSE)])) k25 ?_
  obtain ⟨T26, X26, e26, k26⟩ := getS X25 hx hZ hown (host := "") (hw _ (List.mem_of_getElem? (i := 19) rfl)) Via.refl e25 S_Kind_FALSE (g := (mkF m 21 #[.val (.ref a_FALSE), .unset] [(.ref a_Kind_FALSE)])) rfl (hb hby own_d5_21)
  refine own_Fin.back (S' := T26.setTop (mkF m 24 #[.val (.ref a_FALSE), .unset] [(.ref a_Kind_FALSE), (.ref a_Kind_FALSE)])) k26 ?_
  refine own_Fin.back (S' := T26.setTop (mkF m 27 #[.val (.ref a_FALSE), .unset] [])) (fun t k => XT.acmpNo X26.here hx rfl (hb hby own_d5_24) rfl rfl rfl own_acmp_same.2 k) ?_
  obtain ⟨T27, X27, e27, k27⟩ := getS X26 hx hZ hown (host := "") (hw _ (List.mem_of_getElem? (i := 6) rfl)) Via.refl e26 S_TRUE (g := (mkF m 27 #[.val (.ref a_FALSE), .unset] [])) rfl (hb hby own_d5_27)
  refine own_Fin.back (S' := T27.setTop (mkF m 30 #[.val (.ref a_FALSE), .unset] [(.ref a_TRUE)])) k27 ?_
  refine own_Fin.back (S' := T27.setTop (mkF m 31 #[.val (.ref a_FALSE), .val (.ref a_TRUE)] [])) (fun t k => XS.astoreN X27.here hx rfl (hb hby own_d5_30) rfl rfl (l' := #[.val (.ref a_FALSE), .val (.ref a_TRUE)]) rfl k) ?_
  refine own_Fin.back (S' := T27.setTop (mkF m 79 #[.val (.ref a_FALSE), .val (.ref a_TRUE)] [])) (fun t k => XS.goto X27.here hx rfl (pc0 := 31) (pc' := 79) rfl (hb hby own_d5_31) (by decide) (by decide) k) ?_
  refine own_Fin.back (S' := T27.setTop (mkF m 80 #[.val (.ref a_FALSE), .val (.ref a_TRUE)] [(.ref a_TRUE)])) (fun t k => XS.aloadN X27.here hx rfl (hb hby own_d5_79) rfl rfl k) ?_
  exact ⟨T27, X27, e27, fun fs hr => retOut X27 hx (w := (.ref a_TRUE)) (t := (.object "com/example/relational_model_translator/relationalmodeltranslator/writer/Ltl")) hret rfl (Or.inr (Or.inr (Or.inr (Or.inr ⟨rfl, rfl, rfl⟩)))) (hb hby own_d5_80) hr⟩
theorem own_d5_10 : decode prog_127_method_7_code 10 = .ok (.getstatic 149, 3) := by decide +kernel
theorem own_d5_13 : decode prog_127_method_7_code 13 = .ok (.astore_n 1, 1) := by decide +kernel
theorem own_d5_14 : decode prog_127_method_7_code 14 = .ok (.goto 65, 3) := by decide +kernel
set_option maxRecDepth 65536 in
set_option maxHeartbeats 40000000 in
theorem own_not_a_TRUE (l : Launch) (Z : State) (a0 : Array Value) (hw : ∀ d ∈ tables_1, d.before a0 Z = true) (h0 : Heap) {a_FALSE a_TRUE a_Kind_FALSE a_Kind_TRUE : Addr} (H : own_Facts Z h0 a_FALSE a_TRUE a_Kind_FALSE a_Kind_TRUE) :
    own_Pur l Z (⟨"com/example/relational_model_translator/relationalmodeltranslator/writer/Ltl", "not", "(Lcom/example/relational_model_translator/relationalmodeltranslator/writer/Ltl;)Lcom/example/relational_model_translator/relationalmodeltranslator/writer/Ltl;"⟩ : MethodName) prog_127_method_7_code 2 (some (.object "com/example/relational_model_translator/relationalmodeltranslator/writer/Ltl")) 0 0 #[(.ref a_TRUE)] (some (.ref a_FALSE)) h0 := by
  have H0 := H
  obtain ⟨S_FALSE, X_FALSE, S_TRUE, X_TRUE, S_Kind_FALSE, X_Kind_FALSE, S_Kind_TRUE, X_Kind_TRUE, F_FALSE_kind, F_Kind_FALSE_ordinal, F_Kind_TRUE_ordinal, D_FALSE_TRUE, F_FALSE_hash, F_TRUE_hash, F_TRUE_kind, F_FALSE_length, F_TRUE_length, D_Kind_FALSE_Kind_TRUE⟩ := H0
  refine own_body own_pn0 ?_
  intro p e s m below meth c T0 X0 e0 hx hby hml hown hret hZ
  have hown : s.vm.findClass "com/example/relational_model_translator/relationalmodeltranslator/writer/Ltl" = some m.cls := hown
  rw [own_ef_d5 m a_TRUE]
  refine own_Fin.back (S' := T0.setTop (mkF m 1 #[.val (.ref a_TRUE), .unset] [(.ref a_TRUE)])) (fun t k => XS.aloadN X0.here hx rfl (hb hby own_d5_0) rfl rfl k) ?_
  obtain ⟨T28, X28, e28, k28⟩ := getF X0 hx hZ hown (host := "") (Or.inl (hw _ (List.mem_of_getElem? (i := 13) rfl))) Via.refl e0 F_TRUE_kind (g := (mkF m 1 #[.val (.ref a_TRUE), .unset] [(.ref a_TRUE)])) rfl rfl (hb hby own_d5_1)
  refine own_Fin.back (S' := T28.setTop (mkF m 4 #[.val (.ref a_TRUE), .unset] [(.ref a_Kind_TRUE)])) k28 ?_
  obtain ⟨T29, X29, e29, k29⟩ := getS X28 hx hZ hown (host := "") (hw _ (List.mem_of_getElem? (i := 17) rfl)) Via.refl e28 S_Kind_TRUE (g := (mkF m 4 #[.val (.ref a_TRUE), .unset] [(.ref a_Kind_TRUE)])) rfl (hb hby own_d5_4)
  refine own_Fin.back (S' := T29.setTop (mkF m 7 #[.val (.ref a_TRUE), .unset] [(.ref a_Kind_TRUE), (.ref a_Kind_TRUE)])) k29 ?_
  refine own_Fin.back (S' := T29.setTop (mkF m 10 #[.val (.ref a_TRUE), .unset] [])) (fun t k => XT.acmpNo X29.here hx rfl (hb hby own_d5_7) rfl rfl rfl own_acmp_same.2 k) ?_
  obtain ⟨T30, X30, e30, k30⟩ := getS X29 hx hZ hown (host := "") (hw _ (List.mem_of_getElem? (i := 4) rfl)) Via.refl e29 S_FALSE (g := (mkF m 10 #[.val (.ref a_TRUE), .unset] [])) rfl (hb hby own_d5_10)
  refine own_Fin.back (S' := T30.setTop (mkF m 13 #[.val (.ref a_TRUE), .unset] [(.ref a_FALSE)])) k30 ?_
  refine own_Fin.back (S' := T30.setTop (mkF m 14 #[.val (.ref a_TRUE), .val (.ref a_FALSE)] [])) (fun t k => XS.astoreN X30.here hx rfl (hb hby own_d5_13) rfl rfl (l' := #[.val (.ref a_TRUE), .val (.ref a_FALSE)]) rfl k) ?_
  refine own_Fin.back (S' := T30.setTop (mkF m 79 #[.val (.ref a_TRUE), .val (.ref a_FALSE)] [])) (fun t k => XS.goto X30.here hx rfl (pc0 := 14) (pc' := 79) rfl (hb hby own_d5_14) (by decide) (by decide) k) ?_
  refine own_Fin.back (S' := T30.setTop (mkF m 80 #[.val (.ref a_TRUE), .val (.ref a_FALSE)] [(.ref a_FALSE)])) (fun t k => XS.aloadN X30.here hx rfl (hb hby own_d5_79) rfl rfl k) ?_
  exact ⟨T30, X30, e30, fun fs hr => retOut X30 hx (w := (.ref a_FALSE)) (t := (.object "com/example/relational_model_translator/relationalmodeltranslator/writer/Ltl")) hret rfl (Or.inr (Or.inr (Or.inr (Or.inr ⟨rfl, rfl, rfl⟩)))) (hb hby own_d5_80) hr⟩
theorem own_pn1 : plainName "com/example/relational_model_translator/relationalmodeltranslator/writer/LtlOfPinLaw" = true := by first | (simp [plainName, overriddenIn]; done) | decide +kernel
theorem own_ef_law (m : MethodId) (x0 : Int32) : entryFrame m #[(.int x0)] maxLocals = mkF m 0 #[.val (.int x0), .unset, .unset, .unset, .unset, .unset, .unset, .unset, .unset] [] := by first | (simp [entryFrame, mkF, argsToLocals, Value.category, maxLocals]; done) | rfl
set_option maxRecDepth 65536 in
set_option maxHeartbeats 40000000 in
theorem own_law_0 (l : Launch) (Z : State) (a0 : Array Value) (hw : ∀ d ∈ tables_1, d.before a0 Z = true) (h0 : Heap) {a_FALSE a_TRUE a_Kind_FALSE a_Kind_TRUE : Addr} (H : own_Facts Z h0 a_FALSE a_TRUE a_Kind_FALSE a_Kind_TRUE) (p0 : Int32) (z0 : p0 &&& (1 : Int32) = 0) :
    own_Pur l Z x code maxLocals (some .boolean) 4 112 #[(.int p0)] (some (.int (1 : Int32))) h0 := by
  have H0 := H
  obtain ⟨S_FALSE, X_FALSE, S_TRUE, X_TRUE, S_Kind_FALSE, X_Kind_FALSE, S_Kind_TRUE, X_Kind_TRUE, F_FALSE_kind, F_Kind_FALSE_ordinal, F_Kind_TRUE_ordinal, D_FALSE_TRUE, F_FALSE_hash, F_TRUE_hash, F_TRUE_kind, F_FALSE_length, F_TRUE_length, D_Kind_FALSE_Kind_TRUE⟩ := H0
  refine own_body own_pn1 ?_
  intro p e s m below meth c T0 X0 e0 hx hby hml hown hret hZ
  have hown : s.vm.findClass "com/example/relational_model_translator/relationalmodeltranslator/writer/LtlOfPinLaw" = some m.cls := hown
  rw [own_ef_law m p0]
  refine own_Fin.back (S' := T0.setTop (mkF m 1 #[.val (.int p0), .unset, .unset, .unset, .unset, .unset, .unset, .unset, .unset] [(.int p0)])) (fun t k => XS.iloadN X0.here hx rfl (hb hby at_0) rfl k) ?_
  refine own_Fin.back (S' := T0.setTop (mkF m 2 #[.val (.int p0), .unset, .unset, .unset, .unset, .unset, .unset, .unset, .unset] [(.int (1 : Int32)), (.int p0)])) (fun t k => XS.iconst X0.here hx rfl (hb hby at_1) k) ?_
  refine own_Fin.back (S' := T0.setTop (mkF m 3 #[.val (.int p0), .unset, .unset, .unset, .unset, .unset, .unset, .unset, .unset] [(.int (p0 &&& (1 : Int32)))])) (fun t k => XS.iand X0.here hx rfl (hb hby at_2) rfl k) ?_
  refine own_Fin.back (S' := T0.setTop (mkF m 10 #[.val (.int p0), .unset, .unset, .unset, .unset, .unset, .unset, .unset, .unset] [])) (fun t k => XS.ifYes X0.here hx rfl (pc0 := 3) (pc' := 10) rfl (hb hby at_3) rfl (by rw [z0]; first | done | decide) (by decide) (by decide) k) ?_
  refine own_Fin.back (S' := T0.setTop (mkF m 11 #[.val (.int p0), .unset, .unset, .unset, .unset, .unset, .unset, .unset, .unset] [(.int (0 : Int32))])) (fun t k => XS.iconst X0.here hx rfl (hb hby at_10) k) ?_
  refine own_Fin.back (S' := T0.setTop (mkF m 12 #[.val (.int p0), .val (.int (0 : Int32)), .unset, .unset, .unset, .unset, .unset, .unset, .unset] [])) (fun t k => XS.istoreN X0.here hx rfl (hb hby at_11) rfl (l' := #[.val (.int p0), .val (.int (0 : Int32)), .unset, .unset, .unset, .unset, .unset, .unset, .unset]) rfl k) ?_
  refine own_Fin.back (S' := T0.setTop (mkF m 13 #[.val (.int p0), .val (.int (0 : Int32)), .unset, .unset, .unset, .unset, .unset, .unset, .unset] [(.int (0 : Int32))])) (fun t k => XS.iloadN X0.here hx rfl (hb hby at_12) rfl k) ?_
  obtain ⟨T31, X31, e31, k31⟩ := own_callS X0 hx hZ (y := (⟨"com/example/relational_model_translator/relationalmodeltranslator/writer/Ltl", "of", "(Z)Lcom/example/relational_model_translator/relationalmodeltranslator/writer/Ltl;"⟩ : MethodName)) (W := 0) hown (hw _ (List.mem_of_getElem? (i := 0) rfl)) (hw _ (List.mem_of_getElem? (i := 1) rfl)) (hw _ (List.mem_of_getElem? (i := 2) rfl)) (hw _ (List.mem_of_getElem? (i := 3) rfl)) (by decide) (own_of0 l Z a0 hw h0 H) e0 (by decide) (by decide) (g := (mkF m 13 #[.val (.int p0), .val (.int (0 : Int32)), .unset, .unset, .unset, .unset, .unset, .unset, .unset] [(.int (0 : Int32))])) rfl (by rw [hml]; rfl) (argsL := [(.int (0 : Int32))]) (rest := []) (lenOf (show parseMethodDescriptor "(Z)Lcom/example/relational_model_translator/relationalmodeltranslator/writer/Ltl;" = some ⟨[.boolean], some (.object "com/example/relational_model_translator/relationalmodeltranslator/writer/Ltl")⟩ by decide +kernel) rfl) rfl (by show 2 * 0 + _ ≤ _; exact Nat.le_of_eq rfl) (hb hby at_13)
  refine own_Fin.back (S' := T31.setTop (mkF m 16 #[.val (.int p0), .val (.int (0 : Int32)), .unset, .unset, .unset, .unset, .unset, .unset, .unset] [(.ref a_FALSE)])) k31 ?_
  refine own_Fin.back (S' := T31.setTop (mkF m 17 #[.val (.int p0), .val (.int (0 : Int32)), .val (.ref a_FALSE), .unset, .unset, .unset, .unset, .unset, .unset] [])) (fun t k => XS.astoreN X31.here hx rfl (hb hby at_16) rfl rfl (l' := #[.val (.int p0), .val (.int (0 : Int32)), .val (.ref a_FALSE), .unset, .unset, .unset, .unset, .unset, .unset]) rfl k) ?_
  refine own_Fin.back (S' := T31.setTop (mkF m 18 #[.val (.int p0), .val (.int (0 : Int32)), .val (.ref a_FALSE), .unset, .unset, .unset, .unset, .unset, .unset] [(.int (0 : Int32))])) (fun t k => XS.iloadN X31.here hx rfl (hb hby at_17) rfl k) ?_
  refine own_Fin.back (S' := T31.setTop (mkF m 21 #[.val (.int p0), .val (.int (0 : Int32)), .val (.ref a_FALSE), .unset, .unset, .unset, .unset, .unset, .unset] [])) (fun t k => XS.ifNo X31.here hx rfl (hb hby at_18) rfl (by decide) k) ?_
  refine own_Fin.back (S' := T31.setTop (mkF m 22 #[.val (.int p0), .val (.int (0 : Int32)), .val (.ref a_FALSE), .unset, .unset, .unset, .unset, .unset, .unset] [(.int (1 : Int32))])) (fun t k => XS.iconst X31.here hx rfl (hb hby at_21) k) ?_
  refine own_Fin.back (S' := T31.setTop (mkF m 26 #[.val (.int p0), .val (.int (0 : Int32)), .val (.ref a_FALSE), .unset, .unset, .unset, .unset, .unset, .unset] [(.int (1 : Int32))])) (fun t k => XS.goto X31.here hx rfl (pc0 := 22) (pc' := 26) rfl (hb hby at_22) (by decide) (by decide) k) ?_
  obtain ⟨T32, X32, e32, k32⟩ := own_callS X31 hx hZ (y := (⟨"com/example/relational_model_translator/relationalmodeltranslator/writer/Ltl", "of", "(Z)Lcom/example/relational_model_translator/relationalmodeltranslator/writer/Ltl;"⟩ : MethodName)) (W := 0) hown (hw _ (List.mem_of_getElem? (i := 0) rfl)) (hw _ (List.mem_of_getElem? (i := 1) rfl)) (hw _ (List.mem_of_getElem? (i := 2) rfl)) (hw _ (List.mem_of_getElem? (i := 3) rfl)) (by decide) (own_of1 l Z a0 hw h0 H) e31 (by decide) (by decide) (g := (mkF m 26 #[.val (.int p0), .val (.int (0 : Int32)), .val (.ref a_FALSE), .unset, .unset, .unset, .unset, .unset, .unset] [(.int (1 : Int32))])) rfl (by rw [hml]; rfl) (argsL := [(.int (1 : Int32))]) (rest := []) (lenOf (show parseMethodDescriptor "(Z)Lcom/example/relational_model_translator/relationalmodeltranslator/writer/Ltl;" = some ⟨[.boolean], some (.object "com/example/relational_model_translator/relationalmodeltranslator/writer/Ltl")⟩ by decide +kernel) rfl) rfl (by show 2 * 0 + _ ≤ _; exact Nat.le_of_eq rfl) (hb hby at_26)
  refine own_Fin.back (S' := T32.setTop (mkF m 29 #[.val (.int p0), .val (.int (0 : Int32)), .val (.ref a_FALSE), .unset, .unset, .unset, .unset, .unset, .unset] [(.ref a_TRUE)])) k32 ?_
  refine own_Fin.back (S' := T32.setTop (mkF m 30 #[.val (.int p0), .val (.int (0 : Int32)), .val (.ref a_FALSE), .val (.ref a_TRUE), .unset, .unset, .unset, .unset, .unset] [])) (fun t k => XS.astoreN X32.here hx rfl (hb hby at_29) rfl rfl (l' := #[.val (.int p0), .val (.int (0 : Int32)), .val (.ref a_FALSE), .val (.ref a_TRUE), .unset, .unset, .unset, .unset, .unset]) rfl k) ?_
  refine own_Fin.back (S' := T32.setTop (mkF m 31 #[.val (.int p0), .val (.int (0 : Int32)), .val (.ref a_FALSE), .val (.ref a_TRUE), .unset, .unset, .unset, .unset, .unset] [(.ref a_FALSE)])) (fun t k => XS.aloadN X32.here hx rfl (hb hby at_30) rfl rfl k) ?_
  obtain ⟨T33, X33, e33, k33⟩ := own_callV X32 hx hZ (C := "com/example/relational_model_translator/relationalmodeltranslator/writer/Ltl") (y := (⟨"com/example/relational_model_translator/relationalmodeltranslator/writer/Ltl", "isConstant", "()Z"⟩ : MethodName)) (W := 0) hown (hw _ (List.mem_of_getElem? (i := 8) rfl)) (hw _ (List.mem_of_getElem? (i := 9) rfl)) (hw _ (List.mem_of_getElem? (i := 11) rfl)) (hw _ (List.mem_of_getElem? (i := 10) rfl)) (hw _ (List.mem_of_getElem? (i := 12) rfl)) (hw _ (List.mem_of_getElem? (i := 2) rfl)) (by decide) (own_cst_a_FALSE l Z a0 hw h0 H) e32 X_FALSE (by decide) (by decide) (g := (mkF m 31 #[.val (.int p0), .val (.int (0 : Int32)), .val (.ref a_FALSE), .val (.ref a_TRUE), .unset, .unset, .unset, .unset, .unset] [(.ref a_FALSE)])) rfl (by rw [hml]; rfl) (argsL := []) (rest := []) (lenOf (show parseMethodDescriptor "()Z" = some ⟨[], some .boolean⟩ by decide +kernel) rfl) rfl (by show 2 * 0 + _ ≤ _; exact Nat.le_of_eq rfl) (hb hby at_31)
  refine own_Fin.back (S' := T33.setTop (mkF m 34 #[.val (.int p0), .val (.int (0 : Int32)), .val (.ref a_FALSE), .val (.ref a_TRUE), .unset, .unset, .unset, .unset, .unset] [(.int (1 : Int32))])) k33 ?_
  refine own_Fin.back (S' := T33.setTop (mkF m 36 #[.val (.int p0), .val (.int (0 : Int32)), .val (.ref a_FALSE), .val (.ref a_TRUE), .val (.int (1 : Int32)), .unset, .unset, .unset, .unset] [])) (fun t k => XS.istore X33.here hx rfl (hb hby at_34) rfl (l' := #[.val (.int p0), .val (.int (0 : Int32)), .val (.ref a_FALSE), .val (.ref a_TRUE), .val (.int (1 : Int32)), .unset, .unset, .unset, .unset]) rfl k) ?_
  refine own_Fin.back (S' := T33.setTop (mkF m 37 #[.val (.int p0), .val (.int (0 : Int32)), .val (.ref a_FALSE), .val (.ref a_TRUE), .val (.int (1 : Int32)), .unset, .unset, .unset, .unset] [(.ref a_FALSE)])) (fun t k => XS.aloadN X33.here hx rfl (hb hby at_36) rfl rfl k) ?_
  obtain ⟨T34, X34, e34, k34⟩ := getS X33 hx hZ hown (host := "") (hw _ (List.mem_of_getElem? (i := 20) rfl)) Via.refl e33 S_TRUE (g := (mkF m 37 #[.val (.int p0), .val (.int (0 : Int32)), .val (.ref a_FALSE), .val (.ref a_TRUE), .val (.int (1 : Int32)), .unset, .unset, .unset, .unset] [(.ref a_FALSE)])) rfl (hb hby at_37)
  refine own_Fin.back (S' := T34.setTop (mkF m 40 #[.val (.int p0), .val (.int (0 : Int32)), .val (.ref a_FALSE), .val (.ref a_TRUE), .val (.int (1 : Int32)), .unset, .unset, .unset, .unset] [(.ref a_TRUE), (.ref a_FALSE)])) k34 ?_
  obtain ⟨T35, X35, e35, k35⟩ := own_callV X34 hx hZ (C := "com/example/relational_model_translator/relationalmodeltranslator/writer/Ltl") (y := (⟨"com/example/relational_model_translator/relationalmodeltranslator/writer/Ltl", "equals", "(Ljava/lang/Object;)Z"⟩ : MethodName)) (W := 0) hown (hw _ (List.mem_of_getElem? (i := 21) rfl)) (hw _ (List.mem_of_getElem? (i := 22) rfl)) (hw _ (List.mem_of_getElem? (i := 24) rfl)) (hw _ (List.mem_of_getElem? (i := 23) rfl)) (hw _ (List.mem_of_getElem? (i := 25) rfl)) (hw _ (List.mem_of_getElem? (i := 2) rfl)) (by decide) (own_eq_a_FALSE_a_TRUE l Z a0 hw h0 H) e34 X_FALSE (by decide) (by decide) (g := (mkF m 40 #[.val (.int p0), .val (.int (0 : Int32)), .val (.ref a_FALSE), .val (.ref a_TRUE), .val (.int (1 : Int32)), .unset, .unset, .unset, .unset] [(.ref a_TRUE), (.ref a_FALSE)])) rfl (by rw [hml]; rfl) (argsL := [(.ref a_TRUE)]) (rest := []) (lenOf (show parseMethodDescriptor "(Ljava/lang/Object;)Z" = some ⟨[(.object "java/lang/Object")], some .boolean⟩ by decide +kernel) rfl) rfl (by show 2 * 0 + _ ≤ _; exact Nat.le_of_eq rfl) (hb hby at_40)
  refine own_Fin.back (S' := T35.setTop (mkF m 43 #[.val (.int p0), .val (.int (0 : Int32)), .val (.ref a_FALSE), .val (.ref a_TRUE), .val (.int (1 : Int32)), .unset, .unset, .unset, .unset] [(.int (0 : Int32))])) k35 ?_
  refine own_Fin.back (S' := T35.setTop (mkF m 45 #[.val (.int p0), .val (.int (0 : Int32)), .val (.ref a_FALSE), .val (.ref a_TRUE), .val (.int (1 : Int32)), .val (.int (0 : Int32)), .unset, .unset, .unset] [])) (fun t k => XS.istore X35.here hx rfl (hb hby at_43) rfl (l' := #[.val (.int p0), .val (.int (0 : Int32)), .val (.ref a_FALSE), .val (.ref a_TRUE), .val (.int (1 : Int32)), .val (.int (0 : Int32)), .unset, .unset, .unset]) rfl k) ?_
  refine own_Fin.back (S' := T35.setTop (mkF m 46 #[.val (.int p0), .val (.int (0 : Int32)), .val (.ref a_FALSE), .val (.ref a_TRUE), .val (.int (1 : Int32)), .val (.int (0 : Int32)), .unset, .unset, .unset] [(.ref a_FALSE)])) (fun t k => XS.aloadN X35.here hx rfl (hb hby at_45) rfl rfl k) ?_
  obtain ⟨T36, X36, e36, k36⟩ := getS X35 hx hZ hown (host := "") (hw _ (List.mem_of_getElem? (i := 30) rfl)) Via.refl e35 S_FALSE (g := (mkF m 46 #[.val (.int p0), .val (.int (0 : Int32)), .val (.ref a_FALSE), .val (.ref a_TRUE), .val (.int (1 : Int32)), .val (.int (0 : Int32)), .unset, .unset, .unset] [(.ref a_FALSE)])) rfl (hb hby at_46)
  refine own_Fin.back (S' := T36.setTop (mkF m 49 #[.val (.int p0), .val (.int (0 : Int32)), .val (.ref a_FALSE), .val (.ref a_TRUE), .val (.int (1 : Int32)), .val (.int (0 : Int32)), .unset, .unset, .unset] [(.ref a_FALSE), (.ref a_FALSE)])) k36 ?_
  obtain ⟨T37, X37, e37, k37⟩ := own_callV X36 hx hZ (C := "com/example/relational_model_translator/relationalmodeltranslator/writer/Ltl") (y := (⟨"com/example/relational_model_translator/relationalmodeltranslator/writer/Ltl", "equals", "(Ljava/lang/Object;)Z"⟩ : MethodName)) (W := 0) hown (hw _ (List.mem_of_getElem? (i := 21) rfl)) (hw _ (List.mem_of_getElem? (i := 22) rfl)) (hw _ (List.mem_of_getElem? (i := 24) rfl)) (hw _ (List.mem_of_getElem? (i := 23) rfl)) (hw _ (List.mem_of_getElem? (i := 25) rfl)) (hw _ (List.mem_of_getElem? (i := 2) rfl)) (by decide) (own_eq_a_FALSE_a_FALSE l Z a0 hw h0 H) e36 X_FALSE (by decide) (by decide) (g := (mkF m 49 #[.val (.int p0), .val (.int (0 : Int32)), .val (.ref a_FALSE), .val (.ref a_TRUE), .val (.int (1 : Int32)), .val (.int (0 : Int32)), .unset, .unset, .unset] [(.ref a_FALSE), (.ref a_FALSE)])) rfl (by rw [hml]; rfl) (argsL := [(.ref a_FALSE)]) (rest := []) (lenOf (show parseMethodDescriptor "(Ljava/lang/Object;)Z" = some ⟨[(.object "java/lang/Object")], some .boolean⟩ by decide +kernel) rfl) rfl (by show 2 * 0 + _ ≤ _; exact Nat.le_of_eq rfl) (hb hby at_49)
  refine own_Fin.back (S' := T37.setTop (mkF m 52 #[.val (.int p0), .val (.int (0 : Int32)), .val (.ref a_FALSE), .val (.ref a_TRUE), .val (.int (1 : Int32)), .val (.int (0 : Int32)), .unset, .unset, .unset] [(.int (1 : Int32))])) k37 ?_
  refine own_Fin.back (S' := T37.setTop (mkF m 54 #[.val (.int p0), .val (.int (0 : Int32)), .val (.ref a_FALSE), .val (.ref a_TRUE), .val (.int (1 : Int32)), .val (.int (0 : Int32)), .val (.int (1 : Int32)), .unset, .unset] [])) (fun t k => XS.istore X37.here hx rfl (hb hby at_52) rfl (l' := #[.val (.int p0), .val (.int (0 : Int32)), .val (.ref a_FALSE), .val (.ref a_TRUE), .val (.int (1 : Int32)), .val (.int (0 : Int32)), .val (.int (1 : Int32)), .unset, .unset]) rfl k) ?_
  refine own_Fin.back (S' := T37.setTop (mkF m 55 #[.val (.int p0), .val (.int (0 : Int32)), .val (.ref a_FALSE), .val (.ref a_TRUE), .val (.int (1 : Int32)), .val (.int (0 : Int32)), .val (.int (1 : Int32)), .unset, .unset] [(.ref a_FALSE)])) (fun t k => XS.aloadN X37.here hx rfl (hb hby at_54) rfl rfl k) ?_
  obtain ⟨T38, X38, e38, k38⟩ := own_callV X37 hx hZ (C := "com/example/relational_model_translator/relationalmodeltranslator/writer/Ltl") (y := (⟨"com/example/relational_model_translator/relationalmodeltranslator/writer/Ltl", "length", "()J"⟩ : MethodName)) (W := 0) hown (hw _ (List.mem_of_getElem? (i := 31) rfl)) (hw _ (List.mem_of_getElem? (i := 32) rfl)) (hw _ (List.mem_of_getElem? (i := 34) rfl)) (hw _ (List.mem_of_getElem? (i := 33) rfl)) (hw _ (List.mem_of_getElem? (i := 35) rfl)) (hw _ (List.mem_of_getElem? (i := 2) rfl)) (by decide) (own_len_a_FALSE l Z a0 hw h0 H) e37 X_FALSE (by decide) (by decide) (g := (mkF m 55 #[.val (.int p0), .val (.int (0 : Int32)), .val (.ref a_FALSE), .val (.ref a_TRUE), .val (.int (1 : Int32)), .val (.int (0 : Int32)), .val (.int (1 : Int32)), .unset, .unset] [(.ref a_FALSE)])) rfl (by rw [hml]; rfl) (argsL := []) (rest := []) (lenOf (show parseMethodDescriptor "()J" = some ⟨[], some .long⟩ by decide +kernel) rfl) rfl (by show 2 * 0 + _ ≤ _; exact Nat.le_of_eq rfl) (hb hby at_55)
  refine own_Fin.back (S' := T38.setTop (mkF m 58 #[.val (.int p0), .val (.int (0 : Int32)), .val (.ref a_FALSE), .val (.ref a_TRUE), .val (.int (1 : Int32)), .val (.int (0 : Int32)), .val (.int (1 : Int32)), .unset, .unset] [(.long (5 : Int64))])) k38 ?_
  refine own_Fin.back (S' := T38.setTop (mkF m 59 #[.val (.int p0), .val (.int (0 : Int32)), .val (.ref a_FALSE), .val (.ref a_TRUE), .val (.int (1 : Int32)), .val (.int (0 : Int32)), .val (.int (1 : Int32)), .unset, .unset] [(.int (0 : Int32)), (.long (5 : Int64))])) (fun t k => XS.iloadN X38.here hx rfl (hb hby at_58) rfl k) ?_
  refine own_Fin.back (S' := T38.setTop (mkF m 68 #[.val (.int p0), .val (.int (0 : Int32)), .val (.ref a_FALSE), .val (.ref a_TRUE), .val (.int (1 : Int32)), .val (.int (0 : Int32)), .val (.int (1 : Int32)), .unset, .unset] [(.long (5 : Int64))])) (fun t k => XS.ifYes X38.here hx rfl (pc0 := 59) (pc' := 68) rfl (hb hby at_59) rfl (by decide) (by decide) (by decide) k) ?_
  refine own_Fin.back (S' := T38.setTop (mkF m 71 #[.val (.int p0), .val (.int (0 : Int32)), .val (.ref a_FALSE), .val (.ref a_TRUE), .val (.int (1 : Int32)), .val (.int (0 : Int32)), .val (.int (1 : Int32)), .unset, .unset] [(.long (5 : Int64)), (.long (5 : Int64))])) (fun t k => X38.ldc2J hx hown (mvT hZ (hw _ (List.mem_of_getElem? (i := 38) rfl))) rfl (hb hby at_68) k) ?_
  refine own_Fin.back (S' := T38.setTop (mkF m 72 #[.val (.int p0), .val (.int (0 : Int32)), .val (.ref a_FALSE), .val (.ref a_TRUE), .val (.int (1 : Int32)), .val (.int (0 : Int32)), .val (.int (1 : Int32)), .unset, .unset] [(.int (XT.cmpL (5 : Int64) (5 : Int64)))])) (fun t k => XT.lcmp X38.here hx rfl (hb hby at_71) rfl k) ?_
  refine own_Fin.back (S' := T38.setTop (mkF m 75 #[.val (.int p0), .val (.int (0 : Int32)), .val (.ref a_FALSE), .val (.ref a_TRUE), .val (.int (1 : Int32)), .val (.int (0 : Int32)), .val (.int (1 : Int32)), .unset, .unset] [])) (fun t k => XS.ifNo X38.here hx rfl (hb hby at_72) rfl (by decide) k) ?_
  refine own_Fin.back (S' := T38.setTop (mkF m 76 #[.val (.int p0), .val (.int (0 : Int32)), .val (.ref a_FALSE), .val (.ref a_TRUE), .val (.int (1 : Int32)), .val (.int (0 : Int32)), .val (.int (1 : Int32)), .unset, .unset] [(.int (1 : Int32))])) (fun t k => XS.iconst X38.here hx rfl (hb hby at_75) k) ?_
  refine own_Fin.back (S' := T38.setTop (mkF m 80 #[.val (.int p0), .val (.int (0 : Int32)), .val (.ref a_FALSE), .val (.ref a_TRUE), .val (.int (1 : Int32)), .val (.int (0 : Int32)), .val (.int (1 : Int32)), .unset, .unset] [(.int (1 : Int32))])) (fun t k => XS.goto X38.here hx rfl (pc0 := 76) (pc' := 80) rfl (hb hby at_76) (by decide) (by decide) k) ?_
  refine own_Fin.back (S' := T38.setTop (mkF m 82 #[.val (.int p0), .val (.int (0 : Int32)), .val (.ref a_FALSE), .val (.ref a_TRUE), .val (.int (1 : Int32)), .val (.int (0 : Int32)), .val (.int (1 : Int32)), .val (.int (1 : Int32)), .unset] [])) (fun t k => XS.istore X38.here hx rfl (hb hby at_80) rfl (l' := #[.val (.int p0), .val (.int (0 : Int32)), .val (.ref a_FALSE), .val (.ref a_TRUE), .val (.int (1 : Int32)), .val (.int (0 : Int32)), .val (.int (1 : Int32)), .val (.int (1 : Int32)), .unset]) rfl k) ?_
  refine own_Fin.back (S' := T38.setTop (mkF m 83 #[.val (.int p0), .val (.int (0 : Int32)), .val (.ref a_FALSE), .val (.ref a_TRUE), .val (.int (1 : Int32)), .val (.int (0 : Int32)), .val (.int (1 : Int32)), .val (.int (1 : Int32)), .unset] [(.ref a_FALSE)])) (fun t k => XS.aloadN X38.here hx rfl (hb hby at_82) rfl rfl k) ?_
  obtain ⟨T39, X39, e39, k39⟩ := own_callS X38 hx hZ (y := (⟨"com/example/relational_model_translator/relationalmodeltranslator/writer/Ltl", "not", "(Lcom/example/relational_model_translator/relationalmodeltranslator/writer/Ltl;)Lcom/example/relational_model_translator/relationalmodeltranslator/writer/Ltl;"⟩ : MethodName)) (W := 0) hown (hw _ (List.mem_of_getElem? (i := 39) rfl)) (hw _ (List.mem_of_getElem? (i := 40) rfl)) (hw _ (List.mem_of_getElem? (i := 2) rfl)) (hw _ (List.mem_of_getElem? (i := 41) rfl)) (by decide) (own_not_a_FALSE l Z a0 hw h0 H) e38 (by decide) (by decide) (g := (mkF m 83 #[.val (.int p0), .val (.int (0 : Int32)), .val (.ref a_FALSE), .val (.ref a_TRUE), .val (.int (1 : Int32)), .val (.int (0 : Int32)), .val (.int (1 : Int32)), .val (.int (1 : Int32)), .unset] [(.ref a_FALSE)])) rfl (by rw [hml]; rfl) (argsL := [(.ref a_FALSE)]) (rest := []) (lenOf (show parseMethodDescriptor "(Lcom/example/relational_model_translator/relationalmodeltranslator/writer/Ltl;)Lcom/example/relational_model_translator/relationalmodeltranslator/writer/Ltl;" = some ⟨[(.object "com/example/relational_model_translator/relationalmodeltranslator/writer/Ltl")], some (.object "com/example/relational_model_translator/relationalmodeltranslator/writer/Ltl")⟩ by decide +kernel) rfl) rfl (by show 2 * 0 + _ ≤ _; exact Nat.le_of_eq rfl) (hb hby at_83)
  refine own_Fin.back (S' := T39.setTop (mkF m 86 #[.val (.int p0), .val (.int (0 : Int32)), .val (.ref a_FALSE), .val (.ref a_TRUE), .val (.int (1 : Int32)), .val (.int (0 : Int32)), .val (.int (1 : Int32)), .val (.int (1 : Int32)), .unset] [(.ref a_TRUE)])) k39 ?_
  refine own_Fin.back (S' := T39.setTop (mkF m 87 #[.val (.int p0), .val (.int (0 : Int32)), .val (.ref a_FALSE), .val (.ref a_TRUE), .val (.int (1 : Int32)), .val (.int (0 : Int32)), .val (.int (1 : Int32)), .val (.int (1 : Int32)), .unset] [(.ref a_TRUE), (.ref a_TRUE)])) (fun t k => XS.aloadN X39.here hx rfl (hb hby at_86) rfl rfl k) ?_
  obtain ⟨T40, X40, e40, k40⟩ := own_callV X39 hx hZ (C := "com/example/relational_model_translator/relationalmodeltranslator/writer/Ltl") (y := (⟨"com/example/relational_model_translator/relationalmodeltranslator/writer/Ltl", "equals", "(Ljava/lang/Object;)Z"⟩ : MethodName)) (W := 0) hown (hw _ (List.mem_of_getElem? (i := 21) rfl)) (hw _ (List.mem_of_getElem? (i := 22) rfl)) (hw _ (List.mem_of_getElem? (i := 24) rfl)) (hw _ (List.mem_of_getElem? (i := 23) rfl)) (hw _ (List.mem_of_getElem? (i := 25) rfl)) (hw _ (List.mem_of_getElem? (i := 2) rfl)) (by decide) (own_eq_a_TRUE_a_TRUE l Z a0 hw h0 H) e39 X_TRUE (by decide) (by decide) (g := (mkF m 87 #[.val (.int p0), .val (.int (0 : Int32)), .val (.ref a_FALSE), .val (.ref a_TRUE), .val (.int (1 : Int32)), .val (.int (0 : Int32)), .val (.int (1 : Int32)), .val (.int (1 : Int32)), .unset] [(.ref a_TRUE), (.ref a_TRUE)])) rfl (by rw [hml]; rfl) (argsL := [(.ref a_TRUE)]) (rest := []) (lenOf (show parseMethodDescriptor "(Ljava/lang/Object;)Z" = some ⟨[(.object "java/lang/Object")], some .boolean⟩ by decide +kernel) rfl) rfl (by show 2 * 0 + _ ≤ _; exact Nat.le_of_eq rfl) (hb hby at_87)
  refine own_Fin.back (S' := T40.setTop (mkF m 90 #[.val (.int p0), .val (.int (0 : Int32)), .val (.ref a_FALSE), .val (.ref a_TRUE), .val (.int (1 : Int32)), .val (.int (0 : Int32)), .val (.int (1 : Int32)), .val (.int (1 : Int32)), .unset] [(.int (1 : Int32))])) k40 ?_
  refine own_Fin.back (S' := T40.setTop (mkF m 92 #[.val (.int p0), .val (.int (0 : Int32)), .val (.ref a_FALSE), .val (.ref a_TRUE), .val (.int (1 : Int32)), .val (.int (0 : Int32)), .val (.int (1 : Int32)), .val (.int (1 : Int32)), .val (.int (1 : Int32))] [])) (fun t k => XS.istore X40.here hx rfl (hb hby at_90) rfl (l' := #[.val (.int p0), .val (.int (0 : Int32)), .val (.ref a_FALSE), .val (.ref a_TRUE), .val (.int (1 : Int32)), .val (.int (0 : Int32)), .val (.int (1 : Int32)), .val (.int (1 : Int32)), .val (.int (1 : Int32))]) rfl k) ?_
  refine own_Fin.back (S' := T40.setTop (mkF m 94 #[.val (.int p0), .val (.int (0 : Int32)), .val (.ref a_FALSE), .val (.ref a_TRUE), .val (.int (1 : Int32)), .val (.int (0 : Int32)), .val (.int (1 : Int32)), .val (.int (1 : Int32)), .val (.int (1 : Int32))] [(.int (1 : Int32))])) (fun t k => XS.iload X40.here hx rfl (hb hby at_92) rfl k) ?_
  refine own_Fin.back (S' := T40.setTop (mkF m 97 #[.val (.int p0), .val (.int (0 : Int32)), .val (.ref a_FALSE), .val (.ref a_TRUE), .val (.int (1 : Int32)), .val (.int (0 : Int32)), .val (.int (1 : Int32)), .val (.int (1 : Int32)), .val (.int (1 : Int32))] [])) (fun t k => XS.ifNo X40.here hx rfl (hb hby at_94) rfl (by decide) k) ?_
  refine own_Fin.back (S' := T40.setTop (mkF m 99 #[.val (.int p0), .val (.int (0 : Int32)), .val (.ref a_FALSE), .val (.ref a_TRUE), .val (.int (1 : Int32)), .val (.int (0 : Int32)), .val (.int (1 : Int32)), .val (.int (1 : Int32)), .val (.int (1 : Int32))] [(.int (0 : Int32))])) (fun t k => XS.iload X40.here hx rfl (hb hby at_97) rfl k) ?_
  refine own_Fin.back (S' := T40.setTop (mkF m 100 #[.val (.int p0), .val (.int (0 : Int32)), .val (.ref a_FALSE), .val (.ref a_TRUE), .val (.int (1 : Int32)), .val (.int (0 : Int32)), .val (.int (1 : Int32)), .val (.int (1 : Int32)), .val (.int (1 : Int32))] [(.int (0 : Int32)), (.int (0 : Int32))])) (fun t k => XS.iloadN X40.here hx rfl (hb hby at_99) rfl k) ?_
  refine own_Fin.back (S' := T40.setTop (mkF m 103 #[.val (.int p0), .val (.int (0 : Int32)), .val (.ref a_FALSE), .val (.ref a_TRUE), .val (.int (1 : Int32)), .val (.int (0 : Int32)), .val (.int (1 : Int32)), .val (.int (1 : Int32)), .val (.int (1 : Int32))] [])) (fun t k => XS.icmpNo X40.here hx rfl (hb hby at_100) rfl (by decide) k) ?_
  refine own_Fin.back (S' := T40.setTop (mkF m 105 #[.val (.int p0), .val (.int (0 : Int32)), .val (.ref a_FALSE), .val (.ref a_TRUE), .val (.int (1 : Int32)), .val (.int (0 : Int32)), .val (.int (1 : Int32)), .val (.int (1 : Int32)), .val (.int (1 : Int32))] [(.int (1 : Int32))])) (fun t k => XS.iload X40.here hx rfl (hb hby at_103) rfl k) ?_
  refine own_Fin.back (S' := T40.setTop (mkF m 106 #[.val (.int p0), .val (.int (0 : Int32)), .val (.ref a_FALSE), .val (.ref a_TRUE), .val (.int (1 : Int32)), .val (.int (0 : Int32)), .val (.int (1 : Int32)), .val (.int (1 : Int32)), .val (.int (1 : Int32))] [(.int (0 : Int32)), (.int (1 : Int32))])) (fun t k => XS.iloadN X40.here hx rfl (hb hby at_105) rfl k) ?_
  refine own_Fin.back (S' := T40.setTop (mkF m 109 #[.val (.int p0), .val (.int (0 : Int32)), .val (.ref a_FALSE), .val (.ref a_TRUE), .val (.int (1 : Int32)), .val (.int (0 : Int32)), .val (.int (1 : Int32)), .val (.int (1 : Int32)), .val (.int (1 : Int32))] [(.int (1 : Int32))])) (fun t k => XS.ifNo X40.here hx rfl (hb hby at_106) rfl (by decide) k) ?_
  refine own_Fin.back (S' := T40.setTop (mkF m 110 #[.val (.int p0), .val (.int (0 : Int32)), .val (.ref a_FALSE), .val (.ref a_TRUE), .val (.int (1 : Int32)), .val (.int (0 : Int32)), .val (.int (1 : Int32)), .val (.int (1 : Int32)), .val (.int (1 : Int32))] [(.int (1 : Int32)), (.int (1 : Int32))])) (fun t k => XS.iconst X40.here hx rfl (hb hby at_109) k) ?_
  refine own_Fin.back (S' := T40.setTop (mkF m 114 #[.val (.int p0), .val (.int (0 : Int32)), .val (.ref a_FALSE), .val (.ref a_TRUE), .val (.int (1 : Int32)), .val (.int (0 : Int32)), .val (.int (1 : Int32)), .val (.int (1 : Int32)), .val (.int (1 : Int32))] [(.int (1 : Int32)), (.int (1 : Int32))])) (fun t k => XS.goto X40.here hx rfl (pc0 := 110) (pc' := 114) rfl (hb hby at_110) (by decide) (by decide) k) ?_
  refine own_Fin.back (S' := T40.setTop (mkF m 117 #[.val (.int p0), .val (.int (0 : Int32)), .val (.ref a_FALSE), .val (.ref a_TRUE), .val (.int (1 : Int32)), .val (.int (0 : Int32)), .val (.int (1 : Int32)), .val (.int (1 : Int32)), .val (.int (1 : Int32))] [])) (fun t k => XS.icmpNo X40.here hx rfl (hb hby at_114) rfl (by decide) k) ?_
  refine own_Fin.back (S' := T40.setTop (mkF m 119 #[.val (.int p0), .val (.int (0 : Int32)), .val (.ref a_FALSE), .val (.ref a_TRUE), .val (.int (1 : Int32)), .val (.int (0 : Int32)), .val (.int (1 : Int32)), .val (.int (1 : Int32)), .val (.int (1 : Int32))] [(.int (1 : Int32))])) (fun t k => XS.iload X40.here hx rfl (hb hby at_117) rfl k) ?_
  refine own_Fin.back (S' := T40.setTop (mkF m 122 #[.val (.int p0), .val (.int (0 : Int32)), .val (.ref a_FALSE), .val (.ref a_TRUE), .val (.int (1 : Int32)), .val (.int (0 : Int32)), .val (.int (1 : Int32)), .val (.int (1 : Int32)), .val (.int (1 : Int32))] [])) (fun t k => XS.ifNo X40.here hx rfl (hb hby at_119) rfl (by decide) k) ?_
  refine own_Fin.back (S' := T40.setTop (mkF m 124 #[.val (.int p0), .val (.int (0 : Int32)), .val (.ref a_FALSE), .val (.ref a_TRUE), .val (.int (1 : Int32)), .val (.int (0 : Int32)), .val (.int (1 : Int32)), .val (.int (1 : Int32)), .val (.int (1 : Int32))] [(.int (1 : Int32))])) (fun t k => XS.iload X40.here hx rfl (hb hby at_122) rfl k) ?_
  refine own_Fin.back (S' := T40.setTop (mkF m 127 #[.val (.int p0), .val (.int (0 : Int32)), .val (.ref a_FALSE), .val (.ref a_TRUE), .val (.int (1 : Int32)), .val (.int (0 : Int32)), .val (.int (1 : Int32)), .val (.int (1 : Int32)), .val (.int (1 : Int32))] [])) (fun t k => XS.ifNo X40.here hx rfl (hb hby at_124) rfl (by decide) k) ?_
  refine own_Fin.back (S' := T40.setTop (mkF m 128 #[.val (.int p0), .val (.int (0 : Int32)), .val (.ref a_FALSE), .val (.ref a_TRUE), .val (.int (1 : Int32)), .val (.int (0 : Int32)), .val (.int (1 : Int32)), .val (.int (1 : Int32)), .val (.int (1 : Int32))] [(.int (1 : Int32))])) (fun t k => XS.iconst X40.here hx rfl (hb hby at_127) k) ?_
  refine own_Fin.back (S' := T40.setTop (mkF m 132 #[.val (.int p0), .val (.int (0 : Int32)), .val (.ref a_FALSE), .val (.ref a_TRUE), .val (.int (1 : Int32)), .val (.int (0 : Int32)), .val (.int (1 : Int32)), .val (.int (1 : Int32)), .val (.int (1 : Int32))] [(.int (1 : Int32))])) (fun t k => XS.goto X40.here hx rfl (pc0 := 128) (pc' := 132) rfl (hb hby at_128) (by decide) (by decide) k) ?_
  exact ⟨T40, X40, e40, fun fs hr => retOut X40 hx (w := (.int (1 : Int32))) (t := .boolean) hret (by first | rfl | decide) (Or.inl ⟨rfl, Or.inr (Or.inl rfl), _, rfl⟩) (hb hby at_132) hr⟩
set_option maxRecDepth 65536 in
set_option maxHeartbeats 40000000 in
theorem own_law_1 (l : Launch) (Z : State) (a0 : Array Value) (hw : ∀ d ∈ tables_1, d.before a0 Z = true) (h0 : Heap) {a_FALSE a_TRUE a_Kind_FALSE a_Kind_TRUE : Addr} (H : own_Facts Z h0 a_FALSE a_TRUE a_Kind_FALSE a_Kind_TRUE) (p0 : Int32) (z0 : p0 &&& (1 : Int32) = 1) :
    own_Pur l Z x code maxLocals (some .boolean) 4 112 #[(.int p0)] (some (.int (1 : Int32))) h0 := by
  have H0 := H
  obtain ⟨S_FALSE, X_FALSE, S_TRUE, X_TRUE, S_Kind_FALSE, X_Kind_FALSE, S_Kind_TRUE, X_Kind_TRUE, F_FALSE_kind, F_Kind_FALSE_ordinal, F_Kind_TRUE_ordinal, D_FALSE_TRUE, F_FALSE_hash, F_TRUE_hash, F_TRUE_kind, F_FALSE_length, F_TRUE_length, D_Kind_FALSE_Kind_TRUE⟩ := H0
  refine own_body own_pn1 ?_
  intro p e s m below meth c T0 X0 e0 hx hby hml hown hret hZ
  have hown : s.vm.findClass "com/example/relational_model_translator/relationalmodeltranslator/writer/LtlOfPinLaw" = some m.cls := hown
  rw [own_ef_law m p0]
  refine own_Fin.back (S' := T0.setTop (mkF m 1 #[.val (.int p0), .unset, .unset, .unset, .unset, .unset, .unset, .unset, .unset] [(.int p0)])) (fun t k => XS.iloadN X0.here hx rfl (hb hby at_0) rfl k) ?_
  refine own_Fin.back (S' := T0.setTop (mkF m 2 #[.val (.int p0), .unset, .unset, .unset, .unset, .unset, .unset, .unset, .unset] [(.int (1 : Int32)), (.int p0)])) (fun t k => XS.iconst X0.here hx rfl (hb hby at_1) k) ?_
  refine own_Fin.back (S' := T0.setTop (mkF m 3 #[.val (.int p0), .unset, .unset, .unset, .unset, .unset, .unset, .unset, .unset] [(.int (p0 &&& (1 : Int32)))])) (fun t k => XS.iand X0.here hx rfl (hb hby at_2) rfl k) ?_
  refine own_Fin.back (S' := T0.setTop (mkF m 6 #[.val (.int p0), .unset, .unset, .unset, .unset, .unset, .unset, .unset, .unset] [])) (fun t k => XS.ifNo X0.here hx rfl (hb hby at_3) rfl (by rw [z0]; first | done | decide) k) ?_
  refine own_Fin.back (S' := T0.setTop (mkF m 7 #[.val (.int p0), .unset, .unset, .unset, .unset, .unset, .unset, .unset, .unset] [(.int (1 : Int32))])) (fun t k => XS.iconst X0.here hx rfl (hb hby at_6) k) ?_
  refine own_Fin.back (S' := T0.setTop (mkF m 11 #[.val (.int p0), .unset, .unset, .unset, .unset, .unset, .unset, .unset, .unset] [(.int (1 : Int32))])) (fun t k => XS.goto X0.here hx rfl (pc0 := 7) (pc' := 11) rfl (hb hby at_7) (by decide) (by decide) k) ?_
  refine own_Fin.back (S' := T0.setTop (mkF m 12 #[.val (.int p0), .val (.int (1 : Int32)), .unset, .unset, .unset, .unset, .unset, .unset, .unset] [])) (fun t k => XS.istoreN X0.here hx rfl (hb hby at_11) rfl (l' := #[.val (.int p0), .val (.int (1 : Int32)), .unset, .unset, .unset, .unset, .unset, .unset, .unset]) rfl k) ?_
  refine own_Fin.back (S' := T0.setTop (mkF m 13 #[.val (.int p0), .val (.int (1 : Int32)), .unset, .unset, .unset, .unset, .unset, .unset, .unset] [(.int (1 : Int32))])) (fun t k => XS.iloadN X0.here hx rfl (hb hby at_12) rfl k) ?_
  obtain ⟨T41, X41, e41, k41⟩ := own_callS X0 hx hZ (y := (⟨"com/example/relational_model_translator/relationalmodeltranslator/writer/Ltl", "of", "(Z)Lcom/example/relational_model_translator/relationalmodeltranslator/writer/Ltl;"⟩ : MethodName)) (W := 0) hown (hw _ (List.mem_of_getElem? (i := 0) rfl)) (hw _ (List.mem_of_getElem? (i := 1) rfl)) (hw _ (List.mem_of_getElem? (i := 2) rfl)) (hw _ (List.mem_of_getElem? (i := 3) rfl)) (by decide) (own_of1 l Z a0 hw h0 H) e0 (by decide) (by decide) (g := (mkF m 13 #[.val (.int p0), .val (.int (1 : Int32)), .unset, .unset, .unset, .unset, .unset, .unset, .unset] [(.int (1 : Int32))])) rfl (by rw [hml]; rfl) (argsL := [(.int (1 : Int32))]) (rest := []) (lenOf (show parseMethodDescriptor "(Z)Lcom/example/relational_model_translator/relationalmodeltranslator/writer/Ltl;" = some ⟨[.boolean], some (.object "com/example/relational_model_translator/relationalmodeltranslator/writer/Ltl")⟩ by decide +kernel) rfl) rfl (by show 2 * 0 + _ ≤ _; exact Nat.le_of_eq rfl) (hb hby at_13)
  refine own_Fin.back (S' := T41.setTop (mkF m 16 #[.val (.int p0), .val (.int (1 : Int32)), .unset, .unset, .unset, .unset, .unset, .unset, .unset] [(.ref a_TRUE)])) k41 ?_
  refine own_Fin.back (S' := T41.setTop (mkF m 17 #[.val (.int p0), .val (.int (1 : Int32)), .val (.ref a_TRUE), .unset, .unset, .unset, .unset, .unset, .unset] [])) (fun t k => XS.astoreN X41.here hx rfl (hb hby at_16) rfl rfl (l' := #[.val (.int p0), .val (.int (1 : Int32)), .val (.ref a_TRUE), .unset, .unset, .unset, .unset, .unset, .unset]) rfl k) ?_
  refine own_Fin.back (S' := T41.setTop (mkF m 18 #[.val (.int p0), .val (.int (1 : Int32)), .val (.ref a_TRUE), .unset, .unset, .unset, .unset, .unset, .unset] [(.int (1 : Int32))])) (fun t k => XS.iloadN X41.here hx rfl (hb hby at_17) rfl k) ?_
  refine own_Fin.back (S' := T41.setTop (mkF m 25 #[.val (.int p0), .val (.int (1 : Int32)), .val (.ref a_TRUE), .unset, .unset, .unset, .unset, .unset, .unset] [])) (fun t k => XS.ifYes X41.here hx rfl (pc0 := 18) (pc' := 25) rfl (hb hby at_18) rfl (by decide) (by decide) (by decide) k) ?_
  refine own_Fin.back (S' := T41.setTop (mkF m 26 #[.val (.int p0), .val (.int (1 : Int32)), .val (.ref a_TRUE), .unset, .unset, .unset, .unset, .unset, .unset] [(.int (0 : Int32))])) (fun t k => XS.iconst X41.here hx rfl (hb hby at_25) k) ?_
  obtain ⟨T42, X42, e42, k42⟩ := own_callS X41 hx hZ (y := (⟨"com/example/relational_model_translator/relationalmodeltranslator/writer/Ltl", "of", "(Z)Lcom/example/relational_model_translator/relationalmodeltranslator/writer/Ltl;"⟩ : MethodName)) (W := 0) hown (hw _ (List.mem_of_getElem? (i := 0) rfl)) (hw _ (List.mem_of_getElem? (i := 1) rfl)) (hw _ (List.mem_of_getElem? (i := 2) rfl)) (hw _ (List.mem_of_getElem? (i := 3) rfl)) (by decide) (own_of0 l Z a0 hw h0 H) e41 (by decide) (by decide) (g := (mkF m 26 #[.val (.int p0), .val (.int (1 : Int32)), .val (.ref a_TRUE), .unset, .unset, .unset, .unset, .unset, .unset] [(.int (0 : Int32))])) rfl (by rw [hml]; rfl) (argsL := [(.int (0 : Int32))]) (rest := []) (lenOf (show parseMethodDescriptor "(Z)Lcom/example/relational_model_translator/relationalmodeltranslator/writer/Ltl;" = some ⟨[.boolean], some (.object "com/example/relational_model_translator/relationalmodeltranslator/writer/Ltl")⟩ by decide +kernel) rfl) rfl (by show 2 * 0 + _ ≤ _; exact Nat.le_of_eq rfl) (hb hby at_26)
  refine own_Fin.back (S' := T42.setTop (mkF m 29 #[.val (.int p0), .val (.int (1 : Int32)), .val (.ref a_TRUE), .unset, .unset, .unset, .unset, .unset, .unset] [(.ref a_FALSE)])) k42 ?_
  refine own_Fin.back (S' := T42.setTop (mkF m 30 #[.val (.int p0), .val (.int (1 : Int32)), .val (.ref a_TRUE), .val (.ref a_FALSE), .unset, .unset, .unset, .unset, .unset] [])) (fun t k => XS.astoreN X42.here hx rfl (hb hby at_29) rfl rfl (l' := #[.val (.int p0), .val (.int (1 : Int32)), .val (.ref a_TRUE), .val (.ref a_FALSE), .unset, .unset, .unset, .unset, .unset]) rfl k) ?_
  refine own_Fin.back (S' := T42.setTop (mkF m 31 #[.val (.int p0), .val (.int (1 : Int32)), .val (.ref a_TRUE), .val (.ref a_FALSE), .unset, .unset, .unset, .unset, .unset] [(.ref a_TRUE)])) (fun t k => XS.aloadN X42.here hx rfl (hb hby at_30) rfl rfl k) ?_
  obtain ⟨T43, X43, e43, k43⟩ := own_callV X42 hx hZ (C := "com/example/relational_model_translator/relationalmodeltranslator/writer/Ltl") (y := (⟨"com/example/relational_model_translator/relationalmodeltranslator/writer/Ltl", "isConstant", "()Z"⟩ : MethodName)) (W := 0) hown (hw _ (List.mem_of_getElem? (i := 8) rfl)) (hw _ (List.mem_of_getElem? (i := 9) rfl)) (hw _ (List.mem_of_getElem? (i := 11) rfl)) (hw _ (List.mem_of_getElem? (i := 10) rfl)) (hw _ (List.mem_of_getElem? (i := 12) rfl)) (hw _ (List.mem_of_getElem? (i := 2) rfl)) (by decide) (own_cst_a_TRUE l Z a0 hw h0 H) e42 X_TRUE (by decide) (by decide) (g := (mkF m 31 #[.val (.int p0), .val (.int (1 : Int32)), .val (.ref a_TRUE), .val (.ref a_FALSE), .unset, .unset, .unset, .unset, .unset] [(.ref a_TRUE)])) rfl (by rw [hml]; rfl) (argsL := []) (rest := []) (lenOf (show parseMethodDescriptor "()Z" = some ⟨[], some .boolean⟩ by decide +kernel) rfl) rfl (by show 2 * 0 + _ ≤ _; exact Nat.le_of_eq rfl) (hb hby at_31)
  refine own_Fin.back (S' := T43.setTop (mkF m 34 #[.val (.int p0), .val (.int (1 : Int32)), .val (.ref a_TRUE), .val (.ref a_FALSE), .unset, .unset, .unset, .unset, .unset] [(.int (1 : Int32))])) k43 ?_
  refine own_Fin.back (S' := T43.setTop (mkF m 36 #[.val (.int p0), .val (.int (1 : Int32)), .val (.ref a_TRUE), .val (.ref a_FALSE), .val (.int (1 : Int32)), .unset, .unset, .unset, .unset] [])) (fun t k => XS.istore X43.here hx rfl (hb hby at_34) rfl (l' := #[.val (.int p0), .val (.int (1 : Int32)), .val (.ref a_TRUE), .val (.ref a_FALSE), .val (.int (1 : Int32)), .unset, .unset, .unset, .unset]) rfl k) ?_
  refine own_Fin.back (S' := T43.setTop (mkF m 37 #[.val (.int p0), .val (.int (1 : Int32)), .val (.ref a_TRUE), .val (.ref a_FALSE), .val (.int (1 : Int32)), .unset, .unset, .unset, .unset] [(.ref a_TRUE)])) (fun t k => XS.aloadN X43.here hx rfl (hb hby at_36) rfl rfl k) ?_
  obtain ⟨T44, X44, e44, k44⟩ := getS X43 hx hZ hown (host := "") (hw _ (List.mem_of_getElem? (i := 20) rfl)) Via.refl e43 S_TRUE (g := (mkF m 37 #[.val (.int p0), .val (.int (1 : Int32)), .val (.ref a_TRUE), .val (.ref a_FALSE), .val (.int (1 : Int32)), .unset, .unset, .unset, .unset] [(.ref a_TRUE)])) rfl (hb hby at_37)
  refine own_Fin.back (S' := T44.setTop (mkF m 40 #[.val (.int p0), .val (.int (1 : Int32)), .val (.ref a_TRUE), .val (.ref a_FALSE), .val (.int (1 : Int32)), .unset, .unset, .unset, .unset] [(.ref a_TRUE), (.ref a_TRUE)])) k44 ?_
  obtain ⟨T45, X45, e45, k45⟩ := own_callV X44 hx hZ (C := "com/example/relational_model_translator/relationalmodeltranslator/writer/Ltl") (y := (⟨"com/example/relational_model_translator/relationalmodeltranslator/writer/Ltl", "equals", "(Ljava/lang/Object;)Z"⟩ : MethodName)) (W := 0) hown (hw _ (List.mem_of_getElem? (i := 21) rfl)) (hw _ (List.mem_of_getElem? (i := 22) rfl)) (hw _ (List.mem_of_getElem? (i := 24) rfl)) (hw _ (List.mem_of_getElem? (i := 23) rfl)) (hw _ (List.mem_of_getElem? (i := 25) rfl)) (hw _ (List.mem_of_getElem? (i := 2) rfl)) (by decide) (own_eq_a_TRUE_a_TRUE l Z a0 hw h0 H) e44 X_TRUE (by decide) (by decide) (g := (mkF m 40 #[.val (.int p0), .val (.int (1 : Int32)), .val (.ref a_TRUE), .val (.ref a_FALSE), .val (.int (1 : Int32)), .unset, .unset, .unset, .unset] [(.ref a_TRUE), (.ref a_TRUE)])) rfl (by rw [hml]; rfl) (argsL := [(.ref a_TRUE)]) (rest := []) (lenOf (show parseMethodDescriptor "(Ljava/lang/Object;)Z" = some ⟨[(.object "java/lang/Object")], some .boolean⟩ by decide +kernel) rfl) rfl (by show 2 * 0 + _ ≤ _; exact Nat.le_of_eq rfl) (hb hby at_40)
  refine own_Fin.back (S' := T45.setTop (mkF m 43 #[.val (.int p0), .val (.int (1 : Int32)), .val (.ref a_TRUE), .val (.ref a_FALSE), .val (.int (1 : Int32)), .unset, .unset, .unset, .unset] [(.int (1 : Int32))])) k45 ?_
  refine own_Fin.back (S' := T45.setTop (mkF m 45 #[.val (.int p0), .val (.int (1 : Int32)), .val (.ref a_TRUE), .val (.ref a_FALSE), .val (.int (1 : Int32)), .val (.int (1 : Int32)), .unset, .unset, .unset] [])) (fun t k => XS.istore X45.here hx rfl (hb hby at_43) rfl (l' := #[.val (.int p0), .val (.int (1 : Int32)), .val (.ref a_TRUE), .val (.ref a_FALSE), .val (.int (1 : Int32)), .val (.int (1 : Int32)), .unset, .unset, .unset]) rfl k) ?_
  refine own_Fin.back (S' := T45.setTop (mkF m 46 #[.val (.int p0), .val (.int (1 : Int32)), .val (.ref a_TRUE), .val (.ref a_FALSE), .val (.int (1 : Int32)), .val (.int (1 : Int32)), .unset, .unset, .unset] [(.ref a_TRUE)])) (fun t k => XS.aloadN X45.here hx rfl (hb hby at_45) rfl rfl k) ?_
  obtain ⟨T46, X46, e46, k46⟩ := getS X45 hx hZ hown (host := "") (hw _ (List.mem_of_getElem? (i := 30) rfl)) Via.refl e45 S_FALSE (g := (mkF m 46 #[.val (.int p0), .val (.int (1 : Int32)), .val (.ref a_TRUE), .val (.ref a_FALSE), .val (.int (1 : Int32)), .val (.int (1 : Int32)), .unset, .unset, .unset] [(.ref a_TRUE)])) rfl (hb hby at_46)
  refine own_Fin.back (S' := T46.setTop (mkF m 49 #[.val (.int p0), .val (.int (1 : Int32)), .val (.ref a_TRUE), .val (.ref a_FALSE), .val (.int (1 : Int32)), .val (.int (1 : Int32)), .unset, .unset, .unset] [(.ref a_FALSE), (.ref a_TRUE)])) k46 ?_
  obtain ⟨T47, X47, e47, k47⟩ := own_callV X46 hx hZ (C := "com/example/relational_model_translator/relationalmodeltranslator/writer/Ltl") (y := (⟨"com/example/relational_model_translator/relationalmodeltranslator/writer/Ltl", "equals", "(Ljava/lang/Object;)Z"⟩ : MethodName)) (W := 0) hown (hw _ (List.mem_of_getElem? (i := 21) rfl)) (hw _ (List.mem_of_getElem? (i := 22) rfl)) (hw _ (List.mem_of_getElem? (i := 24) rfl)) (hw _ (List.mem_of_getElem? (i := 23) rfl)) (hw _ (List.mem_of_getElem? (i := 25) rfl)) (hw _ (List.mem_of_getElem? (i := 2) rfl)) (by decide) (own_eq_a_TRUE_a_FALSE l Z a0 hw h0 H) e46 X_TRUE (by decide) (by decide) (g := (mkF m 49 #[.val (.int p0), .val (.int (1 : Int32)), .val (.ref a_TRUE), .val (.ref a_FALSE), .val (.int (1 : Int32)), .val (.int (1 : Int32)), .unset, .unset, .unset] [(.ref a_FALSE), (.ref a_TRUE)])) rfl (by rw [hml]; rfl) (argsL := [(.ref a_FALSE)]) (rest := []) (lenOf (show parseMethodDescriptor "(Ljava/lang/Object;)Z" = some ⟨[(.object "java/lang/Object")], some .boolean⟩ by decide +kernel) rfl) rfl (by show 2 * 0 + _ ≤ _; exact Nat.le_of_eq rfl) (hb hby at_49)
  refine own_Fin.back (S' := T47.setTop (mkF m 52 #[.val (.int p0), .val (.int (1 : Int32)), .val (.ref a_TRUE), .val (.ref a_FALSE), .val (.int (1 : Int32)), .val (.int (1 : Int32)), .unset, .unset, .unset] [(.int (0 : Int32))])) k47 ?_
  refine own_Fin.back (S' := T47.setTop (mkF m 54 #[.val (.int p0), .val (.int (1 : Int32)), .val (.ref a_TRUE), .val (.ref a_FALSE), .val (.int (1 : Int32)), .val (.int (1 : Int32)), .val (.int (0 : Int32)), .unset, .unset] [])) (fun t k => XS.istore X47.here hx rfl (hb hby at_52) rfl (l' := #[.val (.int p0), .val (.int (1 : Int32)), .val (.ref a_TRUE), .val (.ref a_FALSE), .val (.int (1 : Int32)), .val (.int (1 : Int32)), .val (.int (0 : Int32)), .unset, .unset]) rfl k) ?_
  refine own_Fin.back (S' := T47.setTop (mkF m 55 #[.val (.int p0), .val (.int (1 : Int32)), .val (.ref a_TRUE), .val (.ref a_FALSE), .val (.int (1 : Int32)), .val (.int (1 : Int32)), .val (.int (0 : Int32)), .unset, .unset] [(.ref a_TRUE)])) (fun t k => XS.aloadN X47.here hx rfl (hb hby at_54) rfl rfl k) ?_
  obtain ⟨T48, X48, e48, k48⟩ := own_callV X47 hx hZ (C := "com/example/relational_model_translator/relationalmodeltranslator/writer/Ltl") (y := (⟨"com/example/relational_model_translator/relationalmodeltranslator/writer/Ltl", "length", "()J"⟩ : MethodName)) (W := 0) hown (hw _ (List.mem_of_getElem? (i := 31) rfl)) (hw _ (List.mem_of_getElem? (i := 32) rfl)) (hw _ (List.mem_of_getElem? (i := 34) rfl)) (hw _ (List.mem_of_getElem? (i := 33) rfl)) (hw _ (List.mem_of_getElem? (i := 35) rfl)) (hw _ (List.mem_of_getElem? (i := 2) rfl)) (by decide) (own_len_a_TRUE l Z a0 hw h0 H) e47 X_TRUE (by decide) (by decide) (g := (mkF m 55 #[.val (.int p0), .val (.int (1 : Int32)), .val (.ref a_TRUE), .val (.ref a_FALSE), .val (.int (1 : Int32)), .val (.int (1 : Int32)), .val (.int (0 : Int32)), .unset, .unset] [(.ref a_TRUE)])) rfl (by rw [hml]; rfl) (argsL := []) (rest := []) (lenOf (show parseMethodDescriptor "()J" = some ⟨[], some .long⟩ by decide +kernel) rfl) rfl (by show 2 * 0 + _ ≤ _; exact Nat.le_of_eq rfl) (hb hby at_55)
  refine own_Fin.back (S' := T48.setTop (mkF m 58 #[.val (.int p0), .val (.int (1 : Int32)), .val (.ref a_TRUE), .val (.ref a_FALSE), .val (.int (1 : Int32)), .val (.int (1 : Int32)), .val (.int (0 : Int32)), .unset, .unset] [(.long (4 : Int64))])) k48 ?_
  refine own_Fin.back (S' := T48.setTop (mkF m 59 #[.val (.int p0), .val (.int (1 : Int32)), .val (.ref a_TRUE), .val (.ref a_FALSE), .val (.int (1 : Int32)), .val (.int (1 : Int32)), .val (.int (0 : Int32)), .unset, .unset] [(.int (1 : Int32)), (.long (4 : Int64))])) (fun t k => XS.iloadN X48.here hx rfl (hb hby at_58) rfl k) ?_
  refine own_Fin.back (S' := T48.setTop (mkF m 62 #[.val (.int p0), .val (.int (1 : Int32)), .val (.ref a_TRUE), .val (.ref a_FALSE), .val (.int (1 : Int32)), .val (.int (1 : Int32)), .val (.int (0 : Int32)), .unset, .unset] [(.long (4 : Int64))])) (fun t k => XS.ifNo X48.here hx rfl (hb hby at_59) rfl (by decide) k) ?_
  refine own_Fin.back (S' := T48.setTop (mkF m 65 #[.val (.int p0), .val (.int (1 : Int32)), .val (.ref a_TRUE), .val (.ref a_FALSE), .val (.int (1 : Int32)), .val (.int (1 : Int32)), .val (.int (0 : Int32)), .unset, .unset] [(.long (4 : Int64)), (.long (4 : Int64))])) (fun t k => X48.ldc2J hx hown (mvT hZ (hw _ (List.mem_of_getElem? (i := 42) rfl))) rfl (hb hby at_62) k) ?_
  refine own_Fin.back (S' := T48.setTop (mkF m 71 #[.val (.int p0), .val (.int (1 : Int32)), .val (.ref a_TRUE), .val (.ref a_FALSE), .val (.int (1 : Int32)), .val (.int (1 : Int32)), .val (.int (0 : Int32)), .unset, .unset] [(.long (4 : Int64)), (.long (4 : Int64))])) (fun t k => XS.goto X48.here hx rfl (pc0 := 65) (pc' := 71) rfl (hb hby at_65) (by decide) (by decide) k) ?_
  refine own_Fin.back (S' := T48.setTop (mkF m 72 #[.val (.int p0), .val (.int (1 : Int32)), .val (.ref a_TRUE), .val (.ref a_FALSE), .val (.int (1 : Int32)), .val (.int (1 : Int32)), .val (.int (0 : Int32)), .unset, .unset] [(.int (XT.cmpL (4 : Int64) (4 : Int64)))])) (fun t k => XT.lcmp X48.here hx rfl (hb hby at_71) rfl k) ?_
  refine own_Fin.back (S' := T48.setTop (mkF m 75 #[.val (.int p0), .val (.int (1 : Int32)), .val (.ref a_TRUE), .val (.ref a_FALSE), .val (.int (1 : Int32)), .val (.int (1 : Int32)), .val (.int (0 : Int32)), .unset, .unset] [])) (fun t k => XS.ifNo X48.here hx rfl (hb hby at_72) rfl (by decide) k) ?_
  refine own_Fin.back (S' := T48.setTop (mkF m 76 #[.val (.int p0), .val (.int (1 : Int32)), .val (.ref a_TRUE), .val (.ref a_FALSE), .val (.int (1 : Int32)), .val (.int (1 : Int32)), .val (.int (0 : Int32)), .unset, .unset] [(.int (1 : Int32))])) (fun t k => XS.iconst X48.here hx rfl (hb hby at_75) k) ?_
  refine own_Fin.back (S' := T48.setTop (mkF m 80 #[.val (.int p0), .val (.int (1 : Int32)), .val (.ref a_TRUE), .val (.ref a_FALSE), .val (.int (1 : Int32)), .val (.int (1 : Int32)), .val (.int (0 : Int32)), .unset, .unset] [(.int (1 : Int32))])) (fun t k => XS.goto X48.here hx rfl (pc0 := 76) (pc' := 80) rfl (hb hby at_76) (by decide) (by decide) k) ?_
  refine own_Fin.back (S' := T48.setTop (mkF m 82 #[.val (.int p0), .val (.int (1 : Int32)), .val (.ref a_TRUE), .val (.ref a_FALSE), .val (.int (1 : Int32)), .val (.int (1 : Int32)), .val (.int (0 : Int32)), .val (.int (1 : Int32)), .unset] [])) (fun t k => XS.istore X48.here hx rfl (hb hby at_80) rfl (l' := #[.val (.int p0), .val (.int (1 : Int32)), .val (.ref a_TRUE), .val (.ref a_FALSE), .val (.int (1 : Int32)), .val (.int (1 : Int32)), .val (.int (0 : Int32)), .val (.int (1 : Int32)), .unset]) rfl k) ?_
  refine own_Fin.back (S' := T48.setTop (mkF m 83 #[.val (.int p0), .val (.int (1 : Int32)), .val (.ref a_TRUE), .val (.ref a_FALSE), .val (.int (1 : Int32)), .val (.int (1 : Int32)), .val (.int (0 : Int32)), .val (.int (1 : Int32)), .unset] [(.ref a_TRUE)])) (fun t k => XS.aloadN X48.here hx rfl (hb hby at_82) rfl rfl k) ?_
  obtain ⟨T49, X49, e49, k49⟩ := own_callS X48 hx hZ (y := (⟨"com/example/relational_model_translator/relationalmodeltranslator/writer/Ltl", "not", "(Lcom/example/relational_model_translator/relationalmodeltranslator/writer/Ltl;)Lcom/example/relational_model_translator/relationalmodeltranslator/writer/Ltl;"⟩ : MethodName)) (W := 0) hown (hw _ (List.mem_of_getElem? (i := 39) rfl)) (hw _ (List.mem_of_getElem? (i := 40) rfl)) (hw _ (List.mem_of_getElem? (i := 2) rfl)) (hw _ (List.mem_of_getElem? (i := 41) rfl)) (by decide) (own_not_a_TRUE l Z a0 hw h0 H) e48 (by decide) (by decide) (g := (mkF m 83 #[.val (.int p0), .val (.int (1 : Int32)), .val (.ref a_TRUE), .val (.ref a_FALSE), .val (.int (1 : Int32)), .val (.int (1 : Int32)), .val (.int (0 : Int32)), .val (.int (1 : Int32)), .unset] [(.ref a_TRUE)])) rfl (by rw [hml]; rfl) (argsL := [(.ref a_TRUE)]) (rest := []) (lenOf (show parseMethodDescriptor "(Lcom/example/relational_model_translator/relationalmodeltranslator/writer/Ltl;)Lcom/example/relational_model_translator/relationalmodeltranslator/writer/Ltl;" = some ⟨[(.object "com/example/relational_model_translator/relationalmodeltranslator/writer/Ltl")], some (.object "com/example/relational_model_translator/relationalmodeltranslator/writer/Ltl")⟩ by decide +kernel) rfl) rfl (by show 2 * 0 + _ ≤ _; exact Nat.le_of_eq rfl) (hb hby at_83)
  refine own_Fin.back (S' := T49.setTop (mkF m 86 #[.val (.int p0), .val (.int (1 : Int32)), .val (.ref a_TRUE), .val (.ref a_FALSE), .val (.int (1 : Int32)), .val (.int (1 : Int32)), .val (.int (0 : Int32)), .val (.int (1 : Int32)), .unset] [(.ref a_FALSE)])) k49 ?_
  refine own_Fin.back (S' := T49.setTop (mkF m 87 #[.val (.int p0), .val (.int (1 : Int32)), .val (.ref a_TRUE), .val (.ref a_FALSE), .val (.int (1 : Int32)), .val (.int (1 : Int32)), .val (.int (0 : Int32)), .val (.int (1 : Int32)), .unset] [(.ref a_FALSE), (.ref a_FALSE)])) (fun t k => XS.aloadN X49.here hx rfl (hb hby at_86) rfl rfl k) ?_
  obtain ⟨T50, X50, e50, k50⟩ := own_callV X49 hx hZ (C := "com/example/relational_model_translator/relationalmodeltranslator/writer/Ltl") (y := (⟨"com/example/relational_model_translator/relationalmodeltranslator/writer/Ltl", "equals", "(Ljava/lang/Object;)Z"⟩ : MethodName)) (W := 0) hown (hw _ (List.mem_of_getElem? (i := 21) rfl)) (hw _ (List.mem_of_getElem? (i := 22) rfl)) (hw _ (List.mem_of_getElem? (i := 24) rfl)) (hw _ (List.mem_of_getElem? (i := 23) rfl)) (hw _ (List.mem_of_getElem? (i := 25) rfl)) (hw _ (List.mem_of_getElem? (i := 2) rfl)) (by decide) (own_eq_a_FALSE_a_FALSE l Z a0 hw h0 H) e49 X_FALSE (by decide) (by decide) (g := (mkF m 87 #[.val (.int p0), .val (.int (1 : Int32)), .val (.ref a_TRUE), .val (.ref a_FALSE), .val (.int (1 : Int32)), .val (.int (1 : Int32)), .val (.int (0 : Int32)), .val (.int (1 : Int32)), .unset] [(.ref a_FALSE), (.ref a_FALSE)])) rfl (by rw [hml]; rfl) (argsL := [(.ref a_FALSE)]) (rest := []) (lenOf (show parseMethodDescriptor "(Ljava/lang/Object;)Z" = some ⟨[(.object "java/lang/Object")], some .boolean⟩ by decide +kernel) rfl) rfl (by show 2 * 0 + _ ≤ _; exact Nat.le_of_eq rfl) (hb hby at_87)
  refine own_Fin.back (S' := T50.setTop (mkF m 90 #[.val (.int p0), .val (.int (1 : Int32)), .val (.ref a_TRUE), .val (.ref a_FALSE), .val (.int (1 : Int32)), .val (.int (1 : Int32)), .val (.int (0 : Int32)), .val (.int (1 : Int32)), .unset] [(.int (1 : Int32))])) k50 ?_
  refine own_Fin.back (S' := T50.setTop (mkF m 92 #[.val (.int p0), .val (.int (1 : Int32)), .val (.ref a_TRUE), .val (.ref a_FALSE), .val (.int (1 : Int32)), .val (.int (1 : Int32)), .val (.int (0 : Int32)), .val (.int (1 : Int32)), .val (.int (1 : Int32))] [])) (fun t k => XS.istore X50.here hx rfl (hb hby at_90) rfl (l' := #[.val (.int p0), .val (.int (1 : Int32)), .val (.ref a_TRUE), .val (.ref a_FALSE), .val (.int (1 : Int32)), .val (.int (1 : Int32)), .val (.int (0 : Int32)), .val (.int (1 : Int32)), .val (.int (1 : Int32))]) rfl k) ?_
  refine own_Fin.back (S' := T50.setTop (mkF m 94 #[.val (.int p0), .val (.int (1 : Int32)), .val (.ref a_TRUE), .val (.ref a_FALSE), .val (.int (1 : Int32)), .val (.int (1 : Int32)), .val (.int (0 : Int32)), .val (.int (1 : Int32)), .val (.int (1 : Int32))] [(.int (1 : Int32))])) (fun t k => XS.iload X50.here hx rfl (hb hby at_92) rfl k) ?_
  refine own_Fin.back (S' := T50.setTop (mkF m 97 #[.val (.int p0), .val (.int (1 : Int32)), .val (.ref a_TRUE), .val (.ref a_FALSE), .val (.int (1 : Int32)), .val (.int (1 : Int32)), .val (.int (0 : Int32)), .val (.int (1 : Int32)), .val (.int (1 : Int32))] [])) (fun t k => XS.ifNo X50.here hx rfl (hb hby at_94) rfl (by decide) k) ?_
  refine own_Fin.back (S' := T50.setTop (mkF m 99 #[.val (.int p0), .val (.int (1 : Int32)), .val (.ref a_TRUE), .val (.ref a_FALSE), .val (.int (1 : Int32)), .val (.int (1 : Int32)), .val (.int (0 : Int32)), .val (.int (1 : Int32)), .val (.int (1 : Int32))] [(.int (1 : Int32))])) (fun t k => XS.iload X50.here hx rfl (hb hby at_97) rfl k) ?_
  refine own_Fin.back (S' := T50.setTop (mkF m 100 #[.val (.int p0), .val (.int (1 : Int32)), .val (.ref a_TRUE), .val (.ref a_FALSE), .val (.int (1 : Int32)), .val (.int (1 : Int32)), .val (.int (0 : Int32)), .val (.int (1 : Int32)), .val (.int (1 : Int32))] [(.int (1 : Int32)), (.int (1 : Int32))])) (fun t k => XS.iloadN X50.here hx rfl (hb hby at_99) rfl k) ?_
  refine own_Fin.back (S' := T50.setTop (mkF m 103 #[.val (.int p0), .val (.int (1 : Int32)), .val (.ref a_TRUE), .val (.ref a_FALSE), .val (.int (1 : Int32)), .val (.int (1 : Int32)), .val (.int (0 : Int32)), .val (.int (1 : Int32)), .val (.int (1 : Int32))] [])) (fun t k => XS.icmpNo X50.here hx rfl (hb hby at_100) rfl (by decide) k) ?_
  refine own_Fin.back (S' := T50.setTop (mkF m 105 #[.val (.int p0), .val (.int (1 : Int32)), .val (.ref a_TRUE), .val (.ref a_FALSE), .val (.int (1 : Int32)), .val (.int (1 : Int32)), .val (.int (0 : Int32)), .val (.int (1 : Int32)), .val (.int (1 : Int32))] [(.int (0 : Int32))])) (fun t k => XS.iload X50.here hx rfl (hb hby at_103) rfl k) ?_
  refine own_Fin.back (S' := T50.setTop (mkF m 106 #[.val (.int p0), .val (.int (1 : Int32)), .val (.ref a_TRUE), .val (.ref a_FALSE), .val (.int (1 : Int32)), .val (.int (1 : Int32)), .val (.int (0 : Int32)), .val (.int (1 : Int32)), .val (.int (1 : Int32))] [(.int (1 : Int32)), (.int (0 : Int32))])) (fun t k => XS.iloadN X50.here hx rfl (hb hby at_105) rfl k) ?_
  refine own_Fin.back (S' := T50.setTop (mkF m 113 #[.val (.int p0), .val (.int (1 : Int32)), .val (.ref a_TRUE), .val (.ref a_FALSE), .val (.int (1 : Int32)), .val (.int (1 : Int32)), .val (.int (0 : Int32)), .val (.int (1 : Int32)), .val (.int (1 : Int32))] [(.int (0 : Int32))])) (fun t k => XS.ifYes X50.here hx rfl (pc0 := 106) (pc' := 113) rfl (hb hby at_106) rfl (by decide) (by decide) (by decide) k) ?_
  refine own_Fin.back (S' := T50.setTop (mkF m 114 #[.val (.int p0), .val (.int (1 : Int32)), .val (.ref a_TRUE), .val (.ref a_FALSE), .val (.int (1 : Int32)), .val (.int (1 : Int32)), .val (.int (0 : Int32)), .val (.int (1 : Int32)), .val (.int (1 : Int32))] [(.int (0 : Int32)), (.int (0 : Int32))])) (fun t k => XS.iconst X50.here hx rfl (hb hby at_113) k) ?_
  refine own_Fin.back (S' := T50.setTop (mkF m 117 #[.val (.int p0), .val (.int (1 : Int32)), .val (.ref a_TRUE), .val (.ref a_FALSE), .val (.int (1 : Int32)), .val (.int (1 : Int32)), .val (.int (0 : Int32)), .val (.int (1 : Int32)), .val (.int (1 : Int32))] [])) (fun t k => XS.icmpNo X50.here hx rfl (hb hby at_114) rfl (by decide) k) ?_
  refine own_Fin.back (S' := T50.setTop (mkF m 119 #[.val (.int p0), .val (.int (1 : Int32)), .val (.ref a_TRUE), .val (.ref a_FALSE), .val (.int (1 : Int32)), .val (.int (1 : Int32)), .val (.int (0 : Int32)), .val (.int (1 : Int32)), .val (.int (1 : Int32))] [(.int (1 : Int32))])) (fun t k => XS.iload X50.here hx rfl (hb hby at_117) rfl k) ?_
  refine own_Fin.back (S' := T50.setTop (mkF m 122 #[.val (.int p0), .val (.int (1 : Int32)), .val (.ref a_TRUE), .val (.ref a_FALSE), .val (.int (1 : Int32)), .val (.int (1 : Int32)), .val (.int (0 : Int32)), .val (.int (1 : Int32)), .val (.int (1 : Int32))] [])) (fun t k => XS.ifNo X50.here hx rfl (hb hby at_119) rfl (by decide) k) ?_
  refine own_Fin.back (S' := T50.setTop (mkF m 124 #[.val (.int p0), .val (.int (1 : Int32)), .val (.ref a_TRUE), .val (.ref a_FALSE), .val (.int (1 : Int32)), .val (.int (1 : Int32)), .val (.int (0 : Int32)), .val (.int (1 : Int32)), .val (.int (1 : Int32))] [(.int (1 : Int32))])) (fun t k => XS.iload X50.here hx rfl (hb hby at_122) rfl k) ?_
  refine own_Fin.back (S' := T50.setTop (mkF m 127 #[.val (.int p0), .val (.int (1 : Int32)), .val (.ref a_TRUE), .val (.ref a_FALSE), .val (.int (1 : Int32)), .val (.int (1 : Int32)), .val (.int (0 : Int32)), .val (.int (1 : Int32)), .val (.int (1 : Int32))] [])) (fun t k => XS.ifNo X50.here hx rfl (hb hby at_124) rfl (by decide) k) ?_
  refine own_Fin.back (S' := T50.setTop (mkF m 128 #[.val (.int p0), .val (.int (1 : Int32)), .val (.ref a_TRUE), .val (.ref a_FALSE), .val (.int (1 : Int32)), .val (.int (1 : Int32)), .val (.int (0 : Int32)), .val (.int (1 : Int32)), .val (.int (1 : Int32))] [(.int (1 : Int32))])) (fun t k => XS.iconst X50.here hx rfl (hb hby at_127) k) ?_
  refine own_Fin.back (S' := T50.setTop (mkF m 132 #[.val (.int p0), .val (.int (1 : Int32)), .val (.ref a_TRUE), .val (.ref a_FALSE), .val (.int (1 : Int32)), .val (.int (1 : Int32)), .val (.int (0 : Int32)), .val (.int (1 : Int32)), .val (.int (1 : Int32))] [(.int (1 : Int32))])) (fun t k => XS.goto X50.here hx rfl (pc0 := 128) (pc' := 132) rfl (hb hby at_128) (by decide) (by decide) k) ?_
  exact ⟨T50, X50, e50, fun fs hr => retOut X50 hx (w := (.int (1 : Int32))) (t := .boolean) hret (by first | rfl | decide) (Or.inl ⟨rfl, Or.inr (Or.inl rfl), _, rfl⟩) (hb hby at_132) hr⟩
theorem own_law (l : Launch) (Z : State) (a0 : Array Value) (hw : ∀ d ∈ tables_1, d.before a0 Z = true) (h0 : Heap) {a_FALSE a_TRUE a_Kind_FALSE a_Kind_TRUE : Addr} (H : own_Facts Z h0 a_FALSE a_TRUE a_Kind_FALSE a_Kind_TRUE) (p0 : Int32) :
    own_Pur l Z x code maxLocals (some .boolean) 4 112 #[(.int p0)] (some (.int (1 : Int32))) h0 := by
  rcases and_one p0 with z0 | z0
  · exact own_law_0 l Z a0 hw h0 H p0 z0
  · exact own_law_1 l Z a0 hw h0 H p0 z0
set_option maxRecDepth 65536 in
set_option maxHeartbeats 40000000 in
theorem own_comes {Post : Tables → Env → Array Value → State → Outcome → State → Prop} (hpost : ∀ tb e args s v u, (limb_1_1.after args s (.returned v) u = true ∧ limb_1_2.after args s (.returned v) u = true ∧ True) → FrameEnd s (.returned v) u (Jvm.fieldLocs frame_1_writes args s ++ Jvm.arrayLocs frame_1_arrays args s ++ Jvm.staticLocs frame_1_statics s) 0 0 → Post tb e args s (.returned v) u) :
    ArmFor flags0 classFile x code maxLocals ret World_1 tables_1 room_1 Calls_1 rest_1 Pre_1 Post := by
  intro l hfl _ _ p e ha hc hk s m args below hf hA hF happ hP
  obtain ⟨hcalls, hrest, hpre⟩ := hP
  obtain ⟨-, -, -, hnamed, -, -, -, hat⟩ := (Spec.applies_iff hf).mp happ
  obtain ⟨hg, hn⟩ := and_e (Cond.before_iff.mp (show (Jvm.Cond.and given_1 narrow_1).before args s = true from hpre))
  obtain ⟨hcount, g0⟩ := and_e hg
  obtain ⟨w0, rfl⟩ : ∃ w0 : Value, args = #[w0] := by
    have hs : args.size = 1 := by simpa [Cond.value, given_1] using hcount
    obtain ⟨L⟩ := args
    match L, hs with
    | [w0], _ => exact ⟨w0, rfl⟩
  have hw := fun d (hd : d ∈ tables_1) => atoms_spec (ws := Jvm.Cond.code x code maxLocals ret :: tables_1) hat d (List.mem_cons_of_mem _ hd)
  obtain ⟨i0, j0⟩ := is_v g0
  obtain rfl : w0 = (.int i0) := Option.some.inj j0
  obtain ⟨hN0, hR0⟩ := and_e hn
  obtain ⟨hN1, hR1⟩ := and_e hR0
  obtain ⟨hN2, hR2⟩ := and_e hR1
  obtain ⟨hN3, hR3⟩ := and_e hR2
  obtain ⟨hN4, hR4⟩ := and_e hR3
  obtain ⟨hN5, hR5⟩ := and_e hR4
  obtain ⟨hN6, hR6⟩ := and_e hR5
  obtain ⟨hN7, hR7⟩ := and_e hR6
  obtain ⟨hN8, hR8⟩ := and_e hR7
  obtain ⟨hN9, hR9⟩ := and_e hR8
  obtain ⟨hN10, hR10⟩ := and_e hR9
  obtain ⟨hN11, hR11⟩ := and_e hR10
  have hN12 := hR11
  obtain ⟨a_FALSE, E_FALSE⟩ := exa_v hN0
  have S_FALSE := own_sta E_FALSE (hw _ (List.mem_of_getElem? (i := 2) rfl)) (hw _ (List.mem_of_getElem? (i := 5) rfl))
  have X_FALSE := Exa.start E_FALSE hN0
  obtain ⟨a_TRUE, E_TRUE⟩ := exa_v hN1
  have S_TRUE := own_sta E_TRUE (hw _ (List.mem_of_getElem? (i := 2) rfl)) (hw _ (List.mem_of_getElem? (i := 7) rfl))
  have X_TRUE := Exa.start E_TRUE hN1
  obtain ⟨a_Kind_FALSE, E_Kind_FALSE⟩ := exa_v hN2
  have S_Kind_FALSE := own_sta E_Kind_FALSE (hw _ (List.mem_of_getElem? (i := 15) rfl)) (hw _ (List.mem_of_getElem? (i := 16) rfl))
  have X_Kind_FALSE := Exa.start E_Kind_FALSE hN2
  obtain ⟨a_Kind_TRUE, E_Kind_TRUE⟩ := exa_v hN4
  have S_Kind_TRUE := own_sta E_Kind_TRUE (hw _ (List.mem_of_getElem? (i := 15) rfl)) (hw _ (List.mem_of_getElem? (i := 18) rfl))
  have X_Kind_TRUE := Exa.start E_Kind_TRUE hN4
  have F_FALSE_kind := own_fldR E_FALSE E_Kind_FALSE hN3
  have F_Kind_FALSE_ordinal := own_fldI E_Kind_FALSE hN5
  have F_Kind_TRUE_ordinal := own_fldI E_Kind_TRUE hN6
  have D_FALSE_TRUE : a_FALSE ≠ a_TRUE := fun q => gotF (eq_R E_FALSE E_TRUE rfl rfl) (not_v hN7) (congrArg Value.ref q)
  have F_FALSE_hash := own_fldI E_FALSE hN8
  have F_TRUE_hash := own_fldI E_TRUE hN9
  have F_TRUE_kind := own_fldR E_TRUE E_Kind_TRUE hN10
  have F_FALSE_length := own_fldL E_FALSE hN11
  have F_TRUE_length := own_fldL E_TRUE hN12
  have D_Kind_FALSE_Kind_TRUE := own_ne F_Kind_FALSE_ordinal F_Kind_TRUE_ordinal (by decide)
  have H : own_Facts s s.heap a_FALSE a_TRUE a_Kind_FALSE a_Kind_TRUE := ⟨S_FALSE, X_FALSE, S_TRUE, X_TRUE, S_Kind_FALSE, X_Kind_FALSE, S_Kind_TRUE, X_Kind_TRUE, F_FALSE_kind, F_Kind_FALSE_ordinal, F_Kind_TRUE_ordinal, D_FALSE_TRUE, F_FALSE_hash, F_TRUE_hash, F_TRUE_kind, F_FALSE_length, F_TRUE_length, D_Kind_FALSE_Kind_TRUE⟩
  obtain ⟨n, o, h1, h2, h3, _, L, rfl, ⟨rfl, rfl, -⟩, hq⟩ := own_law l s _ hw s.heap H i0 tables_1 p e ha hc hk s m _ below hf ((Spec.applies_iff_loose hf).mp happ).1 ⟨rfl, State.Warmed39.refl s, rfl⟩ trivial
  exact ⟨n, _, h1, h2, h3, hpost _ _ _ _ _ _ ⟨Cond.after_iff.mpr rfl, Cond.after_iff.mpr (eq_i res_at (Term.int_eval (1)) rfl), trivial⟩ ⟨hq.1, hq.2.1, hq.2.2.sift fun y hy => (nomatch hy)⟩⟩
theorem main_1_1 : Claimed_1_1 := own_comes fun _ _ _ _ _ _ h hF => ⟨h.1, hF⟩
theorem main_1_2 : Claimed_1_2 := own_comes fun _ _ _ _ _ _ h hF => ⟨h.2.1, hF⟩
end Jvm.Pilot.@@N@@
namespace Jvm.Pilot.@@N@@
open Jvm Jvm.ClassFile Sem Op Lib Jvm.Free Jvm.Stand Jvm.Pilot.@@N@@.Jvm.D
/-! MADE BY PROGRAM (witnessworld.py) out of the Statement's table words and the real class files: 13 classes; the members and pool entries that the words name. The judged class is class 1, her method 1. -/
namespace start1
open Jvm.ClassFile
def u (s : String) : CpInfo := .utf8 (stringToUtf16 s)
/-- a pool by its gaps: so many unusable entries, then the entry; so many at the end -/
def gap : Nat → List CpInfo → List CpInfo
  | 0, r => r
  | n + 1, r => .unusable :: gap n r
def poolList (es : List (Nat × CpInfo)) (last : Nat) : List CpInfo := es.foldr (fun e r => gap e.1 (e.2 :: r)) (gap last [])
def pool (es : List (Nat × CpInfo)) (last : Nat) : Array CpInfo := ⟨poolList es last⟩
def fileOf (pool : Array CpInfo) (this : Nat) (attrs : Array Attribute := #[]) (ms : Array MethodInfo := #[]) (fl : Nat := 33) (sup : Nat := 0) (ifs : Array Nat := #[]) (fds : Array FieldInfo := #[]) : ClassFile where
  minorVersion := 0
  majorVersion := 65
  constantPool := pool
  accessFlags := fl
  thisClass := this
  superClass := sup
  interfaces := ifs
  fields := fds
  methods := ms
  attributes := attrs
def plain (name : String) (sup : Option ClassId) : Class where
  name := name
  kind := .ordinary
  loader := none
  accessFlags := 33
  super := sup
  interfaces := #[]
  cf := none
  fields := #[]
  methods := #[]
  instanceTypes := #[]
  staticTypes := #[]
  resolved := #[]
  callSites := []
  init := .initialized
  statics := none
  mirror := none

def pool0 : Array CpInfo := pool [(5, u "<init>"), (0, u "()V"), (1, .class_ 10), (1, u "java/lang/Object")] 113

def k0m0 : Method := { name := "<init>", desc := "()V", sig := { parameters := [], returnType := none }, accessFlags := 1, code := none }
/-- java/lang/Object -/
def k0 : Class := { plain "java/lang/Object" none with
  accessFlags := 33
  interfaces := #[]
  cf := some (fileOf pool0 8 #[] #[{ accessFlags := 1, nameIndex := 5, descriptorIndex := 6, attributes := #[] }] 33 0 #[] #[])
  fields := #[]
  methods := #[k0m0]
  instanceTypes := #[]
  staticTypes := #[]
  resolved := Array.replicate 124 none
  statics := none }

def pool1 : Array CpInfo := pool [(2, .class_ 4), (1, u "java/lang/Object"), (0, u "<init>"), (0, u "()V"), (0, .methodref 8 9), (0, .class_ 10), (0, .nameAndType 11 12), (0, u "com/example/relational_model_translator/relationalmodeltranslator/writer/Ltl"), (0, u "of"), (0, u "(Z)Lcom/example/relational_model_translator/relationalmodeltranslator/writer/Ltl;"), (0, .methodref 8 14), (0, .nameAndType 15 16), (0, u "isConstant"), (0, u "()Z"), (0, .fieldref 8 18), (0, .nameAndType 19 20), (0, u "TRUE"), (0, u "Lcom/example/relational_model_translator/relationalmodeltranslator/writer/Ltl;"), (0, .methodref 8 22), (0, .nameAndType 23 24), (0, u "equals"), (0, u "(Ljava/lang/Object;)Z"), (0, .fieldref 8 26), (0, .nameAndType 27 20), (0, u "FALSE"), (0, .methodref 8 29), (0, .nameAndType 30 31), (0, u "length"), (0, u "()J"), (0, .long 4), (1, .long 5), (1, .methodref 8 37), (0, .nameAndType 38 39), (0, u "not"), (0, u "(Lcom/example/relational_model_translator/relationalmodeltranslator/writer/Ltl;)Lcom/example/relational_model_translator/relationalmodeltranslator/writer/Ltl;"), (0, .class_ 41), (0, u "com/example/relational_model_translator/relationalmodeltranslator/writer/LtlOfPinLaw"), (2, u "law"), (0, u "(I)Z")] 3

def k1m0 : Method := { name := "<init>", desc := "()V", sig := { parameters := [], returnType := none }, accessFlags := 1, code := none }
def k1c1 : Code := { maxStack := 4, maxLocals := 9, code := code, exceptionTable := #[], attributes := #[] }
def k1m1 : Method := { name := "law", desc := "(I)Z", sig := { parameters := [.int], returnType := some .boolean }, accessFlags := 9, code := some k1c1 }
/-- com/example/relational_model_translator/relationalmodeltranslator/writer/LtlOfPinLaw -/
def k1 : Class := { plain "com/example/relational_model_translator/relationalmodeltranslator/writer/LtlOfPinLaw" (some 0) with
  accessFlags := 49
  interfaces := #[]
  cf := some (fileOf pool1 40 #[] #[{ accessFlags := 1, nameIndex := 5, descriptorIndex := 6, attributes := #[] }, { accessFlags := 9, nameIndex := 44, descriptorIndex := 45, attributes := #[] }] 49 2 #[] #[])
  fields := #[]
  methods := #[k1m0, k1m1]
  instanceTypes := #[]
  staticTypes := #[]
  resolved := Array.replicate 49 none
  statics := none }

def pool2 : Array CpInfo := pool [(2, .class_ 4), (1, u "java/lang/Object"), (2, .fieldref 8 9), (0, .class_ 10), (0, .nameAndType 11 12), (0, u "com/example/relational_model_translator/relationalmodeltranslator/writer/Ltl"), (0, u "kind"), (0, u "Lcom/example/relational_model_translator/relationalmodeltranslator/writer/Ltl$Kind;"), (2, u "variable"), (0, u "Ljava/lang/String;"), (2, u "step"), (0, u "I"), (2, u "value"), (2, u "operands"), (0, u "Ljava/util/List;"), (10, u "hash"), (1, .fieldref 8 41), (0, .nameAndType 38 20), (0, .fieldref 43 44), (0, .class_ 45), (0, .nameAndType 46 12), (0, u "com/example/relational_model_translator/relationalmodeltranslator/writer/Ltl$Kind"), (0, u "TRUE"), (0, .fieldref 43 48), (0, .nameAndType 49 12), (0, u "FALSE"), (8, u "length"), (3, u "FACTS"), (0, u "Ljava/util/Set;"), (5, u "(Ljava/lang/Object;)Z"), (20, .fieldref 8 91), (0, .nameAndType 58 92), (0, u "J"), (17, u "()Z"), (13, u "of"), (21, .fieldref 8 147), (0, .nameAndType 46 148), (0, u "Lcom/example/relational_model_translator/relationalmodeltranslator/writer/Ltl;"), (0, .fieldref 8 150), (0, .nameAndType 49 148), (21, u "equals"), (18, u "not"), (0, u "(Lcom/example/relational_model_translator/relationalmodeltranslator/writer/Ltl;)Lcom/example/relational_model_translator/relationalmodeltranslator/writer/Ltl;"), (5, u "isConstant"), (52, u "()J"), (69, u "(Z)Lcom/example/relational_model_translator/relationalmodeltranslator/writer/Ltl;")] 35

def k2c0 : Code := { maxStack := 1, maxLocals := 1, code := prog_127_method_6_code, exceptionTable := #[], attributes := #[] }
def k2m0 : Method := { name := "of", desc := "(Z)Lcom/example/relational_model_translator/relationalmodeltranslator/writer/Ltl;", sig := { parameters := [.boolean], returnType := some (.object "com/example/relational_model_translator/relationalmodeltranslator/writer/Ltl") }, accessFlags := 8, code := some k2c0 }
def k2c1 : Code := { maxStack := 7, maxLocals := 2, code := prog_127_method_7_code, exceptionTable := #[], attributes := #[] }
def k2m1 : Method := { name := "not", desc := "(Lcom/example/relational_model_translator/relationalmodeltranslator/writer/Ltl;)Lcom/example/relational_model_translator/relationalmodeltranslator/writer/Ltl;", sig := { parameters := [(.object "com/example/relational_model_translator/relationalmodeltranslator/writer/Ltl")], returnType := some (.object "com/example/relational_model_translator/relationalmodeltranslator/writer/Ltl") }, accessFlags := 8, code := some k2c1 }
def k2c2 : Code := { maxStack := 2, maxLocals := 1, code := prog_127_method_18_code, exceptionTable := #[], attributes := #[] }
def k2m2 : Method := { name := "length", desc := "()J", sig := { parameters := [], returnType := some .long }, accessFlags := 0, code := some k2c2 }
def k2c3 : Code := { maxStack := 2, maxLocals := 1, code := prog_127_method_20_code, exceptionTable := #[], attributes := #[] }
def k2m3 : Method := { name := "isConstant", desc := "()Z", sig := { parameters := [], returnType := some .boolean }, accessFlags := 0, code := some k2c3 }
def k2c4 : Code := { maxStack := 2, maxLocals := 4, code := prog_127_method_25_code, exceptionTable := #[], attributes := #[] }
def k2m4 : Method := { name := "equals", desc := "(Ljava/lang/Object;)Z", sig := { parameters := [(.object "java/lang/Object")], returnType := some .boolean }, accessFlags := 1, code := some k2c4 }
/-- com/example/relational_model_translator/relationalmodeltranslator/writer/Ltl -/
def k2 : Class := { plain "com/example/relational_model_translator/relationalmodeltranslator/writer/Ltl" (some 0) with
  accessFlags := 48
  interfaces := #[]
  cf := some (fileOf pool2 8 #[.nestMembers #[43]] #[{ accessFlags := 8, nameIndex := 124, descriptorIndex := 321, attributes := #[] }, { accessFlags := 8, nameIndex := 191, descriptorIndex := 192, attributes := #[] }, { accessFlags := 0, nameIndex := 58, descriptorIndex := 251, attributes := #[] }, { accessFlags := 0, nameIndex := 198, descriptorIndex := 110, attributes := #[] }, { accessFlags := 1, nameIndex := 172, descriptorIndex := 69, attributes := #[] }] 48 2 #[] #[{ accessFlags := 26, nameIndex := 62, descriptorIndex := 63, attributes := #[] }, { accessFlags := 24, nameIndex := 46, descriptorIndex := 148, attributes := #[] }, { accessFlags := 24, nameIndex := 49, descriptorIndex := 148, attributes := #[] }, { accessFlags := 18, nameIndex := 11, descriptorIndex := 12, attributes := #[] }, { accessFlags := 18, nameIndex := 15, descriptorIndex := 16, attributes := #[] }, { accessFlags := 18, nameIndex := 19, descriptorIndex := 20, attributes := #[] }, { accessFlags := 18, nameIndex := 23, descriptorIndex := 20, attributes := #[] }, { accessFlags := 18, nameIndex := 26, descriptorIndex := 27, attributes := #[] }, { accessFlags := 18, nameIndex := 38, descriptorIndex := 20, attributes := #[] }, { accessFlags := 18, nameIndex := 58, descriptorIndex := 92, attributes := #[] }])
  fields := #[{ name := "FACTS", type := (.object "java/util/Set"), accessFlags := 26, slot := 0, constantValue := 0 }, { name := "TRUE", type := (.object "com/example/relational_model_translator/relationalmodeltranslator/writer/Ltl"), accessFlags := 24, slot := 1, constantValue := 0 }, { name := "FALSE", type := (.object "com/example/relational_model_translator/relationalmodeltranslator/writer/Ltl"), accessFlags := 24, slot := 2, constantValue := 0 }, { name := "kind", type := (.object "com/example/relational_model_translator/relationalmodeltranslator/writer/Ltl$Kind"), accessFlags := 18, slot := 0, constantValue := 0 }, { name := "variable", type := (.object "java/lang/String"), accessFlags := 18, slot := 1, constantValue := 0 }, { name := "step", type := .int, accessFlags := 18, slot := 2, constantValue := 0 }, { name := "value", type := .int, accessFlags := 18, slot := 3, constantValue := 0 }, { name := "operands", type := (.object "java/util/List"), accessFlags := 18, slot := 4, constantValue := 0 }, { name := "hash", type := .int, accessFlags := 18, slot := 5, constantValue := 0 }, { name := "length", type := .long, accessFlags := 18, slot := 6, constantValue := 0 }]
  methods := #[k2m0, k2m1, k2m2, k2m3, k2m4]
  instanceTypes := #[(.object "com/example/relational_model_translator/relationalmodeltranslator/writer/Ltl$Kind"), (.object "java/lang/String"), .int, .int, (.object "java/util/List"), .int, .long]
  staticTypes := #[(.object "java/util/Set"), (.object "com/example/relational_model_translator/relationalmodeltranslator/writer/Ltl"), (.object "com/example/relational_model_translator/relationalmodeltranslator/writer/Ltl")]
  resolved := Array.replicate 357 none
  statics := some 0 }

def pool3 : Array CpInfo := pool [(1, .class_ 2), (0, u "java/lang/constant/Constable"), (0, .class_ 4), (0, u "java/lang/Object")] 6

/-- java/lang/constant/Constable -/
def k3 : Class := { plain "java/lang/constant/Constable" (some 0) with
  accessFlags := 1537
  interfaces := #[]
  cf := some (fileOf pool3 1 #[] #[] 1537 3 #[] #[])
  fields := #[]
  methods := #[]
  instanceTypes := #[]
  staticTypes := #[]
  resolved := Array.replicate 11 none
  statics := none }

def pool4 : Array CpInfo := pool [(1, .class_ 2), (0, u "java/lang/Comparable"), (0, .class_ 4), (0, u "java/lang/Object")] 7

/-- java/lang/Comparable -/
def k4 : Class := { plain "java/lang/Comparable" (some 0) with
  accessFlags := 1537
  interfaces := #[]
  cf := some (fileOf pool4 1 #[] #[] 1537 3 #[] #[])
  fields := #[]
  methods := #[]
  instanceTypes := #[]
  staticTypes := #[]
  resolved := Array.replicate 12 none
  statics := none }

def pool5 : Array CpInfo := pool [(1, .class_ 2), (0, u "java/io/Serializable"), (0, .class_ 4), (0, u "java/lang/Object")] 2

/-- java/io/Serializable -/
def k5 : Class := { plain "java/io/Serializable" (some 0) with
  accessFlags := 1537
  interfaces := #[]
  cf := some (fileOf pool5 1 #[] #[] 1537 3 #[] #[])
  fields := #[]
  methods := #[]
  instanceTypes := #[]
  staticTypes := #[]
  resolved := Array.replicate 7 none
  statics := none }

def pool6 : Array CpInfo := pool [(2, .class_ 4), (1, u "java/lang/Enum"), (0, u "name"), (0, u "Ljava/lang/String;"), (2, u "ordinal"), (0, u "I"), (1, .class_ 14), (1, u "java/lang/Object"), (4, u "hash"), (86, .class_ 108), (1, u "java/lang/Enum$EnumDesc"), (2, .class_ 112), (0, u "java/lang/constant/Constable"), (0, .class_ 114), (0, u "java/lang/Comparable"), (0, .class_ 116), (0, u "java/io/Serializable")] 87

/-- java/lang/Enum -/
def k6 : Class := { plain "java/lang/Enum" (some 0) with
  accessFlags := 1057
  interfaces := #[3, 4, 5]
  cf := some (fileOf pool6 2 #[.nestMembers #[106]] #[] 1057 12 #[111, 113, 115] #[{ accessFlags := 18, nameIndex := 5, descriptorIndex := 6, attributes := #[] }, { accessFlags := 18, nameIndex := 9, descriptorIndex := 10, attributes := #[] }, { accessFlags := 2, nameIndex := 19, descriptorIndex := 10, attributes := #[] }])
  fields := #[{ name := "name", type := (.object "java/lang/String"), accessFlags := 18, slot := 0, constantValue := 0 }, { name := "ordinal", type := .int, accessFlags := 18, slot := 1, constantValue := 0 }, { name := "hash", type := .int, accessFlags := 2, slot := 2, constantValue := 0 }]
  methods := #[]
  instanceTypes := #[(.object "java/lang/String"), .int, .int]
  staticTypes := #[]
  resolved := Array.replicate 204 none
  statics := none }

def pool7 : Array CpInfo := pool [(1, .class_ 2), (0, u "com/example/relational_model_translator/relationalmodeltranslator/writer/Ltl$Kind"), (2, u "TRUE"), (0, u "Lcom/example/relational_model_translator/relationalmodeltranslator/writer/Ltl$Kind;"), (2, u "FALSE"), (2, u "HOLDS"), (2, u "MAPS"), (2, u "COUNT_IS"), (2, u "COUNT_AT_MOST"), (2, u "NOT"), (2, u "AND"), (2, u "OR"), (2, u "IMPLIES"), (2, u "IFF"), (2, u "$VALUES"), (0, u "[Lcom/example/relational_model_translator/relationalmodeltranslator/writer/Ltl$Kind;"), (6, .class_ 49), (1, u "java/lang/Enum"), (34, .class_ 85), (0, u "com/example/relational_model_translator/relationalmodeltranslator/writer/Ltl")] 2

/-- com/example/relational_model_translator/relationalmodeltranslator/writer/Ltl$Kind -/
def k7 : Class := { plain "com/example/relational_model_translator/relationalmodeltranslator/writer/Ltl$Kind" (some 6) with
  accessFlags := 16432
  interfaces := #[]
  cf := some (fileOf pool7 1 #[.nestHost 84] #[] 16432 47 #[] #[{ accessFlags := 16409, nameIndex := 5, descriptorIndex := 6, attributes := #[] }, { accessFlags := 16409, nameIndex := 9, descriptorIndex := 6, attributes := #[] }, { accessFlags := 16409, nameIndex := 12, descriptorIndex := 6, attributes := #[] }, { accessFlags := 16409, nameIndex := 15, descriptorIndex := 6, attributes := #[] }, { accessFlags := 16409, nameIndex := 18, descriptorIndex := 6, attributes := #[] }, { accessFlags := 16409, nameIndex := 21, descriptorIndex := 6, attributes := #[] }, { accessFlags := 16409, nameIndex := 24, descriptorIndex := 6, attributes := #[] }, { accessFlags := 16409, nameIndex := 27, descriptorIndex := 6, attributes := #[] }, { accessFlags := 16409, nameIndex := 30, descriptorIndex := 6, attributes := #[] }, { accessFlags := 16409, nameIndex := 33, descriptorIndex := 6, attributes := #[] }, { accessFlags := 16409, nameIndex := 36, descriptorIndex := 6, attributes := #[] }, { accessFlags := 4122, nameIndex := 39, descriptorIndex := 40, attributes := #[] }])
  fields := #[{ name := "TRUE", type := (.object "com/example/relational_model_translator/relationalmodeltranslator/writer/Ltl$Kind"), accessFlags := 16409, slot := 0, constantValue := 0 }, { name := "FALSE", type := (.object "com/example/relational_model_translator/relationalmodeltranslator/writer/Ltl$Kind"), accessFlags := 16409, slot := 1, constantValue := 0 }, { name := "HOLDS", type := (.object "com/example/relational_model_translator/relationalmodeltranslator/writer/Ltl$Kind"), accessFlags := 16409, slot := 2, constantValue := 0 }, { name := "MAPS", type := (.object "com/example/relational_model_translator/relationalmodeltranslator/writer/Ltl$Kind"), accessFlags := 16409, slot := 3, constantValue := 0 }, { name := "COUNT_IS", type := (.object "com/example/relational_model_translator/relationalmodeltranslator/writer/Ltl$Kind"), accessFlags := 16409, slot := 4, constantValue := 0 }, { name := "COUNT_AT_MOST", type := (.object "com/example/relational_model_translator/relationalmodeltranslator/writer/Ltl$Kind"), accessFlags := 16409, slot := 5, constantValue := 0 }, { name := "NOT", type := (.object "com/example/relational_model_translator/relationalmodeltranslator/writer/Ltl$Kind"), accessFlags := 16409, slot := 6, constantValue := 0 }, { name := "AND", type := (.object "com/example/relational_model_translator/relationalmodeltranslator/writer/Ltl$Kind"), accessFlags := 16409, slot := 7, constantValue := 0 }, { name := "OR", type := (.object "com/example/relational_model_translator/relationalmodeltranslator/writer/Ltl$Kind"), accessFlags := 16409, slot := 8, constantValue := 0 }, { name := "IMPLIES", type := (.object "com/example/relational_model_translator/relationalmodeltranslator/writer/Ltl$Kind"), accessFlags := 16409, slot := 9, constantValue := 0 }, { name := "IFF", type := (.object "com/example/relational_model_translator/relationalmodeltranslator/writer/Ltl$Kind"), accessFlags := 16409, slot := 10, constantValue := 0 }, { name := "$VALUES", type := (.array (.object "com/example/relational_model_translator/relationalmodeltranslator/writer/Ltl$Kind")), accessFlags := 4122, slot := 11, constantValue := 0 }]
  methods := #[]
  instanceTypes := #[(.object "java/lang/String"), .int, .int]
  staticTypes := #[(.object "com/example/relational_model_translator/relationalmodeltranslator/writer/Ltl$Kind"), (.object "com/example/relational_model_translator/relationalmodeltranslator/writer/Ltl$Kind"), (.object "com/example/relational_model_translator/relationalmodeltranslator/writer/Ltl$Kind"), (.object "com/example/relational_model_translator/relationalmodeltranslator/writer/Ltl$Kind"), (.object "com/example/relational_model_translator/relationalmodeltranslator/writer/Ltl$Kind"), (.object "com/example/relational_model_translator/relationalmodeltranslator/writer/Ltl$Kind"), (.object "com/example/relational_model_translator/relationalmodeltranslator/writer/Ltl$Kind"), (.object "com/example/relational_model_translator/relationalmodeltranslator/writer/Ltl$Kind"), (.object "com/example/relational_model_translator/relationalmodeltranslator/writer/Ltl$Kind"), (.object "com/example/relational_model_translator/relationalmodeltranslator/writer/Ltl$Kind"), (.object "com/example/relational_model_translator/relationalmodeltranslator/writer/Ltl$Kind"), (.array (.object "com/example/relational_model_translator/relationalmodeltranslator/writer/Ltl$Kind"))]
  resolved := Array.replicate 88 none
  statics := some 1 }

def pool8 : Array CpInfo := pool [(1, u "java/lang/Cloneable"), (0, .class_ 1), (0, u "java/lang/Object"), (0, .class_ 3)] 3

/-- java/lang/Cloneable -/
def k8 : Class := { plain "java/lang/Cloneable" (some 0) with
  accessFlags := 1537
  interfaces := #[]
  cf := some (fileOf pool8 2 #[] #[] 1537 4 #[] #[])
  fields := #[]
  methods := #[]
  instanceTypes := #[]
  staticTypes := #[]
  resolved := Array.replicate 8 none
  statics := none }

/-- the primitive byte -/
def k9 : Class := { plain "byte" none with kind := .primitive 'B', accessFlags := 0x411 }
/-- [B -/
def k10 : Class := { plain "[B" (some 0) with kind := .array 9 .byte, interfaces := #[8, 5], accessFlags := 1041 }

/-- the primitive int -/
def k11 : Class := { plain "int" none with kind := .primitive 'I', accessFlags := 0x411 }
/-- [I -/
def k12 : Class := { plain "[I" (some 0) with kind := .array 11 .int, interfaces := #[8, 5], accessFlags := 1041 }

def heap : Heap := #[{ cls := 2, slots := #[.null, .ref 4, .ref 5], vm := .statics 2 },
  { cls := 7, slots := #[.ref 2, .ref 3, .null, .null, .null, .null, .null, .null, .null, .null, .null, .null], vm := .statics 7 },
  { cls := 7, slots := #[.null, .int 0, .int 0], vm := .none },
  { cls := 7, slots := #[.null, .int 1, .int 0], vm := .none },
  { cls := 2, slots := #[.ref 2, .null, .int 0, .int 0, .null, .int 29552673, .long 4], vm := .none },
  { cls := 2, slots := #[.ref 3, .null, .int 0, .int 0, .null, .int 29552673, .long 5], vm := .none }]
def classes : Array Class := #[k0, k1, k2, k3, k4, k5, k6, k7, k8, k9, k10, k11, k12]
def interned : List (Array UInt16 × Addr) := []
def slotsUsed : Nat := 35
def theMethod : MethodId := ⟨1, 1⟩
def args0 : Array Value := #[.int 5]
def aboutOver (below : List Frame) : State where
  vm := { classes := classes, interned := interned.toArray }
  heap := heap
  slotsUsed := slotsUsed
  threads := #[{ frames := .invoking theMethod args0 :: below }]
def below0 : List Frame := [.native { method := ⟨0, 0⟩, args := #[] }]
def about1 : State := aboutOver below0
def p0 : Program := .bare "" "" ""
def e0 : Env := launch0.env 0 0 0
theorem w_frames : about1.frames = Frame.invoking theMethod args0 :: below0 := rfl
set_option maxRecDepth 65536 in
theorem w_args : argsFit about1.vm theMethod args0 = true := by decide +kernel
set_option maxRecDepth 65536 in
theorem w_heap : heapFits about1 = true := by decide +kernel
set_option maxRecDepth 65536 in
theorem w_runnable : about1.curStatus? = some .runnable := by decide +kernel
set_option maxRecDepth 65536 in
theorem w_alone : about1.alone = true := by decide +kernel
set_option maxRecDepth 65536 in
theorem w_named : about1.methodNamed? x = some theMethod := by decide +kernel
set_option maxRecDepth 65536 in
theorem w_hears : about1.hears theMethod below0 = true := by decide +kernel
set_option maxRecDepth 65536 in
theorem w_ripe : about1.ripe theMethod args0 below0 = true := by decide +kernel
theorem w_running : about1.status = .running := rfl
set_option maxRecDepth 65536 in
theorem w_room : about1.hasRoom e0.platform room_1 = true :=
  launch0.hasRoom_least _ room_1 (by decide +kernel) (by decide +kernel) (by decide +kernel) (by decide +kernel) (by decide +kernel) (by decide +kernel)
theorem allAtoms_all (ts : List Jvm.Cond) (a : Array Jvm.Value) (st : Jvm.State) : (allAtoms ts).before a st = ts.all (fun c => c.before a st) := by
  induction ts with
  | nil => rfl
  | cons c t ih =>
    show (Jvm.Cond.and c (allAtoms t)).before a st = _
    rw [Jvm.Cond.before_and, ih, List.all_cons]
def words1 : List Jvm.Cond := Jvm.Cond.code x code maxLocals ret :: tables_1
/-- a 'code' word, met by the world's own term for the bytes: nothing is compared byte by byte -/
theorem code_word {y : MethodName} {bytes : ByteArray} {mx : Nat} {rt : Option FieldType} {a : Array Value} {s : State} {m : MethodId} {meth : Method} {c : Code} (h1 : s.methodNamed? y = some m) (h2 : s.vm.method? m = some meth) (h3 : meth.code = some c) (h4 : c.code = bytes)
    (h5 : (c.maxLocals == mx && c.exceptionTable.isEmpty && decide (c.maxStack ≤ mostOperands) && decide (meth.sig.returnType = rt) && !meth.locks && decide (parseMethodDescriptor y.desc = some meth.sig)) = true) : (Jvm.Cond.code y bytes mx rt).before a s = true := by
  simp only [Bool.and_eq_true, beq_iff_eq, Bool.not_eq_true', decide_eq_true_eq] at h5
  obtain ⟨⟨⟨⟨⟨g1, g2⟩, g3⟩, g4⟩, g5⟩, g6⟩ := h5
  simp [Cond.before, Cond.holds, Cond.value, h1, h2, h3, h4, g1, g2, g3, g4, g5, g6]
def isCode : Jvm.Cond → Bool
  | .code _ _ _ _ => true
  | _ => false
theorem all_split {L : List Jvm.Cond} {P : Jvm.Cond → Bool} (h1 : L.all (fun c => isCode c || P c) = true) (h2 : ∀ c ∈ L.filter isCode, P c = true) : L.all P = true := by
  refine List.all_eq_true.mpr fun c hc => ?_
  have h := List.all_eq_true.mp h1 c hc
  rcases Bool.eq_false_or_eq_true (isCode c) with hi | hi
  · exact h2 c (List.mem_filter.mpr ⟨hc, hi⟩)
  · simpa [hi] using h
set_option maxRecDepth 65536 in
theorem w_c0 : (Jvm.Cond.code x code maxLocals ret).before args0 about1 = true := code_word (m := ⟨1, 1⟩) (meth := k1m1) (c := k1c1) (by decide +kernel) rfl rfl rfl (by decide +kernel)
set_option maxRecDepth 65536 in
theorem w_c1 : (Jvm.Cond.code ({ cls := "com/example/relational_model_translator/relationalmodeltranslator/writer/Ltl", name := "of", desc := "(Z)Lcom/example/relational_model_translator/relationalmodeltranslator/writer/Ltl;" } : Jvm.MethodName) prog_127_method_6_code (1 : Nat) (Option.some (Jvm.ClassFile.FieldType.object "com/example/relational_model_translator/relationalmodeltranslator/writer/Ltl"))).before args0 about1 = true := code_word (m := ⟨2, 0⟩) (meth := k2m0) (c := k2c0) (by decide +kernel) rfl rfl rfl (by decide +kernel)
set_option maxRecDepth 65536 in
theorem w_c2 : (Jvm.Cond.code ({ cls := "com/example/relational_model_translator/relationalmodeltranslator/writer/Ltl", name := "isConstant", desc := "()Z" } : Jvm.MethodName) prog_127_method_20_code (1 : Nat) (Option.some Jvm.ClassFile.FieldType.boolean)).before args0 about1 = true := code_word (m := ⟨2, 3⟩) (meth := k2m3) (c := k2c3) (by decide +kernel) rfl rfl rfl (by decide +kernel)
set_option maxRecDepth 65536 in
theorem w_c3 : (Jvm.Cond.code ({ cls := "com/example/relational_model_translator/relationalmodeltranslator/writer/Ltl", name := "equals", desc := "(Ljava/lang/Object;)Z" } : Jvm.MethodName) prog_127_method_25_code (4 : Nat) (Option.some Jvm.ClassFile.FieldType.boolean)).before args0 about1 = true := code_word (m := ⟨2, 4⟩) (meth := k2m4) (c := k2c4) (by decide +kernel) rfl rfl rfl (by decide +kernel)
set_option maxRecDepth 65536 in
theorem w_c4 : (Jvm.Cond.code ({ cls := "com/example/relational_model_translator/relationalmodeltranslator/writer/Ltl", name := "length", desc := "()J" } : Jvm.MethodName) prog_127_method_18_code (1 : Nat) (Option.some Jvm.ClassFile.FieldType.long)).before args0 about1 = true := code_word (m := ⟨2, 2⟩) (meth := k2m2) (c := k2c2) (by decide +kernel) rfl rfl rfl (by decide +kernel)
set_option maxRecDepth 65536 in
theorem w_c5 : (Jvm.Cond.code ({ cls := "com/example/relational_model_translator/relationalmodeltranslator/writer/Ltl", name := "not", desc := "(Lcom/example/relational_model_translator/relationalmodeltranslator/writer/Ltl;)Lcom/example/relational_model_translator/relationalmodeltranslator/writer/Ltl;" } : Jvm.MethodName) prog_127_method_7_code (2 : Nat) (Option.some (Jvm.ClassFile.FieldType.object "com/example/relational_model_translator/relationalmodeltranslator/writer/Ltl"))).before args0 about1 = true := code_word (m := ⟨2, 1⟩) (meth := k2m1) (c := k2c1) (by decide +kernel) rfl rfl rfl (by decide +kernel)
def codes1 : List Jvm.Cond := [Jvm.Cond.code x code maxLocals ret, Jvm.Cond.code ({ cls := "com/example/relational_model_translator/relationalmodeltranslator/writer/Ltl", name := "of", desc := "(Z)Lcom/example/relational_model_translator/relationalmodeltranslator/writer/Ltl;" } : Jvm.MethodName) prog_127_method_6_code (1 : Nat) (Option.some (Jvm.ClassFile.FieldType.object "com/example/relational_model_translator/relationalmodeltranslator/writer/Ltl")), Jvm.Cond.code ({ cls := "com/example/relational_model_translator/relationalmodeltranslator/writer/Ltl", name := "isConstant", desc := "()Z" } : Jvm.MethodName) prog_127_method_20_code (1 : Nat) (Option.some Jvm.ClassFile.FieldType.boolean), Jvm.Cond.code ({ cls := "com/example/relational_model_translator/relationalmodeltranslator/writer/Ltl", name := "equals", desc := "(Ljava/lang/Object;)Z" } : Jvm.MethodName) prog_127_method_25_code (4 : Nat) (Option.some Jvm.ClassFile.FieldType.boolean), Jvm.Cond.code ({ cls := "com/example/relational_model_translator/relationalmodeltranslator/writer/Ltl", name := "length", desc := "()J" } : Jvm.MethodName) prog_127_method_18_code (1 : Nat) (Option.some Jvm.ClassFile.FieldType.long), Jvm.Cond.code ({ cls := "com/example/relational_model_translator/relationalmodeltranslator/writer/Ltl", name := "not", desc := "(Lcom/example/relational_model_translator/relationalmodeltranslator/writer/Ltl;)Lcom/example/relational_model_translator/relationalmodeltranslator/writer/Ltl;" } : Jvm.MethodName) prog_127_method_7_code (2 : Nat) (Option.some (Jvm.ClassFile.FieldType.object "com/example/relational_model_translator/relationalmodeltranslator/writer/Ltl"))]
set_option maxRecDepth 65536 in
theorem codes_eq : words1.filter isCode = codes1 := rfl
theorem w_codes : ∀ c ∈ words1.filter isCode, c.before args0 about1 = true := by
  rw [codes_eq]
  intro c hc
  simp only [codes1, List.mem_cons, List.not_mem_nil, or_false] at hc
  rcases hc with rfl | rfl | rfl | rfl | rfl | rfl
  · exact w_c0
  · exact w_c1
  · exact w_c2
  · exact w_c3
  · exact w_c4
  · exact w_c5
set_option maxRecDepth 65536 in
theorem w_t1 : (words1.take 24).all (fun c => isCode c || c.before args0 about1) = true := by decide +kernel
set_option maxRecDepth 65536 in
theorem w_t2 : (words1.drop 24).all (fun c => isCode c || c.before args0 about1) = true := by decide +kernel
theorem w_tables : (allAtoms (Jvm.Cond.code x code maxLocals ret :: tables_1)).before args0 about1 = true := by
  rw [allAtoms_all]
  show words1.all (fun c => c.before args0 about1) = true
  refine all_split ?_ w_codes
  rw [← List.take_append_drop 24 words1, List.all_append, w_t1, w_t2]
  rfl
set_option maxRecDepth 65536 in
theorem w_case : (Jvm.Cond.and given_1 narrow_1).before args0 about1 = true := by decide +kernel
theorem w_applies : (headSpec (Jvm.Cond.code x code maxLocals ret :: tables_1) room_1).applies x e0.platform about1 = true :=
  (Spec.applies_iff w_frames).mpr ⟨w_running, w_runnable, w_alone, w_named, w_hears, w_ripe, w_room, w_tables⟩
theorem atStart : AtStart classFile x code maxLocals ret World_1 tables_1 room_1 Calls_1 rest_1 Pre_1 launch0 p0 e0 about1 theMethod args0 below0 :=
  ⟨lists_1, trivial, launch0.admits_env _ _ _, launch0.least_env, fairChoices_fair.cas, fairChoices_fair.clock, w_frames, w_args, w_heap, w_applies, trivial, trivial, w_case⟩
end start1
theorem witness_1 : WitnessClaimed_1 := ⟨start1.p0, start1.e0, start1.about1, start1.theMethod, start1.args0, start1.below0, start1.atStart⟩
end Jvm.Pilot.@@N@@
