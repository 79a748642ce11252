import JvmDerived
import JvmDerived.Pilot.@@N@@Statement
import JvmDerived.Pilot.@@N@@Code
set_option linter.unusedVariables false
set_option linter.unusedSimpArgs false
namespace Jvm.Pilot.@@N@@
open Jvm Jvm.ClassFile Sem Op Lib Jvm.Free Jvm.Stand Jvm.LawKit Jvm.RoadKit Bundle Jvm.Pilot.@@N@@.Jvm.D

/-! 0. What a body that writes nothing leaves; a walk told forwards; the three calls -/
def own_Q (v0 : Option Value) (h0 : Heap) (v : Option Value) (h : Heap) (L : List Loc) : Prop := v = v0 ∧ L = [] ∧ h = h0
def own_Pur (l : Launch) (Z : State) (y : MethodName) (bytes : ByteArray) (maxL : Nat) (rt : Option FieldType) (fr lo : Nat) (as : Array Value) (v : Option Value) (h : Heap) : Prop :=
  ∀ ws : List Jvm.Cond, MetFree l y (head1 (Jvm.Cond.code y bytes maxL rt :: ws) ({ frames := fr, cells := 0, slots := 0, locals := lo } : Room)) (fun a U => a = as ∧ Z.Warmed39 U.vm ∧ U.heap = h) (fun _ _ _ _ _ => True)
    (fun _ U o U' => ∃ v' L, o = .returned v' ∧ own_Q v h v' U'.heap L ∧ FrameEnd U o U' L ({ frames := fr, cells := 0, slots := 0, locals := lo } : Room).cells ({ frames := fr, cells := 0, slots := 0, locals := lo } : Room).slots)
def own_Fin (p : Program) (l : Launch) (e : Env) (R : Room) (s : State) (m : MethodId) (args : Array Value) (below : List Frame) (meth : Method) (c : Code) (h : Heap) (v : Option Value) (S : State) : Prop :=
  ∃ T : State, Stand p l e R s m args below meth c T [] 0 0 ∧ T.heap = h ∧ ∀ fs : List Frame, (∀ (f : JFrame) (acts : List Action), f.method = m → f.locked = none → f.entered = [] → (doReturn e (T.setTop f) acts v).1 = T.setFrames fs) → Steps p.tables e below S (T.setFrames fs)
section Own
variable {p : Program} {l : Launch} {e : Env} {R : Room} {s : State} {m : MethodId} {args : Array Value} {below : List Frame} {meth : Method} {c : Code} {T : State} {Z : State} {a0 : Array Value} {h : Heap} {v : Option Value}
theorem own_Fin.back {S S' : State} (k : ∀ t, Steps p.tables e below S' t → Steps p.tables e below S t) (F : own_Fin p l e R s m args below meth c h v S') : own_Fin p l e R s m args below meth c h v S := by
  obtain ⟨T, X, eT, g⟩ := F
  exact ⟨T, X, eT, fun fs hr => k _ (g fs hr)⟩
theorem own_body {y : MethodName} {bytes : ByteArray} {maxL : Nat} {rt : FieldType} {fr lo : Nat} {as : Array Value} {w : Value} (hpl : plainName y.cls = true)
    (body : ∀ (p : Program) (e : Env) (s : State) (m : MethodId) (below : List Frame) (meth : Method) (c : Code) (T : State), Stand p l e ({ frames := fr, cells := 0, slots := 0, locals := lo } : Room) s m as below meth c T [] 0 0 → T.heap = h → p.tables.exec = Jvm.exec → c.code = bytes → c.maxLocals = maxL →
      s.vm.findClass y.cls = some m.cls → meth.sig.returnType = some rt → Z.Warmed39 s.vm → own_Fin p l e ({ frames := fr, cells := 0, slots := 0, locals := lo } : Room) s m as below meth c h (some w) (T.setTop (entryFrame m as maxL))) :
    own_Pur l Z y bytes maxL (some rt) fr lo as (some w) h := by
  intro ws
  refine MetFree.of_bodySF (plainFor_of_name hpl) hisR ?_
  intro p e s m args below meth c s₁ Bd hml0 hP hK
  obtain ⟨rfl, hZ, hh⟩ := hP
  have X0 : Stand p l e ({ frames := fr, cells := 0, slots := 0, locals := lo } : Room) s m args below meth c s₁ [] 0 0 := Stand.of_body Bd
  have e0 : s₁.heap = h := by rw [← hh, Bd.state]; rfl
  obtain ⟨T, X, eT, go⟩ := body p e s m below meth c s₁ X0 e0 Bd.exec Bd.bytes hml0 (findClass_of_methodNamed Bd.named) Bd.returns hZ
  obtain ⟨fs, hr, hrun, hended, hW, hsame⟩ := X.leave (v := some w) (fun h => by rw [Bd.returns] at h; cases h)
  exact ⟨_, _, go fs hr, hrun, hended, _, _, rfl, ⟨rfl, rfl, eT⟩, ⟨_, rfl⟩, hW, hsame⟩
theorem own_callS (X : Stand p l e R s m args below meth c T [] 0 0) (hx : p.tables.exec = Jvm.exec) (hZ : Z.Warmed39 s.vm) {own : String} {index : Nat} {y : MethodName} {bytes : ByteArray} {maxL : Nat} {rt : Option FieldType} {fr lo W : Nat} {argsL rest : List Value} {w : Option Value}
    (hown : s.vm.findClass own = some m.cls) (w1 : (Jvm.Cond.methodLink own index y).before a0 Z = true) (w2 : (Jvm.Cond.static y).before a0 Z = true) (w3 : (Jvm.Cond.initialized y.cls).before a0 Z = true) (w4 : (Jvm.Cond.code y bytes maxL rt).before a0 Z = true)
    (hy : y.cls ≠ "java/lang/invoke/MethodHandle" ∧ y.cls ≠ "java/lang/invoke/VarHandle")
    (hM : own_Pur l Z y bytes maxL rt fr lo argsL.toArray w h) (eT : T.heap = h) (hf : fr + 1 ≤ R.frames) (hl : W + (maxL + 11) + lo ≤ R.locals)
    {g : JFrame} (hg : g.method = m) (hsize : g.locals.size = c.maxLocals) (hlen : ∀ sig, parseMethodDescriptor y.desc = some sig → argsL.length = sig.parameters.length)
    (hstack : g.stack = argsL.reverse ++ rest) (hW : 2 * g.monitorRoom + (rest.map fun v => v.category).sum ≤ W) (hdg : decode c.code g.pc = .ok (.invokestatic index, 3)) :
    ∃ T', Stand p l e R s m args below meth c T' [] 0 0 ∧ T'.heap = h ∧ ∀ t, Steps p.tables e below (T'.setTop { g with pc := g.pc + 3, stack := w.toList ++ rest }) t → Steps p.tables e below (T.setTop g) t := by
  obtain ⟨_, _, ⟨T1, L1, k1, n1⟩, -, X1, ⟨Lc, hQ, l1, y1, z1⟩, st⟩ := Jvm.LawKit.callS X hx hown (mvT hZ w1) (mvT hZ w2) (mvT hZ w3) (mvT hZ w4) hy (backOf (W := W) (hM []) hZ w4 w3 hf hl) hg hsize hlen hstack hW hdg (fun _ _ => ⟨rfl, eT, Nat.zero_le _, Nat.zero_le _⟩)
  dsimp only [Pt.U, Pt.locs, Pt.cells, Pt.slots] at X1 l1 y1 z1 st hQ
  subst l1 y1 z1
  obtain ⟨rfl, rfl, e1⟩ := hQ
  exact ⟨T1, X1, e1, st⟩
theorem own_callV (X : Stand p l e R s m args below meth c T [] 0 0) (hx : p.tables.exec = Jvm.exec) (hZ : Z.Warmed39 s.vm) {own C : String} {index : Nat} {y : MethodName} {bytes : ByteArray} {maxL : Nat} {rt : Option FieldType} {fr lo W : Nat} {b : Addr} {argsL rest : List Value} {w : Option Value}
    (hown : s.vm.findClass own = some m.cls) (w1 : (Jvm.Cond.methodLink own index y).before a0 Z = true) (w2 : (Jvm.Cond.declares y).before a0 Z = true) (w3 : (Jvm.Cond.selects C y y).before a0 Z = true) (w4 : (Jvm.Cond.instanceMethod y).before a0 Z = true) (w5 : (Jvm.Cond.code y bytes maxL rt).before a0 Z = true) (w6 : (Jvm.Cond.initialized y.cls).before a0 Z = true)
    (hy : y.cls ≠ "java/lang/invoke/MethodHandle" ∧ y.cls ≠ "java/lang/invoke/VarHandle")
    (hM : own_Pur l Z y bytes maxL rt fr lo (Value.ref b :: argsL).toArray w h) (eT : T.heap = h) (E : Exa Z h b C) (hf : fr + 1 ≤ R.frames) (hl : W + (maxL + 11) + lo ≤ R.locals)
    {g : JFrame} (hg : g.method = m) (hsize : g.locals.size = c.maxLocals) (hlen : ∀ sig, parseMethodDescriptor y.desc = some sig → argsL.length = sig.parameters.length)
    (hstack : g.stack = argsL.reverse ++ .ref b :: rest) (hW : 2 * g.monitorRoom + (rest.map fun v => v.category).sum ≤ W) (hdg : decode c.code g.pc = .ok (.invokevirtual index, 3)) :
    ∃ T', Stand p l e R s m args below meth c T' [] 0 0 ∧ T'.heap = h ∧ ∀ t, Steps p.tables e below (T'.setTop { g with pc := g.pc + 3, stack := w.toList ++ rest }) t → Steps p.tables e below (T.setTop g) t := by
  obtain ⟨cq, kq, qa, qb, qc⟩ := isOf (T := T) hZ eT E
  obtain ⟨_, _, ⟨T1, L1, k1, n1⟩, -, X1, ⟨Lc, hQ, l1, y1, z1⟩, st⟩ := X.virtualBack hx hown (mvT hZ w1) (mvT hZ w2) (notFace_of_selects (args := #[]) (mvT hZ w3)) (mvT hZ w3) (mvT hZ w4) hy (backOf (W := W) (hM []) hZ w5 w6 hf hl) qa qc hg hsize (Steps.refl _) hlen hstack hW hdg (fun _ _ => ⟨rfl, eT, Nat.zero_le _, Nat.zero_le _⟩)
  dsimp only [Pt.U, Pt.locs, Pt.cells, Pt.slots] at X1 l1 y1 z1 st hQ
  subst l1 y1 z1
  obtain ⟨rfl, rfl, e1⟩ := hQ
  exact ⟨T1, X1, e1, fun t k => st.trans k⟩
theorem own_callU (X : Stand p l e R s m args below meth c T [] 0 0) (hx : p.tables.exec = Jvm.exec) (hZ : Z.Warmed39 s.vm) {own C owner : String} {index : Nat} {y z : MethodName} {bytes : ByteArray} {maxL : Nat} {rt : Option FieldType} {fr lo W : Nat} {b : Addr} {argsL rest : List Value} {w : Option Value}
    (hown : s.vm.findClass own = some m.cls) (w1 : (Jvm.Cond.methodLink own index y).before a0 Z = true) (w2 : (Jvm.Cond.sameMethod y.cls owner y.name y.desc).before a0 Z = true) (w3 : (Jvm.Cond.declares ⟨owner, y.name, y.desc⟩).before a0 Z = true) (w4 : (Jvm.Cond.selects C y z).before a0 Z = true) (w5 : (Jvm.Cond.instanceMethod z).before a0 Z = true) (w6 : (Jvm.Cond.code z bytes maxL rt).before a0 Z = true) (w7 : (Jvm.Cond.initialized z.cls).before a0 Z = true)
    (hy : owner ≠ "java/lang/invoke/MethodHandle" ∧ owner ≠ "java/lang/invoke/VarHandle")
    (hM : own_Pur l Z z bytes maxL rt fr lo (Value.ref b :: argsL).toArray w h) (eT : T.heap = h) (E : Exa Z h b C) (hf : fr + 1 ≤ R.frames) (hl : W + (maxL + 11) + lo ≤ R.locals)
    {g : JFrame} (hg : g.method = m) (hsize : g.locals.size = c.maxLocals) (hlen : ∀ sig, parseMethodDescriptor y.desc = some sig → argsL.length = sig.parameters.length)
    (hstack : g.stack = argsL.reverse ++ .ref b :: rest) (hW : 2 * g.monitorRoom + (rest.map fun v => v.category).sum ≤ W) (hdg : decode c.code g.pc = .ok (.invokevirtual index, 3)) :
    ∃ T', Stand p l e R s m args below meth c T' [] 0 0 ∧ T'.heap = h ∧ ∀ t, Steps p.tables e below (T'.setTop { g with pc := g.pc + 3, stack := w.toList ++ rest }) t → Steps p.tables e below (T.setTop g) t := by
  obtain ⟨cq, kq, qa, qb, qc⟩ := isOf (T := T) hZ eT E
  obtain ⟨_, _, ⟨T1, L1, k1, n1⟩, -, X1, ⟨Lc, hQ, l1, y1, z1⟩, st⟩ := X.virtualBackUp hx hown (mvT hZ w1) (mvT hZ w2) (mvT hZ w3) hy (mvT hZ w4) (mvT hZ w5) (backOf (W := W) (hM []) hZ w6 w7 hf hl) qa qc hg hsize (Steps.refl _) hlen hstack hW hdg (fun _ _ => ⟨rfl, eT, Nat.zero_le _, Nat.zero_le _⟩)
  dsimp only [Pt.U, Pt.locs, Pt.cells, Pt.slots] at X1 l1 y1 z1 st hQ
  subst l1 y1 z1
  obtain ⟨rfl, rfl, e1⟩ := hQ
  exact ⟨T1, X1, e1, fun t k => st.trans k⟩
theorem own_ne {a b : Addr} {C n d : String} {x y : Value} (F : Fld Z h a C n d x) (G : Fld Z h b C n d y) (hn : x ≠ y) : a ≠ b := fun q => by
  subst q
  obtain ⟨c1, f1, k1, i1, g1, h1, h2, -, -, -, -, h7⟩ := F
  obtain ⟨c2, f2, k2, i2, g2, j1, j2, -, -, -, -, j7⟩ := G
  cases h1.symm.trans j1
  cases h2.symm.trans j2
  exact hn (Option.some.inj (h7.symm.trans j7))
theorem own_acmp_same {b : Addr} : XT.acmp .eq (.ref b) (.ref b) = true ∧ XT.acmp .ne (.ref b) (.ref b) = false := by simp [XT.acmp]
theorem own_acmp_diff {a b : Addr} (hn : a ≠ b) : XT.acmp .eq (.ref a) (.ref b) = false ∧ XT.acmp .ne (.ref a) (.ref b) = true := by simp [XT.acmp, hn]
theorem own_sta {C n d : String} {a : Addr} (ev : (Term.static C n d).eval args Z none [] Z = some (.ref a)) (wi : (Jvm.Cond.initialized C).before args Z = true) (wl : (Jvm.Cond.laysStatic C n d).before args Z = true) : Sta Z Z.heap C n d (.ref a) := Sta.start ev (Or.inr ⟨wi, wl⟩)
theorem own_fldE {t : Term} {C n d : String} {a : Addr} {x : Value} (ev : t.eval args Z none [] Z = some (.ref a)) (e2 : (Term.field t C n d).eval args Z none [] Z = some x) : Fld Z Z.heap a C n d x := Fld.start ((fld_at ev).symm.trans e2)
theorem own_fldI {t : Term} {C n d : String} {a : Addr} {k : Int32} (ev : t.eval args Z none [] Z = some (.ref a)) (hN : (Jvm.Cond.eq (.field t C n d) (.int k)).value args Z none Z [] = some true) : Fld Z Z.heap a C n d (.int k) := by
  obtain ⟨x, y, g1, g2, k1, k2⟩ := cmp_v (Or.inl hN)
  obtain rfl : Value.int k = y := Option.some.inj ((Term.int_eval k).symm.trans g2)
  obtain ⟨z, rfl⟩ := k2
  obtain rfl : z = k := gotT (Jvm.Cond.eq_ints g1 g2) hN
  exact own_fldE ev g1
theorem own_fldL {t : Term} {C n d : String} {a : Addr} {k : Int64} (ev : t.eval args Z none [] Z = some (.ref a)) (hN : (Jvm.Cond.eq (.field t C n d) (.long k)).value args Z none Z [] = some true) : Fld Z Z.heap a C n d (.long k) := by
  obtain ⟨x, y, g1, g2, k1, k2⟩ := cmp_v (Or.inl hN)
  have g3 : (Term.long k).eval args Z none [] Z = some (.long k) := rfl
  obtain rfl : Value.long k = y := Option.some.inj (g3.symm.trans g2)
  obtain ⟨z, rfl⟩ := k2
  obtain rfl : z = k := gotT (eq_L g1 g2) hN
  exact own_fldE ev g1
theorem own_fldR {t u : Term} {C n d : String} {a b : Addr} (ev : t.eval args Z none [] Z = some (.ref a)) (eu : u.eval args Z none [] Z = some (.ref b)) (hN : (Jvm.Cond.eq (.field t C n d) u).value args Z none Z [] = some true) : Fld Z Z.heap a C n d (.ref b) := by
  obtain ⟨x, y, g1, g2, k1, k2⟩ := cmp_v (Or.inl hN)
  obtain rfl : Value.ref b = y := Option.some.inj (eu.symm.trans g2)
  have hx : x.isRef = true := k2.2
  obtain rfl : x = Value.ref b := gotT (eq_R g1 eu hx rfl) hN
  exact own_fldE ev g1
end Own

/-! 1. What is known of the constants -/
def own_Facts (Z : State) (h0 : Heap) (a_CUBIC_METRES a_HOT_WATER a_HUNDREDS_OF_CUBIC_FEET b_CUBIC_METRES_cubicMetres b_HUNDREDS_OF_CUBIC_FEET_cubicMetres : Addr) : Prop :=
  (Sta Z h0 "com/example/meterwright/meterwright/gas/GasUnit" "CUBIC_METRES" "Lcom/example/meterwright/meterwright/gas/GasUnit;" (.ref a_CUBIC_METRES)) ∧
  (Exa Z h0 a_CUBIC_METRES "com/example/meterwright/meterwright/gas/GasUnit") ∧
  (Sta Z h0 "com/example/meterwright/meterwright/gas/GasUnit" "HOT_WATER" "Lcom/example/meterwright/meterwright/gas/GasUnit;" (.ref a_HOT_WATER)) ∧
  (Exa Z h0 a_HOT_WATER "com/example/meterwright/meterwright/gas/GasUnit") ∧
  (Sta Z h0 "com/example/meterwright/meterwright/gas/GasUnit" "HUNDREDS_OF_CUBIC_FEET" "Lcom/example/meterwright/meterwright/gas/GasUnit;" (.ref a_HUNDREDS_OF_CUBIC_FEET)) ∧
  (Exa Z h0 a_HUNDREDS_OF_CUBIC_FEET "com/example/meterwright/meterwright/gas/GasUnit") ∧
  (Fld Z h0 a_CUBIC_METRES "com/example/meterwright/meterwright/gas/GasUnit" "cubicMetres" "Ljava/math/BigDecimal;" (.ref b_CUBIC_METRES_cubicMetres)) ∧
  (Fld Z h0 a_HOT_WATER "com/example/meterwright/meterwright/gas/GasUnit" "cubicMetres" "Ljava/math/BigDecimal;" .null) ∧
  (Fld Z h0 a_HUNDREDS_OF_CUBIC_FEET "com/example/meterwright/meterwright/gas/GasUnit" "cubicMetres" "Ljava/math/BigDecimal;" (.ref b_HUNDREDS_OF_CUBIC_FEET_cubicMetres))
theorem own_pn0 : plainName "com/example/meterwright/meterwright/gas/GasUnit" = true := by first | (simp [plainName, overriddenIn]; done) | decide +kernel
theorem own_ef_d1 (m : MethodId) (x0 : Addr) : entryFrame m #[(.ref x0)] 1 = mkF m 0 #[.val (.ref x0)] [] := by first | (simp [entryFrame, mkF, argsToLocals, Value.category]; done) | rfl
theorem own_d1_0 : decode prog_30_method_5_code 0 = .ok (.aload_n 0, 1) := by decide +kernel
theorem own_d1_1 : decode prog_30_method_5_code 1 = .ok (.getfield 36, 3) := by decide +kernel
theorem own_d1_4 : decode prog_30_method_5_code 4 = .ok (.ifnull 7, 3) := by decide +kernel
theorem own_d1_7 : decode prog_30_method_5_code 7 = .ok (.iconst 1, 1) := by decide +kernel
theorem own_d1_8 : decode prog_30_method_5_code 8 = .ok (.goto 4, 3) := by decide +kernel
theorem own_d1_12 : decode prog_30_method_5_code 12 = .ok (.ireturn, 1) := by decide +kernel
set_option maxRecDepth 65536 in
set_option maxHeartbeats 40000000 in
theorem own_r_a_CUBIC_METRES (l : Launch) (Z : State) (a0 : Array Value) (hw : ∀ d ∈ tables_1, d.before a0 Z = true) (h0 : Heap) {a_CUBIC_METRES a_HOT_WATER a_HUNDREDS_OF_CUBIC_FEET b_CUBIC_METRES_cubicMetres b_HUNDREDS_OF_CUBIC_FEET_cubicMetres : Addr} (H : own_Facts Z h0 a_CUBIC_METRES a_HOT_WATER a_HUNDREDS_OF_CUBIC_FEET b_CUBIC_METRES_cubicMetres b_HUNDREDS_OF_CUBIC_FEET_cubicMetres) :
    own_Pur l Z (⟨"com/example/meterwright/meterwright/gas/GasUnit", "hasGasVolume", "()Z"⟩ : MethodName) prog_30_method_5_code 1 (some .boolean) 0 0 #[(.ref a_CUBIC_METRES)] (some (.int (1 : Int32))) h0 := by
  have H0 := H
  obtain ⟨S_CUBIC_METRES, X_CUBIC_METRES, S_HOT_WATER, X_HOT_WATER, S_HUNDREDS_OF_CUBIC_FEET, X_HUNDREDS_OF_CUBIC_FEET, F_CUBIC_METRES_cubicMetres, F_HOT_WATER_cubicMetres, F_HUNDREDS_OF_CUBIC_FEET_cubicMetres⟩ := H0
  refine own_body own_pn0 ?_
  intro p e s m below meth c T0 X0 e0 hx hby hml hown hret hZ
  have hown : s.vm.findClass "com/example/meterwright/meterwright/gas/GasUnit" = some m.cls := hown
  rw [own_ef_d1 m a_CUBIC_METRES]
  refine own_Fin.back (S' := T0.setTop (mkF m 1 #[.val (.ref a_CUBIC_METRES)] [(.ref a_CUBIC_METRES)])) (fun t k => XS.aloadN X0.here hx rfl (hb hby own_d1_0) rfl rfl k) ?_
  obtain ⟨T1, X1, e1, k1⟩ := getF X0 hx hZ hown (host := "") (Or.inl (hw _ (List.mem_of_getElem? (i := 9) rfl))) Via.refl e0 F_CUBIC_METRES_cubicMetres (g := (mkF m 1 #[.val (.ref a_CUBIC_METRES)] [(.ref a_CUBIC_METRES)])) rfl rfl (hb hby own_d1_1)
  refine own_Fin.back (S' := T1.setTop (mkF m 4 #[.val (.ref a_CUBIC_METRES)] [(.ref b_CUBIC_METRES_cubicMetres)])) k1 ?_
  refine own_Fin.back (S' := T1.setTop (mkF m 7 #[.val (.ref a_CUBIC_METRES)] [])) (fun t k => XS.ifnullNo X1.here hx rfl (hb hby own_d1_4) rfl k) ?_
  refine own_Fin.back (S' := T1.setTop (mkF m 8 #[.val (.ref a_CUBIC_METRES)] [(.int (1 : Int32))])) (fun t k => XS.iconst X1.here hx rfl (hb hby own_d1_7) k) ?_
  refine own_Fin.back (S' := T1.setTop (mkF m 12 #[.val (.ref a_CUBIC_METRES)] [(.int (1 : Int32))])) (fun t k => XS.goto X1.here hx rfl (pc0 := 8) (pc' := 12) rfl (hb hby own_d1_8) (by decide) (by decide) k) ?_
  exact ⟨T1, X1, e1, fun fs hr => retOut X1 hx (w := (.int (1 : Int32))) (t := .boolean) hret (by first | rfl | decide) (Or.inl ⟨rfl, Or.inr (Or.inl rfl), _, rfl⟩) (hb hby own_d1_12) hr⟩
set_option maxRecDepth 65536 in
set_option maxHeartbeats 40000000 in
theorem own_r_a_HUNDREDS_OF_CUBIC_FEET (l : Launch) (Z : State) (a0 : Array Value) (hw : ∀ d ∈ tables_1, d.before a0 Z = true) (h0 : Heap) {a_CUBIC_METRES a_HOT_WATER a_HUNDREDS_OF_CUBIC_FEET b_CUBIC_METRES_cubicMetres b_HUNDREDS_OF_CUBIC_FEET_cubicMetres : Addr} (H : own_Facts Z h0 a_CUBIC_METRES a_HOT_WATER a_HUNDREDS_OF_CUBIC_FEET b_CUBIC_METRES_cubicMetres b_HUNDREDS_OF_CUBIC_FEET_cubicMetres) :
    own_Pur l Z (⟨"com/example/meterwright/meterwright/gas/GasUnit", "hasGasVolume", "()Z"⟩ : MethodName) prog_30_method_5_code 1 (some .boolean) 0 0 #[(.ref a_HUNDREDS_OF_CUBIC_FEET)] (some (.int (1 : Int32))) h0 := by
  have H0 := H
  obtain ⟨S_CUBIC_METRES, X_CUBIC_METRES, S_HOT_WATER, X_HOT_WATER, S_HUNDREDS_OF_CUBIC_FEET, X_HUNDREDS_OF_CUBIC_FEET, F_CUBIC_METRES_cubicMetres, F_HOT_WATER_cubicMetres, F_HUNDREDS_OF_CUBIC_FEET_cubicMetres⟩ := H0
  refine own_body own_pn0 ?_
  intro p e s m below meth c T0 X0 e0 hx hby hml hown hret hZ
  have hown : s.vm.findClass "com/example/meterwright/meterwright/gas/GasUnit" = some m.cls := hown
  rw [own_ef_d1 m a_HUNDREDS_OF_CUBIC_FEET]
  refine own_Fin.back (S' := T0.setTop (mkF m 1 #[.val (.ref a_HUNDREDS_OF_CUBIC_FEET)] [(.ref a_HUNDREDS_OF_CUBIC_FEET)])) (fun t k => XS.aloadN X0.here hx rfl (hb hby own_d1_0) rfl rfl k) ?_
  obtain ⟨T2, X2, e2, k2⟩ := getF X0 hx hZ hown (host := "") (Or.inl (hw _ (List.mem_of_getElem? (i := 9) rfl))) Via.refl e0 F_HUNDREDS_OF_CUBIC_FEET_cubicMetres (g := (mkF m 1 #[.val (.ref a_HUNDREDS_OF_CUBIC_FEET)] [(.ref a_HUNDREDS_OF_CUBIC_FEET)])) rfl rfl (hb hby own_d1_1)
  refine own_Fin.back (S' := T2.setTop (mkF m 4 #[.val (.ref a_HUNDREDS_OF_CUBIC_FEET)] [(.ref b_HUNDREDS_OF_CUBIC_FEET_cubicMetres)])) k2 ?_
  refine own_Fin.back (S' := T2.setTop (mkF m 7 #[.val (.ref a_HUNDREDS_OF_CUBIC_FEET)] [])) (fun t k => XS.ifnullNo X2.here hx rfl (hb hby own_d1_4) rfl k) ?_
  refine own_Fin.back (S' := T2.setTop (mkF m 8 #[.val (.ref a_HUNDREDS_OF_CUBIC_FEET)] [(.int (1 : Int32))])) (fun t k => XS.iconst X2.here hx rfl (hb hby own_d1_7) k) ?_
  refine own_Fin.back (S' := T2.setTop (mkF m 12 #[.val (.ref a_HUNDREDS_OF_CUBIC_FEET)] [(.int (1 : Int32))])) (fun t k => XS.goto X2.here hx rfl (pc0 := 8) (pc' := 12) rfl (hb hby own_d1_8) (by decide) (by decide) k) ?_
  exact ⟨T2, X2, e2, fun fs hr => retOut X2 hx (w := (.int (1 : Int32))) (t := .boolean) hret (by first | rfl | decide) (Or.inl ⟨rfl, Or.inr (Or.inl rfl), _, rfl⟩) (hb hby own_d1_12) hr⟩
theorem own_d1_11 : decode prog_30_method_5_code 11 = .ok (.iconst 0, 1) := by decide +kernel
set_option maxRecDepth 65536 in
set_option maxHeartbeats 40000000 in
theorem own_r_a_HOT_WATER (l : Launch) (Z : State) (a0 : Array Value) (hw : ∀ d ∈ tables_1, d.before a0 Z = true) (h0 : Heap) {a_CUBIC_METRES a_HOT_WATER a_HUNDREDS_OF_CUBIC_FEET b_CUBIC_METRES_cubicMetres b_HUNDREDS_OF_CUBIC_FEET_cubicMetres : Addr} (H : own_Facts Z h0 a_CUBIC_METRES a_HOT_WATER a_HUNDREDS_OF_CUBIC_FEET b_CUBIC_METRES_cubicMetres b_HUNDREDS_OF_CUBIC_FEET_cubicMetres) :
    own_Pur l Z (⟨"com/example/meterwright/meterwright/gas/GasUnit", "hasGasVolume", "()Z"⟩ : MethodName) prog_30_method_5_code 1 (some .boolean) 0 0 #[(.ref a_HOT_WATER)] (some (.int (0 : Int32))) h0 := by
  have H0 := H
  obtain ⟨S_CUBIC_METRES, X_CUBIC_METRES, S_HOT_WATER, X_HOT_WATER, S_HUNDREDS_OF_CUBIC_FEET, X_HUNDREDS_OF_CUBIC_FEET, F_CUBIC_METRES_cubicMetres, F_HOT_WATER_cubicMetres, F_HUNDREDS_OF_CUBIC_FEET_cubicMetres⟩ := H0
  refine own_body own_pn0 ?_
  intro p e s m below meth c T0 X0 e0 hx hby hml hown hret hZ
  have hown : s.vm.findClass "com/example/meterwright/meterwright/gas/GasUnit" = some m.cls := hown
  rw [own_ef_d1 m a_HOT_WATER]
  refine own_Fin.back (S' := T0.setTop (mkF m 1 #[.val (.ref a_HOT_WATER)] [(.ref a_HOT_WATER)])) (fun t k => XS.aloadN X0.here hx rfl (hb hby own_d1_0) rfl rfl k) ?_
  obtain ⟨T3, X3, e3, k3⟩ := getF X0 hx hZ hown (host := "") (Or.inl (hw _ (List.mem_of_getElem? (i := 9) rfl))) Via.refl e0 F_HOT_WATER_cubicMetres (g := (mkF m 1 #[.val (.ref a_HOT_WATER)] [(.ref a_HOT_WATER)])) rfl rfl (hb hby own_d1_1)
  refine own_Fin.back (S' := T3.setTop (mkF m 4 #[.val (.ref a_HOT_WATER)] [.null])) k3 ?_
  refine own_Fin.back (S' := T3.setTop (mkF m 11 #[.val (.ref a_HOT_WATER)] [])) (fun t k => XS.ifnullYes X3.here hx rfl (pc0 := 4) (pc' := 11) rfl (hb hby own_d1_4) rfl (by decide) (by decide) k) ?_
  refine own_Fin.back (S' := T3.setTop (mkF m 12 #[.val (.ref a_HOT_WATER)] [(.int (0 : Int32))])) (fun t k => XS.iconst X3.here hx rfl (hb hby own_d1_11) k) ?_
  exact ⟨T3, X3, e3, fun fs hr => retOut X3 hx (w := (.int (0 : Int32))) (t := .boolean) hret (by first | rfl | decide) (Or.inl ⟨rfl, Or.inr (Or.inl rfl), _, rfl⟩) (hb hby own_d1_12) hr⟩
theorem own_pn1 : plainName "com/example/meterwright/meterwright/gas/GasUnitHasGasVolumePinLaw" = true := by first | (simp [plainName, overriddenIn]; done) | decide +kernel
theorem own_ef_law (m : MethodId) (x0 : Int32) : entryFrame m #[(.int x0)] maxLocals = mkF m 0 #[.val (.int x0), .unset, .unset, .unset] [] := by first | (simp [entryFrame, mkF, argsToLocals, Value.category, maxLocals]; done) | rfl
set_option maxRecDepth 65536 in
set_option maxHeartbeats 40000000 in
theorem own_law (l : Launch) (Z : State) (a0 : Array Value) (hw : ∀ d ∈ tables_1, d.before a0 Z = true) (h0 : Heap) {a_CUBIC_METRES a_HOT_WATER a_HUNDREDS_OF_CUBIC_FEET b_CUBIC_METRES_cubicMetres b_HUNDREDS_OF_CUBIC_FEET_cubicMetres : Addr} (H : own_Facts Z h0 a_CUBIC_METRES a_HOT_WATER a_HUNDREDS_OF_CUBIC_FEET b_CUBIC_METRES_cubicMetres b_HUNDREDS_OF_CUBIC_FEET_cubicMetres) (p0 : Int32) :
    own_Pur l Z x code maxLocals (some .boolean) 4 96 #[(.int p0)] (some (.int (1 : Int32))) h0 := by
  have H0 := H
  obtain ⟨S_CUBIC_METRES, X_CUBIC_METRES, S_HOT_WATER, X_HOT_WATER, S_HUNDREDS_OF_CUBIC_FEET, X_HUNDREDS_OF_CUBIC_FEET, F_CUBIC_METRES_cubicMetres, F_HOT_WATER_cubicMetres, F_HUNDREDS_OF_CUBIC_FEET_cubicMetres⟩ := H0
  refine own_body own_pn1 ?_
  intro p e s m below meth c T0 X0 e0 hx hby hml hown hret hZ
  have hown : s.vm.findClass "com/example/meterwright/meterwright/gas/GasUnitHasGasVolumePinLaw" = some m.cls := hown
  rw [own_ef_law m p0]
  refine own_Fin.back (S' := T0.setTop (mkF m 1 #[.val (.int p0), .unset, .unset, .unset] [(.int p0)])) (fun t k => XS.iloadN X0.here hx rfl (hb hby at_0) rfl k) ?_
  refine own_Fin.back (S' := T0.setTop (mkF m 3 #[.val (.int p0), .unset, .unset, .unset] [(.int (2147483647 : Int32)), (.int p0)])) (fun t k => X0.ldcI hx hown (mvT hZ (hw _ (List.mem_of_getElem? (i := 0) rfl))) rfl (hb hby at_1) k) ?_
  refine own_Fin.back (S' := T0.setTop (mkF m 4 #[.val (.int p0), .unset, .unset, .unset] [(.int (p0 &&& (2147483647 : Int32)))])) (fun t k => XS.iand X0.here hx rfl (hb hby at_3) rfl k) ?_
  refine own_Fin.back (S' := T0.setTop (mkF m 5 #[.val (.int p0), .unset, .unset, .unset] [(.int (3 : Int32)), (.int (p0 &&& (2147483647 : Int32)))])) (fun t k => XS.iconst X0.here hx rfl (hb hby at_4) k) ?_
  refine own_Fin.back (S' := T0.setTop (mkF m 6 #[.val (.int p0), .unset, .unset, .unset] [(.int ((p0 &&& (2147483647 : Int32)) % (3 : Int32)))])) (fun t k => iremM X0 hx rfl (hb hby at_5) rfl (by decide) k) ?_
  refine own_Fin.back (S' := T0.setTop (mkF m 7 #[.val (.int p0), .val (.int ((p0 &&& (2147483647 : Int32)) % (3 : Int32))), .unset, .unset] [])) (fun t k => XS.istoreN X0.here hx rfl (hb hby at_6) rfl (l' := #[.val (.int p0), .val (.int ((p0 &&& (2147483647 : Int32)) % (3 : Int32))), .unset, .unset]) rfl k) ?_
  refine own_Fin.back (S' := T0.setTop (mkF m 8 #[.val (.int p0), .val (.int ((p0 &&& (2147483647 : Int32)) % (3 : Int32))), .unset, .unset] [(.int ((p0 &&& (2147483647 : Int32)) % (3 : Int32)))])) (fun t k => XS.iloadN X0.here hx rfl (hb hby at_7) rfl k) ?_
  rcases hc4 : ifCond.holds .ne ((p0 &&& (2147483647 : Int32)) % (3 : Int32)) with _ | _
  · refine own_Fin.back (S' := T0.setTop (mkF m 11 #[.val (.int p0), .val (.int ((p0 &&& (2147483647 : Int32)) % (3 : Int32))), .unset, .unset] [])) (fun t k => XS.ifNo X0.here hx rfl (hb hby at_8) rfl hc4 k) ?_
    obtain ⟨T5, X5, e5, k5⟩ := getS X0 hx hZ hown (host := "") (hw _ (List.mem_of_getElem? (i := 1) rfl)) Via.refl e0 S_CUBIC_METRES (g := (mkF m 11 #[.val (.int p0), .val (.int ((p0 &&& (2147483647 : Int32)) % (3 : Int32))), .unset, .unset] [])) rfl (hb hby at_11)
    refine own_Fin.back (S' := T5.setTop (mkF m 14 #[.val (.int p0), .val (.int ((p0 &&& (2147483647 : Int32)) % (3 : Int32))), .unset, .unset] [(.ref a_CUBIC_METRES)])) k5 ?_
    refine own_Fin.back (S' := T5.setTop (mkF m 15 #[.val (.int p0), .val (.int ((p0 &&& (2147483647 : Int32)) % (3 : Int32))), .val (.ref a_CUBIC_METRES), .unset] [])) (fun t k => XS.astoreN X5.here hx rfl (hb hby at_14) rfl rfl (l' := #[.val (.int p0), .val (.int ((p0 &&& (2147483647 : Int32)) % (3 : Int32))), .val (.ref a_CUBIC_METRES), .unset]) rfl k) ?_
    refine own_Fin.back (S' := T5.setTop (mkF m 16 #[.val (.int p0), .val (.int ((p0 &&& (2147483647 : Int32)) % (3 : Int32))), .val (.ref a_CUBIC_METRES), .unset] [(.int (1 : Int32))])) (fun t k => XS.iconst X5.here hx rfl (hb hby at_15) k) ?_
    refine own_Fin.back (S' := T5.setTop (mkF m 17 #[.val (.int p0), .val (.int ((p0 &&& (2147483647 : Int32)) % (3 : Int32))), .val (.ref a_CUBIC_METRES), .val (.int (1 : Int32))] [])) (fun t k => XS.istoreN X5.here hx rfl (hb hby at_16) rfl (l' := #[.val (.int p0), .val (.int ((p0 &&& (2147483647 : Int32)) % (3 : Int32))), .val (.ref a_CUBIC_METRES), .val (.int (1 : Int32))]) rfl k) ?_
    refine own_Fin.back (S' := T5.setTop (mkF m 40 #[.val (.int p0), .val (.int ((p0 &&& (2147483647 : Int32)) % (3 : Int32))), .val (.ref a_CUBIC_METRES), .val (.int (1 : Int32))] [])) (fun t k => XS.goto X5.here hx rfl (pc0 := 17) (pc' := 40) rfl (hb hby at_17) (by decide) (by decide) k) ?_
    refine own_Fin.back (S' := T5.setTop (mkF m 41 #[.val (.int p0), .val (.int ((p0 &&& (2147483647 : Int32)) % (3 : Int32))), .val (.ref a_CUBIC_METRES), .val (.int (1 : Int32))] [(.ref a_CUBIC_METRES)])) (fun t k => XS.aloadN X5.here hx rfl (hb hby at_40) rfl rfl k) ?_
    obtain ⟨T6, X6, e6, k6⟩ := own_callV X5 hx hZ (C := "com/example/meterwright/meterwright/gas/GasUnit") (y := (⟨"com/example/meterwright/meterwright/gas/GasUnit", "hasGasVolume", "()Z"⟩ : MethodName)) (W := 0) hown (hw _ (List.mem_of_getElem? (i := 4) rfl)) (hw _ (List.mem_of_getElem? (i := 5) rfl)) (hw _ (List.mem_of_getElem? (i := 7) rfl)) (hw _ (List.mem_of_getElem? (i := 6) rfl)) (hw _ (List.mem_of_getElem? (i := 8) rfl)) (hw _ (List.mem_of_getElem? (i := 2) rfl)) (by decide) (own_r_a_CUBIC_METRES l Z a0 hw h0 H) e5 X_CUBIC_METRES (by decide) (by decide) (g := (mkF m 41 #[.val (.int p0), .val (.int ((p0 &&& (2147483647 : Int32)) % (3 : Int32))), .val (.ref a_CUBIC_METRES), .val (.int (1 : Int32))] [(.ref a_CUBIC_METRES)])) rfl (by rw [hml]; rfl) (argsL := []) (rest := []) (lenOf (show parseMethodDescriptor "()Z" = some ⟨[], some .boolean⟩ by decide +kernel) rfl) rfl (by show 2 * 0 + _ ≤ _; exact Nat.le_of_eq rfl) (hb hby at_41)
    refine own_Fin.back (S' := T6.setTop (mkF m 44 #[.val (.int p0), .val (.int ((p0 &&& (2147483647 : Int32)) % (3 : Int32))), .val (.ref a_CUBIC_METRES), .val (.int (1 : Int32))] [(.int (1 : Int32))])) k6 ?_
    refine own_Fin.back (S' := T6.setTop (mkF m 45 #[.val (.int p0), .val (.int ((p0 &&& (2147483647 : Int32)) % (3 : Int32))), .val (.ref a_CUBIC_METRES), .val (.int (1 : Int32))] [(.int (1 : Int32)), (.int (1 : Int32))])) (fun t k => XS.iloadN X6.here hx rfl (hb hby at_44) rfl k) ?_
    refine own_Fin.back (S' := T6.setTop (mkF m 48 #[.val (.int p0), .val (.int ((p0 &&& (2147483647 : Int32)) % (3 : Int32))), .val (.ref a_CUBIC_METRES), .val (.int (1 : Int32))] [])) (fun t k => XS.icmpNo X6.here hx rfl (hb hby at_45) rfl (by decide) k) ?_
    refine own_Fin.back (S' := T6.setTop (mkF m 49 #[.val (.int p0), .val (.int ((p0 &&& (2147483647 : Int32)) % (3 : Int32))), .val (.ref a_CUBIC_METRES), .val (.int (1 : Int32))] [(.int (1 : Int32))])) (fun t k => XS.iconst X6.here hx rfl (hb hby at_48) k) ?_
    refine own_Fin.back (S' := T6.setTop (mkF m 53 #[.val (.int p0), .val (.int ((p0 &&& (2147483647 : Int32)) % (3 : Int32))), .val (.ref a_CUBIC_METRES), .val (.int (1 : Int32))] [(.int (1 : Int32))])) (fun t k => XS.goto X6.here hx rfl (pc0 := 49) (pc' := 53) rfl (hb hby at_49) (by decide) (by decide) k) ?_
    exact ⟨T6, X6, e6, fun fs hr => retOut X6 hx (w := (.int (1 : Int32))) (t := .boolean) hret (by first | rfl | decide) (Or.inl ⟨rfl, Or.inr (Or.inl rfl), _, rfl⟩) (hb hby at_53) hr⟩
  · refine own_Fin.back (S' := T0.setTop (mkF m 20 #[.val (.int p0), .val (.int ((p0 &&& (2147483647 : Int32)) % (3 : Int32))), .unset, .unset] [])) (fun t k => XS.ifYes X0.here hx rfl (pc0 := 8) (pc' := 20) rfl (hb hby at_8) rfl hc4 (by decide) (by decide) k) ?_
    refine own_Fin.back (S' := T0.setTop (mkF m 21 #[.val (.int p0), .val (.int ((p0 &&& (2147483647 : Int32)) % (3 : Int32))), .unset, .unset] [(.int ((p0 &&& (2147483647 : Int32)) % (3 : Int32)))])) (fun t k => XS.iloadN X0.here hx rfl (hb hby at_20) rfl k) ?_
    refine own_Fin.back (S' := T0.setTop (mkF m 22 #[.val (.int p0), .val (.int ((p0 &&& (2147483647 : Int32)) % (3 : Int32))), .unset, .unset] [(.int (1 : Int32)), (.int ((p0 &&& (2147483647 : Int32)) % (3 : Int32)))])) (fun t k => XS.iconst X0.here hx rfl (hb hby at_21) k) ?_
    rcases hc7 : if_icmp.holds .ne ((p0 &&& (2147483647 : Int32)) % (3 : Int32)) (1 : Int32) with _ | _
    · refine own_Fin.back (S' := T0.setTop (mkF m 25 #[.val (.int p0), .val (.int ((p0 &&& (2147483647 : Int32)) % (3 : Int32))), .unset, .unset] [])) (fun t k => XS.icmpNo X0.here hx rfl (hb hby at_22) rfl hc7 k) ?_
      obtain ⟨T8, X8, e8, k8⟩ := getS X0 hx hZ hown (host := "") (hw _ (List.mem_of_getElem? (i := 13) rfl)) Via.refl e0 S_HUNDREDS_OF_CUBIC_FEET (g := (mkF m 25 #[.val (.int p0), .val (.int ((p0 &&& (2147483647 : Int32)) % (3 : Int32))), .unset, .unset] [])) rfl (hb hby at_25)
      refine own_Fin.back (S' := T8.setTop (mkF m 28 #[.val (.int p0), .val (.int ((p0 &&& (2147483647 : Int32)) % (3 : Int32))), .unset, .unset] [(.ref a_HUNDREDS_OF_CUBIC_FEET)])) k8 ?_
      refine own_Fin.back (S' := T8.setTop (mkF m 29 #[.val (.int p0), .val (.int ((p0 &&& (2147483647 : Int32)) % (3 : Int32))), .val (.ref a_HUNDREDS_OF_CUBIC_FEET), .unset] [])) (fun t k => XS.astoreN X8.here hx rfl (hb hby at_28) rfl rfl (l' := #[.val (.int p0), .val (.int ((p0 &&& (2147483647 : Int32)) % (3 : Int32))), .val (.ref a_HUNDREDS_OF_CUBIC_FEET), .unset]) rfl k) ?_
      refine own_Fin.back (S' := T8.setTop (mkF m 30 #[.val (.int p0), .val (.int ((p0 &&& (2147483647 : Int32)) % (3 : Int32))), .val (.ref a_HUNDREDS_OF_CUBIC_FEET), .unset] [(.int (1 : Int32))])) (fun t k => XS.iconst X8.here hx rfl (hb hby at_29) k) ?_
      refine own_Fin.back (S' := T8.setTop (mkF m 31 #[.val (.int p0), .val (.int ((p0 &&& (2147483647 : Int32)) % (3 : Int32))), .val (.ref a_HUNDREDS_OF_CUBIC_FEET), .val (.int (1 : Int32))] [])) (fun t k => XS.istoreN X8.here hx rfl (hb hby at_30) rfl (l' := #[.val (.int p0), .val (.int ((p0 &&& (2147483647 : Int32)) % (3 : Int32))), .val (.ref a_HUNDREDS_OF_CUBIC_FEET), .val (.int (1 : Int32))]) rfl k) ?_
      refine own_Fin.back (S' := T8.setTop (mkF m 40 #[.val (.int p0), .val (.int ((p0 &&& (2147483647 : Int32)) % (3 : Int32))), .val (.ref a_HUNDREDS_OF_CUBIC_FEET), .val (.int (1 : Int32))] [])) (fun t k => XS.goto X8.here hx rfl (pc0 := 31) (pc' := 40) rfl (hb hby at_31) (by decide) (by decide) k) ?_
      refine own_Fin.back (S' := T8.setTop (mkF m 41 #[.val (.int p0), .val (.int ((p0 &&& (2147483647 : Int32)) % (3 : Int32))), .val (.ref a_HUNDREDS_OF_CUBIC_FEET), .val (.int (1 : Int32))] [(.ref a_HUNDREDS_OF_CUBIC_FEET)])) (fun t k => XS.aloadN X8.here hx rfl (hb hby at_40) rfl rfl k) ?_
      obtain ⟨T9, X9, e9, k9⟩ := own_callV X8 hx hZ (C := "com/example/meterwright/meterwright/gas/GasUnit") (y := (⟨"com/example/meterwright/meterwright/gas/GasUnit", "hasGasVolume", "()Z"⟩ : MethodName)) (W := 0) hown (hw _ (List.mem_of_getElem? (i := 4) rfl)) (hw _ (List.mem_of_getElem? (i := 5) rfl)) (hw _ (List.mem_of_getElem? (i := 7) rfl)) (hw _ (List.mem_of_getElem? (i := 6) rfl)) (hw _ (List.mem_of_getElem? (i := 8) rfl)) (hw _ (List.mem_of_getElem? (i := 2) rfl)) (by decide) (own_r_a_HUNDREDS_OF_CUBIC_FEET l Z a0 hw h0 H) e8 X_HUNDREDS_OF_CUBIC_FEET (by decide) (by decide) (g := (mkF m 41 #[.val (.int p0), .val (.int ((p0 &&& (2147483647 : Int32)) % (3 : Int32))), .val (.ref a_HUNDREDS_OF_CUBIC_FEET), .val (.int (1 : Int32))] [(.ref a_HUNDREDS_OF_CUBIC_FEET)])) rfl (by rw [hml]; rfl) (argsL := []) (rest := []) (lenOf (show parseMethodDescriptor "()Z" = some ⟨[], some .boolean⟩ by decide +kernel) rfl) rfl (by show 2 * 0 + _ ≤ _; exact Nat.le_of_eq rfl) (hb hby at_41)
      refine own_Fin.back (S' := T9.setTop (mkF m 44 #[.val (.int p0), .val (.int ((p0 &&& (2147483647 : Int32)) % (3 : Int32))), .val (.ref a_HUNDREDS_OF_CUBIC_FEET), .val (.int (1 : Int32))] [(.int (1 : Int32))])) k9 ?_
      refine own_Fin.back (S' := T9.setTop (mkF m 45 #[.val (.int p0), .val (.int ((p0 &&& (2147483647 : Int32)) % (3 : Int32))), .val (.ref a_HUNDREDS_OF_CUBIC_FEET), .val (.int (1 : Int32))] [(.int (1 : Int32)), (.int (1 : Int32))])) (fun t k => XS.iloadN X9.here hx rfl (hb hby at_44) rfl k) ?_
      refine own_Fin.back (S' := T9.setTop (mkF m 48 #[.val (.int p0), .val (.int ((p0 &&& (2147483647 : Int32)) % (3 : Int32))), .val (.ref a_HUNDREDS_OF_CUBIC_FEET), .val (.int (1 : Int32))] [])) (fun t k => XS.icmpNo X9.here hx rfl (hb hby at_45) rfl (by decide) k) ?_
      refine own_Fin.back (S' := T9.setTop (mkF m 49 #[.val (.int p0), .val (.int ((p0 &&& (2147483647 : Int32)) % (3 : Int32))), .val (.ref a_HUNDREDS_OF_CUBIC_FEET), .val (.int (1 : Int32))] [(.int (1 : Int32))])) (fun t k => XS.iconst X9.here hx rfl (hb hby at_48) k) ?_
      refine own_Fin.back (S' := T9.setTop (mkF m 53 #[.val (.int p0), .val (.int ((p0 &&& (2147483647 : Int32)) % (3 : Int32))), .val (.ref a_HUNDREDS_OF_CUBIC_FEET), .val (.int (1 : Int32))] [(.int (1 : Int32))])) (fun t k => XS.goto X9.here hx rfl (pc0 := 49) (pc' := 53) rfl (hb hby at_49) (by decide) (by decide) k) ?_
      exact ⟨T9, X9, e9, fun fs hr => retOut X9 hx (w := (.int (1 : Int32))) (t := .boolean) hret (by first | rfl | decide) (Or.inl ⟨rfl, Or.inr (Or.inl rfl), _, rfl⟩) (hb hby at_53) hr⟩
    · refine own_Fin.back (S' := T0.setTop (mkF m 34 #[.val (.int p0), .val (.int ((p0 &&& (2147483647 : Int32)) % (3 : Int32))), .unset, .unset] [])) (fun t k => XS.icmpYes X0.here hx rfl (pc0 := 22) (pc' := 34) rfl (hb hby at_22) rfl hc7 (by decide) (by decide) k) ?_
      obtain ⟨T10, X10, e10, k10⟩ := getS X0 hx hZ hown (host := "") (hw _ (List.mem_of_getElem? (i := 11) rfl)) Via.refl e0 S_HOT_WATER (g := (mkF m 34 #[.val (.int p0), .val (.int ((p0 &&& (2147483647 : Int32)) % (3 : Int32))), .unset, .unset] [])) rfl (hb hby at_34)
      refine own_Fin.back (S' := T10.setTop (mkF m 37 #[.val (.int p0), .val (.int ((p0 &&& (2147483647 : Int32)) % (3 : Int32))), .unset, .unset] [(.ref a_HOT_WATER)])) k10 ?_
      refine own_Fin.back (S' := T10.setTop (mkF m 38 #[.val (.int p0), .val (.int ((p0 &&& (2147483647 : Int32)) % (3 : Int32))), .val (.ref a_HOT_WATER), .unset] [])) (fun t k => XS.astoreN X10.here hx rfl (hb hby at_37) rfl rfl (l' := #[.val (.int p0), .val (.int ((p0 &&& (2147483647 : Int32)) % (3 : Int32))), .val (.ref a_HOT_WATER), .unset]) rfl k) ?_
      refine own_Fin.back (S' := T10.setTop (mkF m 39 #[.val (.int p0), .val (.int ((p0 &&& (2147483647 : Int32)) % (3 : Int32))), .val (.ref a_HOT_WATER), .unset] [(.int (0 : Int32))])) (fun t k => XS.iconst X10.here hx rfl (hb hby at_38) k) ?_
      refine own_Fin.back (S' := T10.setTop (mkF m 40 #[.val (.int p0), .val (.int ((p0 &&& (2147483647 : Int32)) % (3 : Int32))), .val (.ref a_HOT_WATER), .val (.int (0 : Int32))] [])) (fun t k => XS.istoreN X10.here hx rfl (hb hby at_39) rfl (l' := #[.val (.int p0), .val (.int ((p0 &&& (2147483647 : Int32)) % (3 : Int32))), .val (.ref a_HOT_WATER), .val (.int (0 : Int32))]) rfl k) ?_
      refine own_Fin.back (S' := T10.setTop (mkF m 41 #[.val (.int p0), .val (.int ((p0 &&& (2147483647 : Int32)) % (3 : Int32))), .val (.ref a_HOT_WATER), .val (.int (0 : Int32))] [(.ref a_HOT_WATER)])) (fun t k => XS.aloadN X10.here hx rfl (hb hby at_40) rfl rfl k) ?_
      obtain ⟨T11, X11, e11, k11⟩ := own_callV X10 hx hZ (C := "com/example/meterwright/meterwright/gas/GasUnit") (y := (⟨"com/example/meterwright/meterwright/gas/GasUnit", "hasGasVolume", "()Z"⟩ : MethodName)) (W := 0) hown (hw _ (List.mem_of_getElem? (i := 4) rfl)) (hw _ (List.mem_of_getElem? (i := 5) rfl)) (hw _ (List.mem_of_getElem? (i := 7) rfl)) (hw _ (List.mem_of_getElem? (i := 6) rfl)) (hw _ (List.mem_of_getElem? (i := 8) rfl)) (hw _ (List.mem_of_getElem? (i := 2) rfl)) (by decide) (own_r_a_HOT_WATER l Z a0 hw h0 H) e10 X_HOT_WATER (by decide) (by decide) (g := (mkF m 41 #[.val (.int p0), .val (.int ((p0 &&& (2147483647 : Int32)) % (3 : Int32))), .val (.ref a_HOT_WATER), .val (.int (0 : Int32))] [(.ref a_HOT_WATER)])) rfl (by rw [hml]; rfl) (argsL := []) (rest := []) (lenOf (show parseMethodDescriptor "()Z" = some ⟨[], some .boolean⟩ by decide +kernel) rfl) rfl (by show 2 * 0 + _ ≤ _; exact Nat.le_of_eq rfl) (hb hby at_41)
      refine own_Fin.back (S' := T11.setTop (mkF m 44 #[.val (.int p0), .val (.int ((p0 &&& (2147483647 : Int32)) % (3 : Int32))), .val (.ref a_HOT_WATER), .val (.int (0 : Int32))] [(.int (0 : Int32))])) k11 ?_
      refine own_Fin.back (S' := T11.setTop (mkF m 45 #[.val (.int p0), .val (.int ((p0 &&& (2147483647 : Int32)) % (3 : Int32))), .val (.ref a_HOT_WATER), .val (.int (0 : Int32))] [(.int (0 : Int32)), (.int (0 : Int32))])) (fun t k => XS.iloadN X11.here hx rfl (hb hby at_44) rfl k) ?_
      refine own_Fin.back (S' := T11.setTop (mkF m 48 #[.val (.int p0), .val (.int ((p0 &&& (2147483647 : Int32)) % (3 : Int32))), .val (.ref a_HOT_WATER), .val (.int (0 : Int32))] [])) (fun t k => XS.icmpNo X11.here hx rfl (hb hby at_45) rfl (by decide) k) ?_
      refine own_Fin.back (S' := T11.setTop (mkF m 49 #[.val (.int p0), .val (.int ((p0 &&& (2147483647 : Int32)) % (3 : Int32))), .val (.ref a_HOT_WATER), .val (.int (0 : Int32))] [(.int (1 : Int32))])) (fun t k => XS.iconst X11.here hx rfl (hb hby at_48) k) ?_
      refine own_Fin.back (S' := T11.setTop (mkF m 53 #[.val (.int p0), .val (.int ((p0 &&& (2147483647 : Int32)) % (3 : Int32))), .val (.ref a_HOT_WATER), .val (.int (0 : Int32))] [(.int (1 : Int32))])) (fun t k => XS.goto X11.here hx rfl (pc0 := 49) (pc' := 53) rfl (hb hby at_49) (by decide) (by decide) k) ?_
      exact ⟨T11, X11, e11, fun fs hr => retOut X11 hx (w := (.int (1 : Int32))) (t := .boolean) hret (by first | rfl | decide) (Or.inl ⟨rfl, Or.inr (Or.inl rfl), _, rfl⟩) (hb hby at_53) hr⟩
set_option maxRecDepth 65536 in
set_option maxHeartbeats 40000000 in
theorem own_comes {Post : Tables → Env → Array Value → State → Outcome → State → Prop} (hpost : ∀ tb e args s v u, (limb_1_1.after args s (.returned v) u = true ∧ limb_1_2.after args s (.returned v) u = true ∧ True) → FrameEnd s (.returned v) u (Jvm.fieldLocs frame_1_writes args s ++ Jvm.arrayLocs frame_1_arrays args s ++ Jvm.staticLocs frame_1_statics s) 0 0 → Post tb e args s (.returned v) u) :
    ArmFor flags0 classFile x code maxLocals ret World_1 tables_1 room_1 Calls_1 rest_1 Pre_1 Post := by
  intro l hfl _ _ p e ha hc hk s m args below hf hA hF happ hP
  obtain ⟨hcalls, hrest, hpre⟩ := hP
  obtain ⟨-, -, -, hnamed, -, -, -, hat⟩ := (Spec.applies_iff hf).mp happ
  obtain ⟨hg, hn⟩ := and_e (Cond.before_iff.mp (show (Jvm.Cond.and given_1 narrow_1).before args s = true from hpre))
  obtain ⟨hcount, g0⟩ := and_e hg
  obtain ⟨w0, rfl⟩ : ∃ w0 : Value, args = #[w0] := by
    have hs : args.size = 1 := by simpa [Cond.value, given_1] using hcount
    obtain ⟨L⟩ := args
    match L, hs with
    | [w0], _ => exact ⟨w0, rfl⟩
  have hw := fun d (hd : d ∈ tables_1) => atoms_spec (ws := Jvm.Cond.code x code maxLocals ret :: tables_1) hat d (List.mem_cons_of_mem _ hd)
  obtain ⟨i0, j0⟩ := is_v g0
  obtain rfl : w0 = (.int i0) := Option.some.inj j0
  obtain ⟨hN0, hR0⟩ := and_e hn
  obtain ⟨hN1, hR1⟩ := and_e hR0
  obtain ⟨hN2, hR2⟩ := and_e hR1
  obtain ⟨hN3, hR3⟩ := and_e hR2
  obtain ⟨hN4, hR4⟩ := and_e hR3
  have hN5 := hR4
  obtain ⟨a_CUBIC_METRES, E_CUBIC_METRES⟩ := exa_v hN0
  have S_CUBIC_METRES := own_sta E_CUBIC_METRES (hw _ (List.mem_of_getElem? (i := 2) rfl)) (hw _ (List.mem_of_getElem? (i := 3) rfl))
  have X_CUBIC_METRES := Exa.start E_CUBIC_METRES hN0
  obtain ⟨a_HOT_WATER, E_HOT_WATER⟩ := exa_v hN2
  have S_HOT_WATER := own_sta E_HOT_WATER (hw _ (List.mem_of_getElem? (i := 2) rfl)) (hw _ (List.mem_of_getElem? (i := 12) rfl))
  have X_HOT_WATER := Exa.start E_HOT_WATER hN2
  obtain ⟨a_HUNDREDS_OF_CUBIC_FEET, E_HUNDREDS_OF_CUBIC_FEET⟩ := exa_v hN4
  have S_HUNDREDS_OF_CUBIC_FEET := own_sta E_HUNDREDS_OF_CUBIC_FEET (hw _ (List.mem_of_getElem? (i := 2) rfl)) (hw _ (List.mem_of_getElem? (i := 14) rfl))
  have X_HUNDREDS_OF_CUBIC_FEET := Exa.start E_HUNDREDS_OF_CUBIC_FEET hN4
  obtain ⟨b_CUBIC_METRES_cubicMetres, G_CUBIC_METRES_cubicMetres⟩ := exa_v hN1
  have F_CUBIC_METRES_cubicMetres := own_fldE E_CUBIC_METRES G_CUBIC_METRES_cubicMetres
  have F_HOT_WATER_cubicMetres := own_fldE E_HOT_WATER (null_v hN3)
  obtain ⟨b_HUNDREDS_OF_CUBIC_FEET_cubicMetres, G_HUNDREDS_OF_CUBIC_FEET_cubicMetres⟩ := exa_v hN5
  have F_HUNDREDS_OF_CUBIC_FEET_cubicMetres := own_fldE E_HUNDREDS_OF_CUBIC_FEET G_HUNDREDS_OF_CUBIC_FEET_cubicMetres
  have H : own_Facts s s.heap a_CUBIC_METRES a_HOT_WATER a_HUNDREDS_OF_CUBIC_FEET b_CUBIC_METRES_cubicMetres b_HUNDREDS_OF_CUBIC_FEET_cubicMetres := ⟨S_CUBIC_METRES, X_CUBIC_METRES, S_HOT_WATER, X_HOT_WATER, S_HUNDREDS_OF_CUBIC_FEET, X_HUNDREDS_OF_CUBIC_FEET, F_CUBIC_METRES_cubicMetres, F_HOT_WATER_cubicMetres, F_HUNDREDS_OF_CUBIC_FEET_cubicMetres⟩
  obtain ⟨n, o, h1, h2, h3, _, L, rfl, ⟨rfl, rfl, -⟩, hq⟩ := own_law l s _ hw s.heap H i0 tables_1 p e ha hc hk s m _ below hf ((Spec.applies_iff_loose hf).mp happ).1 ⟨rfl, State.Warmed39.refl s, rfl⟩ trivial
  exact ⟨n, _, h1, h2, h3, hpost _ _ _ _ _ _ ⟨Cond.after_iff.mpr rfl, Cond.after_iff.mpr (eq_i res_at (Term.int_eval (1)) rfl), trivial⟩ ⟨hq.1, hq.2.1, hq.2.2.sift fun y hy => (nomatch hy)⟩⟩
theorem main_1_1 : Claimed_1_1 := own_comes fun _ _ _ _ _ _ h hF => ⟨h.1, hF⟩
theorem main_1_2 : Claimed_1_2 := own_comes fun _ _ _ _ _ _ h hF => ⟨h.2.1, hF⟩
end Jvm.Pilot.@@N@@
namespace Jvm.Pilot.@@N@@
open Jvm Jvm.ClassFile Sem Op Lib Jvm.Free Jvm.Stand Jvm.Pilot.@@N@@.Jvm.D
/-! MADE BY PROGRAM (witnessworld.py) out of the Statement's table words and the real class files: 14 classes; the members and pool entries that the words name. The judged class is class 1, her method 1. -/
namespace start1
open Jvm.ClassFile
def u (s : String) : CpInfo := .utf8 (stringToUtf16 s)
/-- a pool by its gaps: so many unusable entries, then the entry; so many at the end -/
def gap : Nat → List CpInfo → List CpInfo
  | 0, r => r
  | n + 1, r => .unusable :: gap n r
def poolList (es : List (Nat × CpInfo)) (last : Nat) : List CpInfo := es.foldr (fun e r => gap e.1 (e.2 :: r)) (gap last [])
def pool (es : List (Nat × CpInfo)) (last : Nat) : Array CpInfo := ⟨poolList es last⟩
def fileOf (pool : Array CpInfo) (this : Nat) (attrs : Array Attribute := #[]) (ms : Array MethodInfo := #[]) (fl : Nat := 33) (sup : Nat := 0) (ifs : Array Nat := #[]) (fds : Array FieldInfo := #[]) : ClassFile where
  minorVersion := 0
  majorVersion := 65
  constantPool := pool
  accessFlags := fl
  thisClass := this
  superClass := sup
  interfaces := ifs
  fields := fds
  methods := ms
  attributes := attrs
def plain (name : String) (sup : Option ClassId) : Class where
  name := name
  kind := .ordinary
  loader := none
  accessFlags := 33
  super := sup
  interfaces := #[]
  cf := none
  fields := #[]
  methods := #[]
  instanceTypes := #[]
  staticTypes := #[]
  resolved := #[]
  callSites := []
  init := .initialized
  statics := none
  mirror := none

def pool0 : Array CpInfo := pool [(5, u "<init>"), (0, u "()V"), (1, .class_ 10), (1, u "java/lang/Object")] 113

def k0m0 : Method := { name := "<init>", desc := "()V", sig := { parameters := [], returnType := none }, accessFlags := 1, code := none }
/-- java/lang/Object -/
def k0 : Class := { plain "java/lang/Object" none with
  accessFlags := 33
  interfaces := #[]
  cf := some (fileOf pool0 8 #[] #[{ accessFlags := 1, nameIndex := 5, descriptorIndex := 6, attributes := #[] }] 33 0 #[] #[])
  fields := #[]
  methods := #[k0m0]
  instanceTypes := #[]
  staticTypes := #[]
  resolved := Array.replicate 124 none
  statics := none }

def pool1 : Array CpInfo := pool [(2, .class_ 4), (1, u "java/lang/Object"), (0, u "<init>"), (0, u "()V"), (0, .integer 2147483647), (0, .fieldref 9 10), (0, .class_ 11), (0, .nameAndType 12 13), (0, u "com/example/meterwright/meterwright/gas/GasUnit"), (0, u "CUBIC_METRES"), (0, u "Lcom/example/meterwright/meterwright/gas/GasUnit;"), (0, .fieldref 9 15), (0, .nameAndType 16 13), (0, u "HUNDREDS_OF_CUBIC_FEET"), (0, .fieldref 9 18), (0, .nameAndType 19 13), (0, u "HOT_WATER"), (0, .methodref 9 21), (0, .nameAndType 22 23), (0, u "hasGasVolume"), (0, u "()Z"), (0, .class_ 25), (0, u "com/example/meterwright/meterwright/gas/GasUnitHasGasVolumePinLaw"), (2, u "law"), (0, u "(I)Z")] 3

def k1m0 : Method := { name := "<init>", desc := "()V", sig := { parameters := [], returnType := none }, accessFlags := 2, code := none }
def k1c1 : Code := { maxStack := 2, maxLocals := 4, code := code, exceptionTable := #[], attributes := #[] }
def k1m1 : Method := { name := "law", desc := "(I)Z", sig := { parameters := [.int], returnType := some .boolean }, accessFlags := 9, code := some k1c1 }
/-- com/example/meterwright/meterwright/gas/GasUnitHasGasVolumePinLaw -/
def k1 : Class := { plain "com/example/meterwright/meterwright/gas/GasUnitHasGasVolumePinLaw" (some 0) with
  accessFlags := 49
  interfaces := #[]
  cf := some (fileOf pool1 24 #[] #[{ accessFlags := 2, nameIndex := 5, descriptorIndex := 6, attributes := #[] }, { accessFlags := 9, nameIndex := 28, descriptorIndex := 29, attributes := #[] }] 49 2 #[] #[])
  fields := #[]
  methods := #[k1m0, k1m1]
  instanceTypes := #[]
  staticTypes := #[]
  resolved := Array.replicate 33 none
  statics := none }

def pool2 : Array CpInfo := pool [(1, .class_ 2), (0, u "java/lang/constant/Constable"), (0, .class_ 4), (0, u "java/lang/Object")] 6

/-- java/lang/constant/Constable -/
def k2 : Class := { plain "java/lang/constant/Constable" (some 0) with
  accessFlags := 1537
  interfaces := #[]
  cf := some (fileOf pool2 1 #[] #[] 1537 3 #[] #[])
  fields := #[]
  methods := #[]
  instanceTypes := #[]
  staticTypes := #[]
  resolved := Array.replicate 11 none
  statics := none }

def pool3 : Array CpInfo := pool [(1, .class_ 2), (0, u "java/lang/Comparable"), (0, .class_ 4), (0, u "java/lang/Object")] 7

/-- java/lang/Comparable -/
def k3 : Class := { plain "java/lang/Comparable" (some 0) with
  accessFlags := 1537
  interfaces := #[]
  cf := some (fileOf pool3 1 #[] #[] 1537 3 #[] #[])
  fields := #[]
  methods := #[]
  instanceTypes := #[]
  staticTypes := #[]
  resolved := Array.replicate 12 none
  statics := none }

def pool4 : Array CpInfo := pool [(1, .class_ 2), (0, u "java/io/Serializable"), (0, .class_ 4), (0, u "java/lang/Object")] 2

/-- java/io/Serializable -/
def k4 : Class := { plain "java/io/Serializable" (some 0) with
  accessFlags := 1537
  interfaces := #[]
  cf := some (fileOf pool4 1 #[] #[] 1537 3 #[] #[])
  fields := #[]
  methods := #[]
  instanceTypes := #[]
  staticTypes := #[]
  resolved := Array.replicate 7 none
  statics := none }

def pool5 : Array CpInfo := pool [(2, .class_ 4), (1, u "java/lang/Enum"), (0, u "name"), (0, u "Ljava/lang/String;"), (2, u "ordinal"), (0, u "I"), (1, .class_ 14), (1, u "java/lang/Object"), (4, u "hash"), (86, .class_ 108), (1, u "java/lang/Enum$EnumDesc"), (2, .class_ 112), (0, u "java/lang/constant/Constable"), (0, .class_ 114), (0, u "java/lang/Comparable"), (0, .class_ 116), (0, u "java/io/Serializable")] 87

/-- java/lang/Enum -/
def k5 : Class := { plain "java/lang/Enum" (some 0) with
  accessFlags := 1057
  interfaces := #[2, 3, 4]
  cf := some (fileOf pool5 2 #[.nestMembers #[106]] #[] 1057 12 #[111, 113, 115] #[{ accessFlags := 18, nameIndex := 5, descriptorIndex := 6, attributes := #[] }, { accessFlags := 18, nameIndex := 9, descriptorIndex := 10, attributes := #[] }, { accessFlags := 2, nameIndex := 19, descriptorIndex := 10, attributes := #[] }])
  fields := #[{ name := "name", type := (.object "java/lang/String"), accessFlags := 18, slot := 0, constantValue := 0 }, { name := "ordinal", type := .int, accessFlags := 18, slot := 1, constantValue := 0 }, { name := "hash", type := .int, accessFlags := 2, slot := 2, constantValue := 0 }]
  methods := #[]
  instanceTypes := #[(.object "java/lang/String"), .int, .int]
  staticTypes := #[]
  resolved := Array.replicate 204 none
  statics := none }

def pool6 : Array CpInfo := pool [(1, .class_ 2), (0, u "com/example/meterwright/meterwright/gas/GasUnit"), (2, u "CUBIC_METRES"), (0, u "Lcom/example/meterwright/meterwright/gas/GasUnit;"), (2, u "HUNDREDS_OF_CUBIC_FEET"), (2, u "HOT_WATER"), (2, u "$VALUES"), (0, u "[Lcom/example/meterwright/meterwright/gas/GasUnit;"), (6, .class_ 25), (1, u "java/lang/Enum"), (8, u "code"), (0, u "Ljava/lang/String;"), (0, .fieldref 1 37), (0, .nameAndType 38 39), (0, u "cubicMetres"), (0, u "Ljava/math/BigDecimal;"), (2, u "hasGasVolume"), (0, u "()Z")] 70

def k6c0 : Code := { maxStack := 1, maxLocals := 1, code := prog_30_method_5_code, exceptionTable := #[], attributes := #[] }
def k6m0 : Method := { name := "hasGasVolume", desc := "()Z", sig := { parameters := [], returnType := some .boolean }, accessFlags := 1, code := some k6c0 }
/-- com/example/meterwright/meterwright/gas/GasUnit -/
def k6 : Class := { plain "com/example/meterwright/meterwright/gas/GasUnit" (some 5) with
  accessFlags := 16433
  interfaces := #[]
  cf := some (fileOf pool6 1 #[] #[{ accessFlags := 1, nameIndex := 42, descriptorIndex := 43, attributes := #[] }] 16433 23 #[] #[{ accessFlags := 16409, nameIndex := 5, descriptorIndex := 6, attributes := #[] }, { accessFlags := 16409, nameIndex := 9, descriptorIndex := 6, attributes := #[] }, { accessFlags := 16409, nameIndex := 12, descriptorIndex := 6, attributes := #[] }, { accessFlags := 18, nameIndex := 34, descriptorIndex := 35, attributes := #[] }, { accessFlags := 18, nameIndex := 38, descriptorIndex := 39, attributes := #[] }, { accessFlags := 4122, nameIndex := 15, descriptorIndex := 16, attributes := #[] }])
  fields := #[{ name := "CUBIC_METRES", type := (.object "com/example/meterwright/meterwright/gas/GasUnit"), accessFlags := 16409, slot := 0, constantValue := 0 }, { name := "HUNDREDS_OF_CUBIC_FEET", type := (.object "com/example/meterwright/meterwright/gas/GasUnit"), accessFlags := 16409, slot := 1, constantValue := 0 }, { name := "HOT_WATER", type := (.object "com/example/meterwright/meterwright/gas/GasUnit"), accessFlags := 16409, slot := 2, constantValue := 0 }, { name := "code", type := (.object "java/lang/String"), accessFlags := 18, slot := 3, constantValue := 0 }, { name := "cubicMetres", type := (.object "java/math/BigDecimal"), accessFlags := 18, slot := 4, constantValue := 0 }, { name := "$VALUES", type := (.array (.object "com/example/meterwright/meterwright/gas/GasUnit")), accessFlags := 4122, slot := 3, constantValue := 0 }]
  methods := #[k6m0]
  instanceTypes := #[(.object "java/lang/String"), .int, .int, (.object "java/lang/String"), (.object "java/math/BigDecimal")]
  staticTypes := #[(.object "com/example/meterwright/meterwright/gas/GasUnit"), (.object "com/example/meterwright/meterwright/gas/GasUnit"), (.object "com/example/meterwright/meterwright/gas/GasUnit"), (.array (.object "com/example/meterwright/meterwright/gas/GasUnit"))]
  resolved := Array.replicate 114 none
  statics := some 0 }

def pool7 : Array CpInfo := pool [(2, .class_ 4), (1, u "java/lang/Object"), (0, u "<init>"), (0, u "()V"), (1, .class_ 10), (1, u "java/lang/Number"), (2, .class_ 14), (0, u "java/io/Serializable"), (0, u "serialVersionUID"), (0, u "J")] 20

def k7m0 : Method := { name := "<init>", desc := "()V", sig := { parameters := [], returnType := none }, accessFlags := 1, code := none }
/-- java/lang/Number -/
def k7 : Class := { plain "java/lang/Number" (some 0) with
  accessFlags := 1057
  interfaces := #[4]
  cf := some (fileOf pool7 8 #[] #[{ accessFlags := 1, nameIndex := 5, descriptorIndex := 6, attributes := #[] }] 1057 2 #[13] #[{ accessFlags := 26, nameIndex := 15, descriptorIndex := 16, attributes := #[] }])
  fields := #[{ name := "serialVersionUID", type := .long, accessFlags := 26, slot := 0, constantValue := 0 }]
  methods := #[k7m0]
  instanceTypes := #[]
  staticTypes := #[.long]
  resolved := Array.replicate 37 none
  statics := none }

def pool8 : Array CpInfo := pool [(3, .class_ 4), (0, u "java/math/BigDecimal"), (7, .class_ 14), (1, u "java/lang/Number"), (4, u "scale"), (0, u "I"), (2, u "precision"), (2, u "intCompact"), (0, u "J"), (2, u "intVal"), (0, u "Ljava/math/BigInteger;"), (65, u "LONG_TEN_POWERS_TABLE"), (0, u "[J"), (88, u "ZERO"), (2, u "INFLATED_BIGINT"), (15, u "TWO"), (41, u "ZERO_THROUGH_TEN"), (0, u "[Ljava/math/BigDecimal;"), (2, u "ZERO_SCALED_BY"), (60, u "$assertionsDisabled"), (0, u "Z"), (163, u "ONE_TENTH"), (0, u "Ljava/math/BigDecimal;"), (5, u "TEN"), (14, .class_ 502), (1, u "java/math/BigDecimal$1"), (15, u "ONE_HALF"), (16, u "ONE"), (107, u "stringCache"), (0, u "Ljava/lang/String;"), (52, .class_ 699), (1, u "java/math/BigDecimal$LongOverflow"), (8, u "FLOAT_10_POW"), (0, u "[F"), (39, u "DOUBLE_10_POW"), (0, u "[D"), (19, .class_ 772), (1, u "java/math/BigDecimal$StringBuilderHelper"), (35, u "BIG_TEN_POWERS_TABLE_MAX"), (2, u "BIG_TEN_POWERS_TABLE"), (0, u "[Ljava/math/BigInteger;"), (14, u "THRESHOLDS_TABLE"), (23, .class_ 853), (1, u "java/math/BigDecimal$UnsafeHolder"), (214, u "LONGLONG_TEN_POWERS_TABLE"), (0, u "[[J"), (112, u "BIG_TEN_POWERS_TABLE_INITLEN"), (113, .class_ 1297), (0, u "java/lang/Comparable"), (0, u "L"), (0, u "D"), (1, u "P_F"), (1, u "Q_MIN_F"), (1, u "Q_MAX_F"), (1, u "P_D"), (1, u "Q_MIN_D"), (1, u "Q_MAX_D"), (1, u "INFLATED"), (0, u "MAX_COMPACT_DIGITS"), (1, u "serialVersionUID"), (2, u "HALF_LONG_MAX_VALUE"), (0, u "HALF_LONG_MIN_VALUE"), (0, u "ROUND_UP"), (6, u "ROUND_DOWN"), (1, u "ROUND_CEILING"), (1, u "ROUND_FLOOR"), (1, u "ROUND_HALF_UP"), (1, u "ROUND_HALF_DOWN"), (1, u "ROUND_HALF_EVEN"), (1, u "ROUND_UNNECESSARY"), (1, u "DIV_NUM_BASE")] 294

/-- java/math/BigDecimal -/
def k8 : Class := { plain "java/math/BigDecimal" (some 7) with
  accessFlags := 33
  interfaces := #[3]
  cf := some (fileOf pool8 3 #[.nestMembers #[500, 851, 770, 697]] #[] 33 12 #[1296] #[{ accessFlags := 26, nameIndex := 1298, descriptorIndex := 1299, attributes := #[] }, { accessFlags := 26, nameIndex := 1301, descriptorIndex := 20, attributes := #[] }, { accessFlags := 26, nameIndex := 1303, descriptorIndex := 20, attributes := #[] }, { accessFlags := 26, nameIndex := 1305, descriptorIndex := 20, attributes := #[] }, { accessFlags := 26, nameIndex := 1307, descriptorIndex := 20, attributes := #[] }, { accessFlags := 26, nameIndex := 1309, descriptorIndex := 20, attributes := #[] }, { accessFlags := 26, nameIndex := 1311, descriptorIndex := 20, attributes := #[] }, { accessFlags := 18, nameIndex := 30, descriptorIndex := 31, attributes := #[] }, { accessFlags := 18, nameIndex := 19, descriptorIndex := 20, attributes := #[] }, { accessFlags := 130, nameIndex := 23, descriptorIndex := 20, attributes := #[] }, { accessFlags := 130, nameIndex := 643, descriptorIndex := 644, attributes := #[] }, { accessFlags := 24, nameIndex := 1313, descriptorIndex := 27, attributes := #[] }, { accessFlags := 26, nameIndex := 190, descriptorIndex := 31, attributes := #[] }, { accessFlags := 146, nameIndex := 26, descriptorIndex := 27, attributes := #[] }, { accessFlags := 26, nameIndex := 1314, descriptorIndex := 20, attributes := #[] }, { accessFlags := 26, nameIndex := 1316, descriptorIndex := 27, attributes := #[] }, { accessFlags := 26, nameIndex := 248, descriptorIndex := 249, attributes := #[] }, { accessFlags := 26, nameIndex := 252, descriptorIndex := 249, attributes := #[] }, { accessFlags := 26, nameIndex := 1319, descriptorIndex := 27, attributes := #[] }, { accessFlags := 26, nameIndex := 1320, descriptorIndex := 27, attributes := #[] }, { accessFlags := 25, nameIndex := 187, descriptorIndex := 479, attributes := #[] }, { accessFlags := 25, nameIndex := 535, descriptorIndex := 479, attributes := #[] }, { accessFlags := 25, nameIndex := 206, descriptorIndex := 479, attributes := #[] }, { accessFlags := 25, nameIndex := 485, descriptorIndex := 479, attributes := #[] }, { accessFlags := 26, nameIndex := 478, descriptorIndex := 479, attributes := #[] }, { accessFlags := 26, nameIndex := 518, descriptorIndex := 479, attributes := #[] }, { accessFlags := 25, nameIndex := 1321, descriptorIndex := 20, attributes := #[] }, { accessFlags := 25, nameIndex := 1328, descriptorIndex := 20, attributes := #[] }, { accessFlags := 25, nameIndex := 1330, descriptorIndex := 20, attributes := #[] }, { accessFlags := 25, nameIndex := 1332, descriptorIndex := 20, attributes := #[] }, { accessFlags := 25, nameIndex := 1334, descriptorIndex := 20, attributes := #[] }, { accessFlags := 25, nameIndex := 1336, descriptorIndex := 20, attributes := #[] }, { accessFlags := 25, nameIndex := 1338, descriptorIndex := 20, attributes := #[] }, { accessFlags := 25, nameIndex := 1340, descriptorIndex := 20, attributes := #[] }, { accessFlags := 26, nameIndex := 749, descriptorIndex := 750, attributes := #[] }, { accessFlags := 26, nameIndex := 708, descriptorIndex := 709, attributes := #[] }, { accessFlags := 26, nameIndex := 97, descriptorIndex := 98, attributes := #[] }, { accessFlags := 74, nameIndex := 811, descriptorIndex := 812, attributes := #[] }, { accessFlags := 26, nameIndex := 1182, descriptorIndex := 20, attributes := #[] }, { accessFlags := 26, nameIndex := 808, descriptorIndex := 20, attributes := #[] }, { accessFlags := 26, nameIndex := 827, descriptorIndex := 98, attributes := #[] }, { accessFlags := 26, nameIndex := 1342, descriptorIndex := 27, attributes := #[] }, { accessFlags := 26, nameIndex := 1068, descriptorIndex := 1069, attributes := #[] }, { accessFlags := 4120, nameIndex := 313, descriptorIndex := 314, attributes := #[] }])
  fields := #[{ name := "L", type := .double, accessFlags := 26, slot := 0, constantValue := 0 }, { name := "P_F", type := .int, accessFlags := 26, slot := 1, constantValue := 0 }, { name := "Q_MIN_F", type := .int, accessFlags := 26, slot := 2, constantValue := 0 }, { name := "Q_MAX_F", type := .int, accessFlags := 26, slot := 3, constantValue := 0 }, { name := "P_D", type := .int, accessFlags := 26, slot := 4, constantValue := 0 }, { name := "Q_MIN_D", type := .int, accessFlags := 26, slot := 5, constantValue := 0 }, { name := "Q_MAX_D", type := .int, accessFlags := 26, slot := 6, constantValue := 0 }, { name := "intVal", type := (.object "java/math/BigInteger"), accessFlags := 18, slot := 0, constantValue := 0 }, { name := "scale", type := .int, accessFlags := 18, slot := 1, constantValue := 0 }, { name := "precision", type := .int, accessFlags := 130, slot := 2, constantValue := 0 }, { name := "stringCache", type := (.object "java/lang/String"), accessFlags := 130, slot := 3, constantValue := 0 }, { name := "INFLATED", type := .long, accessFlags := 24, slot := 7, constantValue := 0 }, { name := "INFLATED_BIGINT", type := (.object "java/math/BigInteger"), accessFlags := 26, slot := 8, constantValue := 0 }, { name := "intCompact", type := .long, accessFlags := 146, slot := 4, constantValue := 0 }, { name := "MAX_COMPACT_DIGITS", type := .int, accessFlags := 26, slot := 9, constantValue := 0 }, { name := "serialVersionUID", type := .long, accessFlags := 26, slot := 10, constantValue := 0 }, { name := "ZERO_THROUGH_TEN", type := (.array (.object "java/math/BigDecimal")), accessFlags := 26, slot := 11, constantValue := 0 }, { name := "ZERO_SCALED_BY", type := (.array (.object "java/math/BigDecimal")), accessFlags := 26, slot := 12, constantValue := 0 }, { name := "HALF_LONG_MAX_VALUE", type := .long, accessFlags := 26, slot := 13, constantValue := 0 }, { name := "HALF_LONG_MIN_VALUE", type := .long, accessFlags := 26, slot := 14, constantValue := 0 }, { name := "ZERO", type := (.object "java/math/BigDecimal"), accessFlags := 25, slot := 15, constantValue := 0 }, { name := "ONE", type := (.object "java/math/BigDecimal"), accessFlags := 25, slot := 16, constantValue := 0 }, { name := "TWO", type := (.object "java/math/BigDecimal"), accessFlags := 25, slot := 17, constantValue := 0 }, { name := "TEN", type := (.object "java/math/BigDecimal"), accessFlags := 25, slot := 18, constantValue := 0 }, { name := "ONE_TENTH", type := (.object "java/math/BigDecimal"), accessFlags := 26, slot := 19, constantValue := 0 }, { name := "ONE_HALF", type := (.object "java/math/BigDecimal"), accessFlags := 26, slot := 20, constantValue := 0 }, { name := "ROUND_UP", type := .int, accessFlags := 25, slot := 21, constantValue := 0 }, { name := "ROUND_DOWN", type := .int, accessFlags := 25, slot := 22, constantValue := 0 }, { name := "ROUND_CEILING", type := .int, accessFlags := 25, slot := 23, constantValue := 0 }, { name := "ROUND_FLOOR", type := .int, accessFlags := 25, slot := 24, constantValue := 0 }, { name := "ROUND_HALF_UP", type := .int, accessFlags := 25, slot := 25, constantValue := 0 }, { name := "ROUND_HALF_DOWN", type := .int, accessFlags := 25, slot := 26, constantValue := 0 }, { name := "ROUND_HALF_EVEN", type := .int, accessFlags := 25, slot := 27, constantValue := 0 }, { name := "ROUND_UNNECESSARY", type := .int, accessFlags := 25, slot := 28, constantValue := 0 }, { name := "DOUBLE_10_POW", type := (.array .double), accessFlags := 26, slot := 29, constantValue := 0 }, { name := "FLOAT_10_POW", type := (.array .float), accessFlags := 26, slot := 30, constantValue := 0 }, { name := "LONG_TEN_POWERS_TABLE", type := (.array .long), accessFlags := 26, slot := 31, constantValue := 0 }, { name := "BIG_TEN_POWERS_TABLE", type := (.array (.object "java/math/BigInteger")), accessFlags := 74, slot := 32, constantValue := 0 }, { name := "BIG_TEN_POWERS_TABLE_INITLEN", type := .int, accessFlags := 26, slot := 33, constantValue := 0 }, { name := "BIG_TEN_POWERS_TABLE_MAX", type := .int, accessFlags := 26, slot := 34, constantValue := 0 }, { name := "THRESHOLDS_TABLE", type := (.array .long), accessFlags := 26, slot := 35, constantValue := 0 }, { name := "DIV_NUM_BASE", type := .long, accessFlags := 26, slot := 36, constantValue := 0 }, { name := "LONGLONG_TEN_POWERS_TABLE", type := (.array (.array .long)), accessFlags := 26, slot := 37, constantValue := 0 }, { name := "$assertionsDisabled", type := .boolean, accessFlags := 4120, slot := 38, constantValue := 0 }]
  methods := #[]
  instanceTypes := #[(.object "java/math/BigInteger"), .int, .int, (.object "java/lang/String"), .long]
  staticTypes := #[.double, .int, .int, .int, .int, .int, .int, .long, (.object "java/math/BigInteger"), .int, .long, (.array (.object "java/math/BigDecimal")), (.array (.object "java/math/BigDecimal")), .long, .long, (.object "java/math/BigDecimal"), (.object "java/math/BigDecimal"), (.object "java/math/BigDecimal"), (.object "java/math/BigDecimal"), (.object "java/math/BigDecimal"), (.object "java/math/BigDecimal"), .int, .int, .int, .int, .int, .int, .int, .int, (.array .double), (.array .float), (.array .long), (.array (.object "java/math/BigInteger")), .int, .int, (.array .long), .long, (.array (.array .long)), .boolean]
  resolved := Array.replicate 1637 none
  statics := none }

def pool9 : Array CpInfo := pool [(1, u "java/lang/Cloneable"), (0, .class_ 1), (0, u "java/lang/Object"), (0, .class_ 3)] 3

/-- java/lang/Cloneable -/
def k9 : Class := { plain "java/lang/Cloneable" (some 0) with
  accessFlags := 1537
  interfaces := #[]
  cf := some (fileOf pool9 2 #[] #[] 1537 4 #[] #[])
  fields := #[]
  methods := #[]
  instanceTypes := #[]
  staticTypes := #[]
  resolved := Array.replicate 8 none
  statics := none }

/-- the primitive byte -/
def k10 : Class := { plain "byte" none with kind := .primitive 'B', accessFlags := 0x411 }
/-- [B -/
def k11 : Class := { plain "[B" (some 0) with kind := .array 10 .byte, interfaces := #[9, 4], accessFlags := 1041 }

/-- the primitive int -/
def k12 : Class := { plain "int" none with kind := .primitive 'I', accessFlags := 0x411 }
/-- [I -/
def k13 : Class := { plain "[I" (some 0) with kind := .array 12 .int, interfaces := #[9, 4], accessFlags := 1041 }

def heap : Heap := #[{ cls := 6, slots := #[.ref 3, .ref 4, .ref 5, .null], vm := .statics 6 },
  { cls := 8, slots := #[.null, .int 0, .int 0, .null, .long 1], vm := .none },
  { cls := 8, slots := #[.null, .int 0, .int 0, .null, .long 2], vm := .none },
  { cls := 6, slots := #[.null, .int 0, .int 0, .null, .ref 1], vm := .none },
  { cls := 6, slots := #[.null, .int 1, .int 0, .null, .ref 2], vm := .none },
  { cls := 6, slots := #[.null, .int 2, .int 0, .null, .null], vm := .none }]
def classes : Array Class := #[k0, k1, k2, k3, k4, k5, k6, k7, k8, k9, k10, k11, k12, k13]
def interned : List (Array UInt16 × Addr) := []
def slotsUsed : Nat := 29
def theMethod : MethodId := ⟨1, 1⟩
def args0 : Array Value := #[.int 5]
def aboutOver (below : List Frame) : State where
  vm := { classes := classes, interned := interned.toArray }
  heap := heap
  slotsUsed := slotsUsed
  threads := #[{ frames := .invoking theMethod args0 :: below }]
def below0 : List Frame := [.native { method := ⟨0, 0⟩, args := #[] }]
def about1 : State := aboutOver below0
def p0 : Program := .bare "" "" ""
def e0 : Env := launch0.env 0 0 0
theorem w_frames : about1.frames = Frame.invoking theMethod args0 :: below0 := rfl
set_option maxRecDepth 65536 in
theorem w_args : argsFit about1.vm theMethod args0 = true := by decide +kernel
set_option maxRecDepth 65536 in
theorem w_heap : heapFits about1 = true := by decide +kernel
set_option maxRecDepth 65536 in
theorem w_runnable : about1.curStatus? = some .runnable := by decide +kernel
set_option maxRecDepth 65536 in
theorem w_alone : about1.alone = true := by decide +kernel
set_option maxRecDepth 65536 in
theorem w_named : about1.methodNamed? x = some theMethod := by decide +kernel
set_option maxRecDepth 65536 in
theorem w_hears : about1.hears theMethod below0 = true := by decide +kernel
set_option maxRecDepth 65536 in
theorem w_ripe : about1.ripe theMethod args0 below0 = true := by decide +kernel
theorem w_running : about1.status = .running := rfl
set_option maxRecDepth 65536 in
theorem w_room : about1.hasRoom e0.platform room_1 = true :=
  launch0.hasRoom_least _ room_1 (by decide +kernel) (by decide +kernel) (by decide +kernel) (by decide +kernel) (by decide +kernel) (by decide +kernel)
theorem allAtoms_all (ts : List Jvm.Cond) (a : Array Jvm.Value) (st : Jvm.State) : (allAtoms ts).before a st = ts.all (fun c => c.before a st) := by
  induction ts with
  | nil => rfl
  | cons c t ih =>
    show (Jvm.Cond.and c (allAtoms t)).before a st = _
    rw [Jvm.Cond.before_and, ih, List.all_cons]
def words1 : List Jvm.Cond := Jvm.Cond.code x code maxLocals ret :: tables_1
/-- a 'code' word, met by the world's own term for the bytes: nothing is compared byte by byte -/
theorem code_word {y : MethodName} {bytes : ByteArray} {mx : Nat} {rt : Option FieldType} {a : Array Value} {s : State} {m : MethodId} {meth : Method} {c : Code} (h1 : s.methodNamed? y = some m) (h2 : s.vm.method? m = some meth) (h3 : meth.code = some c) (h4 : c.code = bytes)
    (h5 : (c.maxLocals == mx && c.exceptionTable.isEmpty && decide (c.maxStack ≤ mostOperands) && decide (meth.sig.returnType = rt) && !meth.locks && decide (parseMethodDescriptor y.desc = some meth.sig)) = true) : (Jvm.Cond.code y bytes mx rt).before a s = true := by
  simp only [Bool.and_eq_true, beq_iff_eq, Bool.not_eq_true', decide_eq_true_eq] at h5
  obtain ⟨⟨⟨⟨⟨g1, g2⟩, g3⟩, g4⟩, g5⟩, g6⟩ := h5
  simp [Cond.before, Cond.holds, Cond.value, h1, h2, h3, h4, g1, g2, g3, g4, g5, g6]
def isCode : Jvm.Cond → Bool
  | .code _ _ _ _ => true
  | _ => false
theorem all_split {L : List Jvm.Cond} {P : Jvm.Cond → Bool} (h1 : L.all (fun c => isCode c || P c) = true) (h2 : ∀ c ∈ L.filter isCode, P c = true) : L.all P = true := by
  refine List.all_eq_true.mpr fun c hc => ?_
  have h := List.all_eq_true.mp h1 c hc
  rcases Bool.eq_false_or_eq_true (isCode c) with hi | hi
  · exact h2 c (List.mem_filter.mpr ⟨hc, hi⟩)
  · simpa [hi] using h
set_option maxRecDepth 65536 in
theorem w_c0 : (Jvm.Cond.code x code maxLocals ret).before args0 about1 = true := code_word (m := ⟨1, 1⟩) (meth := k1m1) (c := k1c1) (by decide +kernel) rfl rfl rfl (by decide +kernel)
set_option maxRecDepth 65536 in
theorem w_c1 : (Jvm.Cond.code ({ cls := "com/example/meterwright/meterwright/gas/GasUnit", name := "hasGasVolume", desc := "()Z" } : Jvm.MethodName) prog_30_method_5_code (1 : Nat) (Option.some Jvm.ClassFile.FieldType.boolean)).before args0 about1 = true := code_word (m := ⟨6, 0⟩) (meth := k6m0) (c := k6c0) (by decide +kernel) rfl rfl rfl (by decide +kernel)
def codes1 : List Jvm.Cond := [Jvm.Cond.code x code maxLocals ret, Jvm.Cond.code ({ cls := "com/example/meterwright/meterwright/gas/GasUnit", name := "hasGasVolume", desc := "()Z" } : Jvm.MethodName) prog_30_method_5_code (1 : Nat) (Option.some Jvm.ClassFile.FieldType.boolean)]
set_option maxRecDepth 65536 in
theorem codes_eq : words1.filter isCode = codes1 := rfl
theorem w_codes : ∀ c ∈ words1.filter isCode, c.before args0 about1 = true := by
  rw [codes_eq]
  intro c hc
  simp only [codes1, List.mem_cons, List.not_mem_nil, or_false] at hc
  rcases hc with rfl | rfl
  · exact w_c0
  · exact w_c1
set_option maxRecDepth 65536 in
theorem w_t1 : words1.all (fun c => isCode c || c.before args0 about1) = true := by decide +kernel
theorem w_tables : (allAtoms (Jvm.Cond.code x code maxLocals ret :: tables_1)).before args0 about1 = true := by
  rw [allAtoms_all]
  show words1.all (fun c => c.before args0 about1) = true
  refine all_split ?_ w_codes
  rw [w_t1]
set_option maxRecDepth 65536 in
theorem w_case : (Jvm.Cond.and given_1 narrow_1).before args0 about1 = true := by decide +kernel
theorem w_applies : (headSpec (Jvm.Cond.code x code maxLocals ret :: tables_1) room_1).applies x e0.platform about1 = true :=
  (Spec.applies_iff w_frames).mpr ⟨w_running, w_runnable, w_alone, w_named, w_hears, w_ripe, w_room, w_tables⟩
theorem atStart : AtStart classFile x code maxLocals ret World_1 tables_1 room_1 Calls_1 rest_1 Pre_1 launch0 p0 e0 about1 theMethod args0 below0 :=
  ⟨lists_1, trivial, launch0.admits_env _ _ _, launch0.least_env, fairChoices_fair.cas, fairChoices_fair.clock, w_frames, w_args, w_heap, w_applies, trivial, trivial, w_case⟩
end start1
theorem witness_1 : WitnessClaimed_1 := ⟨start1.p0, start1.e0, start1.about1, start1.theMethod, start1.args0, start1.below0, start1.atStart⟩
end Jvm.Pilot.@@N@@
