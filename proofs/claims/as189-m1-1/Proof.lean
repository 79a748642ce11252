import JvmDerived
import JvmDerived.Pilot.@@N@@Statement
import JvmDerived.Pilot.@@N@@Code
set_option linter.unusedVariables false
set_option linter.unusedSimpArgs false
namespace Jvm.Pilot.@@N@@
open Jvm Jvm.ClassFile Sem Op Lib Jvm.Free Jvm.Stand Jvm.LawKit Jvm.RoadKit Bundle Jvm.Pilot.@@N@@.Jvm.D

/-! 0. What a body that writes nothing leaves; a walk told forwards; the three calls -/
def own_Q (v0 : Option Value) (h0 : Heap) (v : Option Value) (h : Heap) (L : List Loc) : Prop := v = v0 ∧ L = [] ∧ h = h0
def own_Pur (l : Launch) (Z : State) (y : MethodName) (bytes : ByteArray) (maxL : Nat) (rt : Option FieldType) (fr lo : Nat) (as : Array Value) (v : Option Value) (h : Heap) : Prop :=
  ∀ ws : List Jvm.Cond, MetFree l y (head1 (Jvm.Cond.code y bytes maxL rt :: ws) ({ frames := fr, cells := 0, slots := 0, locals := lo } : Room)) (fun a U => a = as ∧ Z.Warmed39 U.vm ∧ U.heap = h) (fun _ _ _ _ _ => True)
    (fun _ U o U' => ∃ v' L, o = .returned v' ∧ own_Q v h v' U'.heap L ∧ FrameEnd U o U' L ({ frames := fr, cells := 0, slots := 0, locals := lo } : Room).cells ({ frames := fr, cells := 0, slots := 0, locals := lo } : Room).slots)
def own_Fin (p : Program) (l : Launch) (e : Env) (R : Room) (s : State) (m : MethodId) (args : Array Value) (below : List Frame) (meth : Method) (c : Code) (h : Heap) (v : Option Value) (S : State) : Prop :=
  ∃ T : State, Stand p l e R s m args below meth c T [] 0 0 ∧ T.heap = h ∧ ∀ fs : List Frame, (∀ (f : JFrame) (acts : List Action), f.method = m → f.locked = none → f.entered = [] → (doReturn e (T.setTop f) acts v).1 = T.setFrames fs) → Steps p.tables e below S (T.setFrames fs)
section Own
variable {p : Program} {l : Launch} {e : Env} {R : Room} {s : State} {m : MethodId} {args : Array Value} {below : List Frame} {meth : Method} {c : Code} {T : State} {Z : State} {a0 : Array Value} {h : Heap} {v : Option Value}
theorem own_Fin.back {S S' : State} (k : ∀ t, Steps p.tables e below S' t → Steps p.tables e below S t) (F : own_Fin p l e R s m args below meth c h v S') : own_Fin p l e R s m args below meth c h v S := by
  obtain ⟨T, X, eT, g⟩ := F
  exact ⟨T, X, eT, fun fs hr => k _ (g fs hr)⟩
theorem own_body {y : MethodName} {bytes : ByteArray} {maxL : Nat} {rt : FieldType} {fr lo : Nat} {as : Array Value} {w : Value} (hpl : plainName y.cls = true)
    (body : ∀ (p : Program) (e : Env) (s : State) (m : MethodId) (below : List Frame) (meth : Method) (c : Code) (T : State), Stand p l e ({ frames := fr, cells := 0, slots := 0, locals := lo } : Room) s m as below meth c T [] 0 0 → T.heap = h → p.tables.exec = Jvm.exec → c.code = bytes → c.maxLocals = maxL →
      s.vm.findClass y.cls = some m.cls → meth.sig.returnType = some rt → Z.Warmed39 s.vm → own_Fin p l e ({ frames := fr, cells := 0, slots := 0, locals := lo } : Room) s m as below meth c h (some w) (T.setTop (entryFrame m as maxL))) :
    own_Pur l Z y bytes maxL (some rt) fr lo as (some w) h := by
  intro ws
  refine MetFree.of_bodySF (plainFor_of_name hpl) hisR ?_
  intro p e s m args below meth c s₁ Bd hml0 hP hK
  obtain ⟨rfl, hZ, hh⟩ := hP
  have X0 : Stand p l e ({ frames := fr, cells := 0, slots := 0, locals := lo } : Room) s m args below meth c s₁ [] 0 0 := Stand.of_body Bd
  have e0 : s₁.heap = h := by rw [← hh, Bd.state]; rfl
  obtain ⟨T, X, eT, go⟩ := body p e s m below meth c s₁ X0 e0 Bd.exec Bd.bytes hml0 (findClass_of_methodNamed Bd.named) Bd.returns hZ
  obtain ⟨fs, hr, hrun, hended, hW, hsame⟩ := X.leave (v := some w) (fun h => by rw [Bd.returns] at h; cases h)
  exact ⟨_, _, go fs hr, hrun, hended, _, _, rfl, ⟨rfl, rfl, eT⟩, ⟨_, rfl⟩, hW, hsame⟩
theorem own_callS (X : Stand p l e R s m args below meth c T [] 0 0) (hx : p.tables.exec = Jvm.exec) (hZ : Z.Warmed39 s.vm) {own : String} {index : Nat} {y : MethodName} {bytes : ByteArray} {maxL : Nat} {rt : Option FieldType} {fr lo W : Nat} {argsL rest : List Value} {w : Option Value}
    (hown : s.vm.findClass own = some m.cls) (w1 : (Jvm.Cond.methodLink own index y).before a0 Z = true) (w2 : (Jvm.Cond.static y).before a0 Z = true) (w3 : (Jvm.Cond.initialized y.cls).before a0 Z = true) (w4 : (Jvm.Cond.code y bytes maxL rt).before a0 Z = true)
    (hy : y.cls ≠ "java/lang/invoke/MethodHandle" ∧ y.cls ≠ "java/lang/invoke/VarHandle")
    (hM : own_Pur l Z y bytes maxL rt fr lo argsL.toArray w h) (eT : T.heap = h) (hf : fr + 1 ≤ R.frames) (hl : W + (maxL + 11) + lo ≤ R.locals)
    {g : JFrame} (hg : g.method = m) (hsize : g.locals.size = c.maxLocals) (hlen : ∀ sig, parseMethodDescriptor y.desc = some sig → argsL.length = sig.parameters.length)
    (hstack : g.stack = argsL.reverse ++ rest) (hW : 2 * g.monitorRoom + (rest.map fun v => v.category).sum ≤ W) (hdg : decode c.code g.pc = .ok (.invokestatic index, 3)) :
    ∃ T', Stand p l e R s m args below meth c T' [] 0 0 ∧ T'.heap = h ∧ ∀ t, Steps p.tables e below (T'.setTop { g with pc := g.pc + 3, stack := w.toList ++ rest }) t → Steps p.tables e below (T.setTop g) t := by
  obtain ⟨_, _, ⟨T1, L1, k1, n1⟩, -, X1, ⟨Lc, hQ, l1, y1, z1⟩, st⟩ := Jvm.LawKit.callS X hx hown (mvT hZ w1) (mvT hZ w2) (mvT hZ w3) (mvT hZ w4) hy (backOf (W := W) (hM []) hZ w4 w3 hf hl) hg hsize hlen hstack hW hdg (fun _ _ => ⟨rfl, eT, Nat.zero_le _, Nat.zero_le _⟩)
  dsimp only [Pt.U, Pt.locs, Pt.cells, Pt.slots] at X1 l1 y1 z1 st hQ
  subst l1 y1 z1
  obtain ⟨rfl, rfl, e1⟩ := hQ
  exact ⟨T1, X1, e1, st⟩
theorem own_callV (X : Stand p l e R s m args below meth c T [] 0 0) (hx : p.tables.exec = Jvm.exec) (hZ : Z.Warmed39 s.vm) {own C : String} {index : Nat} {y : MethodName} {bytes : ByteArray} {maxL : Nat} {rt : Option FieldType} {fr lo W : Nat} {b : Addr} {argsL rest : List Value} {w : Option Value}
    (hown : s.vm.findClass own = some m.cls) (w1 : (Jvm.Cond.methodLink own index y).before a0 Z = true) (w2 : (Jvm.Cond.declares y).before a0 Z = true) (w3 : (Jvm.Cond.selects C y y).before a0 Z = true) (w4 : (Jvm.Cond.instanceMethod y).before a0 Z = true) (w5 : (Jvm.Cond.code y bytes maxL rt).before a0 Z = true) (w6 : (Jvm.Cond.initialized y.cls).before a0 Z = true)
    (hy : y.cls ≠ "java/lang/invoke/MethodHandle" ∧ y.cls ≠ "java/lang/invoke/VarHandle")
    (hM : own_Pur l Z y bytes maxL rt fr lo (Value.ref b :: argsL).toArray w h) (eT : T.heap = h) (E : Exa Z h b C) (hf : fr + 1 ≤ R.frames) (hl : W + (maxL + 11) + lo ≤ R.locals)
    {g : JFrame} (hg : g.method = m) (hsize : g.locals.size = c.maxLocals) (hlen : ∀ sig, parseMethodDescriptor y.desc = some sig → argsL.length = sig.parameters.length)
    (hstack : g.stack = argsL.reverse ++ .ref b :: rest) (hW : 2 * g.monitorRoom + (rest.map fun v => v.category).sum ≤ W) (hdg : decode c.code g.pc = .ok (.invokevirtual index, 3)) :
    ∃ T', Stand p l e R s m args below meth c T' [] 0 0 ∧ T'.heap = h ∧ ∀ t, Steps p.tables e below (T'.setTop { g with pc := g.pc + 3, stack := w.toList ++ rest }) t → Steps p.tables e below (T.setTop g) t := by
  obtain ⟨cq, kq, qa, qb, qc⟩ := isOf (T := T) hZ eT E
  obtain ⟨_, _, ⟨T1, L1, k1, n1⟩, -, X1, ⟨Lc, hQ, l1, y1, z1⟩, st⟩ := X.virtualBack hx hown (mvT hZ w1) (mvT hZ w2) (notFace_of_selects (args := #[]) (mvT hZ w3)) (mvT hZ w3) (mvT hZ w4) hy (backOf (W := W) (hM []) hZ w5 w6 hf hl) qa qc hg hsize (Steps.refl _) hlen hstack hW hdg (fun _ _ => ⟨rfl, eT, Nat.zero_le _, Nat.zero_le _⟩)
  dsimp only [Pt.U, Pt.locs, Pt.cells, Pt.slots] at X1 l1 y1 z1 st hQ
  subst l1 y1 z1
  obtain ⟨rfl, rfl, e1⟩ := hQ
  exact ⟨T1, X1, e1, fun t k => st.trans k⟩
theorem own_callU (X : Stand p l e R s m args below meth c T [] 0 0) (hx : p.tables.exec = Jvm.exec) (hZ : Z.Warmed39 s.vm) {own C owner : String} {index : Nat} {y z : MethodName} {bytes : ByteArray} {maxL : Nat} {rt : Option FieldType} {fr lo W : Nat} {b : Addr} {argsL rest : List Value} {w : Option Value}
    (hown : s.vm.findClass own = some m.cls) (w1 : (Jvm.Cond.methodLink own index y).before a0 Z = true) (w2 : (Jvm.Cond.sameMethod y.cls owner y.name y.desc).before a0 Z = true) (w3 : (Jvm.Cond.declares ⟨owner, y.name, y.desc⟩).before a0 Z = true) (w4 : (Jvm.Cond.selects C y z).before a0 Z = true) (w5 : (Jvm.Cond.instanceMethod z).before a0 Z = true) (w6 : (Jvm.Cond.code z bytes maxL rt).before a0 Z = true) (w7 : (Jvm.Cond.initialized z.cls).before a0 Z = true)
    (hy : owner ≠ "java/lang/invoke/MethodHandle" ∧ owner ≠ "java/lang/invoke/VarHandle")
    (hM : own_Pur l Z z bytes maxL rt fr lo (Value.ref b :: argsL).toArray w h) (eT : T.heap = h) (E : Exa Z h b C) (hf : fr + 1 ≤ R.frames) (hl : W + (maxL + 11) + lo ≤ R.locals)
    {g : JFrame} (hg : g.method = m) (hsize : g.locals.size = c.maxLocals) (hlen : ∀ sig, parseMethodDescriptor y.desc = some sig → argsL.length = sig.parameters.length)
    (hstack : g.stack = argsL.reverse ++ .ref b :: rest) (hW : 2 * g.monitorRoom + (rest.map fun v => v.category).sum ≤ W) (hdg : decode c.code g.pc = .ok (.invokevirtual index, 3)) :
    ∃ T', Stand p l e R s m args below meth c T' [] 0 0 ∧ T'.heap = h ∧ ∀ t, Steps p.tables e below (T'.setTop { g with pc := g.pc + 3, stack := w.toList ++ rest }) t → Steps p.tables e below (T.setTop g) t := by
  obtain ⟨cq, kq, qa, qb, qc⟩ := isOf (T := T) hZ eT E
  obtain ⟨_, _, ⟨T1, L1, k1, n1⟩, -, X1, ⟨Lc, hQ, l1, y1, z1⟩, st⟩ := X.virtualBackUp hx hown (mvT hZ w1) (mvT hZ w2) (mvT hZ w3) hy (mvT hZ w4) (mvT hZ w5) (backOf (W := W) (hM []) hZ w6 w7 hf hl) qa qc hg hsize (Steps.refl _) hlen hstack hW hdg (fun _ _ => ⟨rfl, eT, Nat.zero_le _, Nat.zero_le _⟩)
  dsimp only [Pt.U, Pt.locs, Pt.cells, Pt.slots] at X1 l1 y1 z1 st hQ
  subst l1 y1 z1
  obtain ⟨rfl, rfl, e1⟩ := hQ
  exact ⟨T1, X1, e1, fun t k => st.trans k⟩
theorem own_ne {a b : Addr} {C n d : String} {x y : Value} (F : Fld Z h a C n d x) (G : Fld Z h b C n d y) (hn : x ≠ y) : a ≠ b := fun q => by
  subst q
  obtain ⟨c1, f1, k1, i1, g1, h1, h2, -, -, -, -, h7⟩ := F
  obtain ⟨c2, f2, k2, i2, g2, j1, j2, -, -, -, -, j7⟩ := G
  cases h1.symm.trans j1
  cases h2.symm.trans j2
  exact hn (Option.some.inj (h7.symm.trans j7))
theorem own_acmp_same {b : Addr} : XT.acmp .eq (.ref b) (.ref b) = true ∧ XT.acmp .ne (.ref b) (.ref b) = false := by simp [XT.acmp]
theorem own_acmp_diff {a b : Addr} (hn : a ≠ b) : XT.acmp .eq (.ref a) (.ref b) = false ∧ XT.acmp .ne (.ref a) (.ref b) = true := by simp [XT.acmp, hn]
theorem own_sta {C n d : String} {a : Addr} (ev : (Term.static C n d).eval args Z none [] Z = some (.ref a)) (wi : (Jvm.Cond.initialized C).before args Z = true) (wl : (Jvm.Cond.laysStatic C n d).before args Z = true) : Sta Z Z.heap C n d (.ref a) := Sta.start ev (Or.inr ⟨wi, wl⟩)
theorem own_fldE {t : Term} {C n d : String} {a : Addr} {x : Value} (ev : t.eval args Z none [] Z = some (.ref a)) (e2 : (Term.field t C n d).eval args Z none [] Z = some x) : Fld Z Z.heap a C n d x := Fld.start ((fld_at ev).symm.trans e2)
theorem own_fldI {t : Term} {C n d : String} {a : Addr} {k : Int32} (ev : t.eval args Z none [] Z = some (.ref a)) (hN : (Jvm.Cond.eq (.field t C n d) (.int k)).value args Z none Z [] = some true) : Fld Z Z.heap a C n d (.int k) := by
  obtain ⟨x, y, g1, g2, k1, k2⟩ := cmp_v (Or.inl hN)
  obtain rfl : Value.int k = y := Option.some.inj ((Term.int_eval k).symm.trans g2)
  obtain ⟨z, rfl⟩ := k2
  obtain rfl : z = k := gotT (Jvm.Cond.eq_ints g1 g2) hN
  exact own_fldE ev g1
theorem own_fldL {t : Term} {C n d : String} {a : Addr} {k : Int64} (ev : t.eval args Z none [] Z = some (.ref a)) (hN : (Jvm.Cond.eq (.field t C n d) (.long k)).value args Z none Z [] = some true) : Fld Z Z.heap a C n d (.long k) := by
  obtain ⟨x, y, g1, g2, k1, k2⟩ := cmp_v (Or.inl hN)
  have g3 : (Term.long k).eval args Z none [] Z = some (.long k) := rfl
  obtain rfl : Value.long k = y := Option.some.inj (g3.symm.trans g2)
  obtain ⟨z, rfl⟩ := k2
  obtain rfl : z = k := gotT (eq_L g1 g2) hN
  exact own_fldE ev g1
theorem own_fldR {t u : Term} {C n d : String} {a b : Addr} (ev : t.eval args Z none [] Z = some (.ref a)) (eu : u.eval args Z none [] Z = some (.ref b)) (hN : (Jvm.Cond.eq (.field t C n d) u).value args Z none Z [] = some true) : Fld Z Z.heap a C n d (.ref b) := by
  obtain ⟨x, y, g1, g2, k1, k2⟩ := cmp_v (Or.inl hN)
  obtain rfl : Value.ref b = y := Option.some.inj (eu.symm.trans g2)
  have hx : x.isRef = true := k2.2
  obtain rfl : x = Value.ref b := gotT (eq_R g1 eu hx rfl) hN
  exact own_fldE ev g1
end Own

/-! 1. What is known of the constants -/
def own_Facts (Z : State) (h0 : Heap) (a_INIT a_ENV a_TRAN : Addr) : Prop :=
  (Sta Z h0 "com/example/keen_checker/keenchecker/OpSet" "INIT" "Lcom/example/keen_checker/keenchecker/OpSet;" (.ref a_INIT)) ∧
  (Exa Z h0 a_INIT "com/example/keen_checker/keenchecker/OpSet") ∧
  (Sta Z h0 "com/example/keen_checker/keenchecker/OpSet" "ENV" "Lcom/example/keen_checker/keenchecker/OpSet;" (.ref a_ENV)) ∧
  (Exa Z h0 a_ENV "com/example/keen_checker/keenchecker/OpSet") ∧
  (Sta Z h0 "com/example/keen_checker/keenchecker/OpSet" "TRAN" "Lcom/example/keen_checker/keenchecker/OpSet;" (.ref a_TRAN)) ∧
  (Exa Z h0 a_TRAN "com/example/keen_checker/keenchecker/OpSet") ∧
  (Fld Z h0 a_INIT "java/lang/Enum" "ordinal" "I" (.int (0 : Int32))) ∧
  (Fld Z h0 a_ENV "java/lang/Enum" "ordinal" "I" (.int (1 : Int32))) ∧
  (Fld Z h0 a_TRAN "java/lang/Enum" "ordinal" "I" (.int (2 : Int32))) ∧
  (a_INIT ≠ a_ENV) ∧
  (a_INIT ≠ a_TRAN) ∧
  (a_ENV ≠ a_TRAN)
theorem own_pn0 : plainName "com/example/keen_checker/keenchecker/OpSet" = true := by first | (simp [plainName, overriddenIn]; done) | decide +kernel
theorem own_ef_d1 (m : MethodId) (x0 : Addr) : entryFrame m #[(.ref x0)] 1 = mkF m 0 #[.val (.ref x0)] [] := by first | (simp [entryFrame, mkF, argsToLocals, Value.category]; done) | rfl
theorem own_d1_0 : decode prog_27_method_4_code 0 = .ok (.aload_n 0, 1) := by decide +kernel
theorem own_d1_1 : decode prog_27_method_4_code 1 = .ok (.getstatic 7, 3) := by decide +kernel
theorem own_d1_4 : decode prog_27_method_4_code 4 = .ok (.if_acmp .ne 9, 3) := by decide +kernel
theorem own_d1_13 : decode prog_27_method_4_code 13 = .ok (.getstatic 7, 3) := by decide +kernel
theorem own_d1_16 : decode prog_27_method_4_code 16 = .ok (.areturn, 1) := by decide +kernel
set_option maxRecDepth 65536 in
set_option maxHeartbeats 40000000 in
theorem own_r_a_INIT (l : Launch) (Z : State) (a0 : Array Value) (hw : ∀ d ∈ tables_1, d.before a0 Z = true) (h0 : Heap) {a_INIT a_ENV a_TRAN : Addr} (H : own_Facts Z h0 a_INIT a_ENV a_TRAN) :
    own_Pur l Z (⟨"com/example/keen_checker/keenchecker/OpSet", "next", "()Lcom/example/keen_checker/keenchecker/OpSet;"⟩ : MethodName) prog_27_method_4_code 1 (some (.object "com/example/keen_checker/keenchecker/OpSet")) 0 0 #[(.ref a_INIT)] (some (.ref a_ENV)) h0 := by
  have H0 := H
  obtain ⟨S_INIT, X_INIT, S_ENV, X_ENV, S_TRAN, X_TRAN, F_INIT_ordinal, F_ENV_ordinal, F_TRAN_ordinal, D_INIT_ENV, D_INIT_TRAN, D_ENV_TRAN⟩ := H0
  refine own_body own_pn0 ?_
  intro p e s m below meth c T0 X0 e0 hx hby hml hown hret hZ
  have hown : s.vm.findClass "com/example/keen_checker/keenchecker/OpSet" = some m.cls := hown
  rw [own_ef_d1 m a_INIT]
  refine own_Fin.back (S' := T0.setTop (mkF m 1 #[.val (.ref a_INIT)] [(.ref a_INIT)])) (fun t k => XS.aloadN X0.here hx rfl (hb hby own_d1_0) rfl rfl k) ?_
  obtain ⟨T1, X1, e1, k1⟩ := getS X0 hx hZ hown (host := "") (hw _ (List.mem_of_getElem? (i := 11) rfl)) Via.refl e0 S_ENV (g := (mkF m 1 #[.val (.ref a_INIT)] [(.ref a_INIT)])) rfl (hb hby own_d1_1)
  refine own_Fin.back (S' := T1.setTop (mkF m 4 #[.val (.ref a_INIT)] [(.ref a_ENV), (.ref a_INIT)])) k1 ?_
  refine own_Fin.back (S' := T1.setTop (mkF m 13 #[.val (.ref a_INIT)] [])) (fun t k => XT.acmpYes X1.here hx rfl (pc0 := 4) (pc' := 13) rfl (hb hby own_d1_4) rfl rfl rfl (own_acmp_diff D_INIT_ENV).2 (by decide) (by decide) k) ?_
  obtain ⟨T2, X2, e2, k2⟩ := getS X1 hx hZ hown (host := "") (hw _ (List.mem_of_getElem? (i := 11) rfl)) Via.refl e1 S_ENV (g := (mkF m 13 #[.val (.ref a_INIT)] [])) rfl (hb hby own_d1_13)
  refine own_Fin.back (S' := T2.setTop (mkF m 16 #[.val (.ref a_INIT)] [(.ref a_ENV)])) k2 ?_
  exact ⟨T2, X2, e2, fun fs hr => retOut X2 hx (w := (.ref a_ENV)) (t := (.object "com/example/keen_checker/keenchecker/OpSet")) hret rfl (Or.inr (Or.inr (Or.inr (Or.inr ⟨rfl, rfl, rfl⟩)))) (hb hby own_d1_16) hr⟩
theorem own_d1_7 : decode prog_27_method_4_code 7 = .ok (.getstatic 10, 3) := by decide +kernel
theorem own_d1_10 : decode prog_27_method_4_code 10 = .ok (.goto 6, 3) := by decide +kernel
set_option maxRecDepth 65536 in
set_option maxHeartbeats 40000000 in
theorem own_r_a_ENV (l : Launch) (Z : State) (a0 : Array Value) (hw : ∀ d ∈ tables_1, d.before a0 Z = true) (h0 : Heap) {a_INIT a_ENV a_TRAN : Addr} (H : own_Facts Z h0 a_INIT a_ENV a_TRAN) :
    own_Pur l Z (⟨"com/example/keen_checker/keenchecker/OpSet", "next", "()Lcom/example/keen_checker/keenchecker/OpSet;"⟩ : MethodName) prog_27_method_4_code 1 (some (.object "com/example/keen_checker/keenchecker/OpSet")) 0 0 #[(.ref a_ENV)] (some (.ref a_TRAN)) h0 := by
  have H0 := H
  obtain ⟨S_INIT, X_INIT, S_ENV, X_ENV, S_TRAN, X_TRAN, F_INIT_ordinal, F_ENV_ordinal, F_TRAN_ordinal, D_INIT_ENV, D_INIT_TRAN, D_ENV_TRAN⟩ := H0
  refine own_body own_pn0 ?_
  intro p e s m below meth c T0 X0 e0 hx hby hml hown hret hZ
  have hown : s.vm.findClass "com/example/keen_checker/keenchecker/OpSet" = some m.cls := hown
  rw [own_ef_d1 m a_ENV]
  refine own_Fin.back (S' := T0.setTop (mkF m 1 #[.val (.ref a_ENV)] [(.ref a_ENV)])) (fun t k => XS.aloadN X0.here hx rfl (hb hby own_d1_0) rfl rfl k) ?_
  obtain ⟨T3, X3, e3, k3⟩ := getS X0 hx hZ hown (host := "") (hw _ (List.mem_of_getElem? (i := 11) rfl)) Via.refl e0 S_ENV (g := (mkF m 1 #[.val (.ref a_ENV)] [(.ref a_ENV)])) rfl (hb hby own_d1_1)
  refine own_Fin.back (S' := T3.setTop (mkF m 4 #[.val (.ref a_ENV)] [(.ref a_ENV), (.ref a_ENV)])) k3 ?_
  refine own_Fin.back (S' := T3.setTop (mkF m 7 #[.val (.ref a_ENV)] [])) (fun t k => XT.acmpNo X3.here hx rfl (hb hby own_d1_4) rfl rfl rfl own_acmp_same.2 k) ?_
  obtain ⟨T4, X4, e4, k4⟩ := getS X3 hx hZ hown (host := "") (hw _ (List.mem_of_getElem? (i := 12) rfl)) Via.refl e3 S_TRAN (g := (mkF m 7 #[.val (.ref a_ENV)] [])) rfl (hb hby own_d1_7)
  refine own_Fin.back (S' := T4.setTop (mkF m 10 #[.val (.ref a_ENV)] [(.ref a_TRAN)])) k4 ?_
  refine own_Fin.back (S' := T4.setTop (mkF m 16 #[.val (.ref a_ENV)] [(.ref a_TRAN)])) (fun t k => XS.goto X4.here hx rfl (pc0 := 10) (pc' := 16) rfl (hb hby own_d1_10) (by decide) (by decide) k) ?_
  exact ⟨T4, X4, e4, fun fs hr => retOut X4 hx (w := (.ref a_TRAN)) (t := (.object "com/example/keen_checker/keenchecker/OpSet")) hret rfl (Or.inr (Or.inr (Or.inr (Or.inr ⟨rfl, rfl, rfl⟩)))) (hb hby own_d1_16) hr⟩
set_option maxRecDepth 65536 in
set_option maxHeartbeats 40000000 in
theorem own_r_a_TRAN (l : Launch) (Z : State) (a0 : Array Value) (hw : ∀ d ∈ tables_1, d.before a0 Z = true) (h0 : Heap) {a_INIT a_ENV a_TRAN : Addr} (H : own_Facts Z h0 a_INIT a_ENV a_TRAN) :
    own_Pur l Z (⟨"com/example/keen_checker/keenchecker/OpSet", "next", "()Lcom/example/keen_checker/keenchecker/OpSet;"⟩ : MethodName) prog_27_method_4_code 1 (some (.object "com/example/keen_checker/keenchecker/OpSet")) 0 0 #[(.ref a_TRAN)] (some (.ref a_ENV)) h0 := by
  have H0 := H
  obtain ⟨S_INIT, X_INIT, S_ENV, X_ENV, S_TRAN, X_TRAN, F_INIT_ordinal, F_ENV_ordinal, F_TRAN_ordinal, D_INIT_ENV, D_INIT_TRAN, D_ENV_TRAN⟩ := H0
  refine own_body own_pn0 ?_
  intro p e s m below meth c T0 X0 e0 hx hby hml hown hret hZ
  have hown : s.vm.findClass "com/example/keen_checker/keenchecker/OpSet" = some m.cls := hown
  rw [own_ef_d1 m a_TRAN]
  refine own_Fin.back (S' := T0.setTop (mkF m 1 #[.val (.ref a_TRAN)] [(.ref a_TRAN)])) (fun t k => XS.aloadN X0.here hx rfl (hb hby own_d1_0) rfl rfl k) ?_
  obtain ⟨T5, X5, e5, k5⟩ := getS X0 hx hZ hown (host := "") (hw _ (List.mem_of_getElem? (i := 11) rfl)) Via.refl e0 S_ENV (g := (mkF m 1 #[.val (.ref a_TRAN)] [(.ref a_TRAN)])) rfl (hb hby own_d1_1)
  refine own_Fin.back (S' := T5.setTop (mkF m 4 #[.val (.ref a_TRAN)] [(.ref a_ENV), (.ref a_TRAN)])) k5 ?_
  refine own_Fin.back (S' := T5.setTop (mkF m 13 #[.val (.ref a_TRAN)] [])) (fun t k => XT.acmpYes X5.here hx rfl (pc0 := 4) (pc' := 13) rfl (hb hby own_d1_4) rfl rfl rfl (own_acmp_diff D_ENV_TRAN.symm).2 (by decide) (by decide) k) ?_
  obtain ⟨T6, X6, e6, k6⟩ := getS X5 hx hZ hown (host := "") (hw _ (List.mem_of_getElem? (i := 11) rfl)) Via.refl e5 S_ENV (g := (mkF m 13 #[.val (.ref a_TRAN)] [])) rfl (hb hby own_d1_13)
  refine own_Fin.back (S' := T6.setTop (mkF m 16 #[.val (.ref a_TRAN)] [(.ref a_ENV)])) k6 ?_
  exact ⟨T6, X6, e6, fun fs hr => retOut X6 hx (w := (.ref a_ENV)) (t := (.object "com/example/keen_checker/keenchecker/OpSet")) hret rfl (Or.inr (Or.inr (Or.inr (Or.inr ⟨rfl, rfl, rfl⟩)))) (hb hby own_d1_16) hr⟩
theorem own_pn1 : plainName "com/example/keen_checker/keenchecker/OpSetNextPinLaw" = true := by first | (simp [plainName, overriddenIn]; done) | decide +kernel
theorem own_ef_law (m : MethodId) (x0 : Int32) : entryFrame m #[(.int x0)] maxLocals = mkF m 0 #[.val (.int x0), .unset, .unset, .unset, .unset, .unset, .unset, .unset] [] := by first | (simp [entryFrame, mkF, argsToLocals, Value.category, maxLocals]; done) | rfl
set_option maxRecDepth 65536 in
set_option maxHeartbeats 40000000 in
theorem own_law (l : Launch) (Z : State) (a0 : Array Value) (hw : ∀ d ∈ tables_1, d.before a0 Z = true) (h0 : Heap) {a_INIT a_ENV a_TRAN : Addr} (H : own_Facts Z h0 a_INIT a_ENV a_TRAN) (p0 : Int32) :
    own_Pur l Z x code maxLocals (some .boolean) 4 96 #[(.int p0)] (some (.int (1 : Int32))) h0 := by
  have H0 := H
  obtain ⟨S_INIT, X_INIT, S_ENV, X_ENV, S_TRAN, X_TRAN, F_INIT_ordinal, F_ENV_ordinal, F_TRAN_ordinal, D_INIT_ENV, D_INIT_TRAN, D_ENV_TRAN⟩ := H0
  refine own_body own_pn1 ?_
  intro p e s m below meth c T0 X0 e0 hx hby hml hown hret hZ
  have hown : s.vm.findClass "com/example/keen_checker/keenchecker/OpSetNextPinLaw" = some m.cls := hown
  rw [own_ef_law m p0]
  refine own_Fin.back (S' := T0.setTop (mkF m 1 #[.val (.int p0), .unset, .unset, .unset, .unset, .unset, .unset, .unset] [(.int p0)])) (fun t k => XS.iloadN X0.here hx rfl (hb hby at_0) rfl k) ?_
  refine own_Fin.back (S' := T0.setTop (mkF m 3 #[.val (.int p0), .unset, .unset, .unset, .unset, .unset, .unset, .unset] [(.int (2147483647 : Int32)), (.int p0)])) (fun t k => X0.ldcI hx hown (mvT hZ (hw _ (List.mem_of_getElem? (i := 0) rfl))) rfl (hb hby at_1) k) ?_
  refine own_Fin.back (S' := T0.setTop (mkF m 4 #[.val (.int p0), .unset, .unset, .unset, .unset, .unset, .unset, .unset] [(.int (p0 &&& (2147483647 : Int32)))])) (fun t k => XS.iand X0.here hx rfl (hb hby at_3) rfl k) ?_
  refine own_Fin.back (S' := T0.setTop (mkF m 5 #[.val (.int p0), .unset, .unset, .unset, .unset, .unset, .unset, .unset] [(.int (3 : Int32)), (.int (p0 &&& (2147483647 : Int32)))])) (fun t k => XS.iconst X0.here hx rfl (hb hby at_4) k) ?_
  refine own_Fin.back (S' := T0.setTop (mkF m 6 #[.val (.int p0), .unset, .unset, .unset, .unset, .unset, .unset, .unset] [(.int ((p0 &&& (2147483647 : Int32)) % (3 : Int32)))])) (fun t k => iremM X0 hx rfl (hb hby at_5) rfl (by decide) k) ?_
  refine own_Fin.back (S' := T0.setTop (mkF m 7 #[.val (.int p0), .val (.int ((p0 &&& (2147483647 : Int32)) % (3 : Int32))), .unset, .unset, .unset, .unset, .unset, .unset] [])) (fun t k => XS.istoreN X0.here hx rfl (hb hby at_6) rfl (l' := #[.val (.int p0), .val (.int ((p0 &&& (2147483647 : Int32)) % (3 : Int32))), .unset, .unset, .unset, .unset, .unset, .unset]) rfl k) ?_
  refine own_Fin.back (S' := T0.setTop (mkF m 8 #[.val (.int p0), .val (.int ((p0 &&& (2147483647 : Int32)) % (3 : Int32))), .unset, .unset, .unset, .unset, .unset, .unset] [(.int ((p0 &&& (2147483647 : Int32)) % (3 : Int32)))])) (fun t k => XS.iloadN X0.here hx rfl (hb hby at_7) rfl k) ?_
  rcases hc7 : ifCond.holds .ne ((p0 &&& (2147483647 : Int32)) % (3 : Int32)) with _ | _
  · refine own_Fin.back (S' := T0.setTop (mkF m 11 #[.val (.int p0), .val (.int ((p0 &&& (2147483647 : Int32)) % (3 : Int32))), .unset, .unset, .unset, .unset, .unset, .unset] [])) (fun t k => XS.ifNo X0.here hx rfl (hb hby at_8) rfl hc7 k) ?_
    obtain ⟨T8, X8, e8, k8⟩ := getS X0 hx hZ hown (host := "") (hw _ (List.mem_of_getElem? (i := 1) rfl)) Via.refl e0 S_INIT (g := (mkF m 11 #[.val (.int p0), .val (.int ((p0 &&& (2147483647 : Int32)) % (3 : Int32))), .unset, .unset, .unset, .unset, .unset, .unset] [])) rfl (hb hby at_11)
    refine own_Fin.back (S' := T8.setTop (mkF m 14 #[.val (.int p0), .val (.int ((p0 &&& (2147483647 : Int32)) % (3 : Int32))), .unset, .unset, .unset, .unset, .unset, .unset] [(.ref a_INIT)])) k8 ?_
    refine own_Fin.back (S' := T8.setTop (mkF m 15 #[.val (.int p0), .val (.int ((p0 &&& (2147483647 : Int32)) % (3 : Int32))), .val (.ref a_INIT), .unset, .unset, .unset, .unset, .unset] [])) (fun t k => XS.astoreN X8.here hx rfl (hb hby at_14) rfl rfl (l' := #[.val (.int p0), .val (.int ((p0 &&& (2147483647 : Int32)) % (3 : Int32))), .val (.ref a_INIT), .unset, .unset, .unset, .unset, .unset]) rfl k) ?_
    obtain ⟨T9, X9, e9, k9⟩ := getS X8 hx hZ hown (host := "") (hw _ (List.mem_of_getElem? (i := 4) rfl)) Via.refl e8 S_ENV (g := (mkF m 15 #[.val (.int p0), .val (.int ((p0 &&& (2147483647 : Int32)) % (3 : Int32))), .val (.ref a_INIT), .unset, .unset, .unset, .unset, .unset] [])) rfl (hb hby at_15)
    refine own_Fin.back (S' := T9.setTop (mkF m 18 #[.val (.int p0), .val (.int ((p0 &&& (2147483647 : Int32)) % (3 : Int32))), .val (.ref a_INIT), .unset, .unset, .unset, .unset, .unset] [(.ref a_ENV)])) k9 ?_
    refine own_Fin.back (S' := T9.setTop (mkF m 19 #[.val (.int p0), .val (.int ((p0 &&& (2147483647 : Int32)) % (3 : Int32))), .val (.ref a_INIT), .val (.ref a_ENV), .unset, .unset, .unset, .unset] [])) (fun t k => XS.astoreN X9.here hx rfl (hb hby at_18) rfl rfl (l' := #[.val (.int p0), .val (.int ((p0 &&& (2147483647 : Int32)) % (3 : Int32))), .val (.ref a_INIT), .val (.ref a_ENV), .unset, .unset, .unset, .unset]) rfl k) ?_
    refine own_Fin.back (S' := T9.setTop (mkF m 46 #[.val (.int p0), .val (.int ((p0 &&& (2147483647 : Int32)) % (3 : Int32))), .val (.ref a_INIT), .val (.ref a_ENV), .unset, .unset, .unset, .unset] [])) (fun t k => XS.goto X9.here hx rfl (pc0 := 19) (pc' := 46) rfl (hb hby at_19) (by decide) (by decide) k) ?_
    refine own_Fin.back (S' := T9.setTop (mkF m 47 #[.val (.int p0), .val (.int ((p0 &&& (2147483647 : Int32)) % (3 : Int32))), .val (.ref a_INIT), .val (.ref a_ENV), .unset, .unset, .unset, .unset] [(.ref a_INIT)])) (fun t k => XS.aloadN X9.here hx rfl (hb hby at_46) rfl rfl k) ?_
    obtain ⟨T10, X10, e10, k10⟩ := own_callV X9 hx hZ (C := "com/example/keen_checker/keenchecker/OpSet") (y := (⟨"com/example/keen_checker/keenchecker/OpSet", "next", "()Lcom/example/keen_checker/keenchecker/OpSet;"⟩ : MethodName)) (W := 0) hown (hw _ (List.mem_of_getElem? (i := 6) rfl)) (hw _ (List.mem_of_getElem? (i := 7) rfl)) (hw _ (List.mem_of_getElem? (i := 9) rfl)) (hw _ (List.mem_of_getElem? (i := 8) rfl)) (hw _ (List.mem_of_getElem? (i := 10) rfl)) (hw _ (List.mem_of_getElem? (i := 2) rfl)) (by decide) (own_r_a_INIT l Z a0 hw h0 H) e9 X_INIT (by decide) (by decide) (g := (mkF m 47 #[.val (.int p0), .val (.int ((p0 &&& (2147483647 : Int32)) % (3 : Int32))), .val (.ref a_INIT), .val (.ref a_ENV), .unset, .unset, .unset, .unset] [(.ref a_INIT)])) rfl (by rw [hml]; rfl) (argsL := []) (rest := []) (lenOf (show parseMethodDescriptor "()Lcom/example/keen_checker/keenchecker/OpSet;" = some ⟨[], some (.object "com/example/keen_checker/keenchecker/OpSet")⟩ by decide +kernel) rfl) rfl (by show 2 * 0 + _ ≤ _; exact Nat.le_of_eq rfl) (hb hby at_47)
    refine own_Fin.back (S' := T10.setTop (mkF m 50 #[.val (.int p0), .val (.int ((p0 &&& (2147483647 : Int32)) % (3 : Int32))), .val (.ref a_INIT), .val (.ref a_ENV), .unset, .unset, .unset, .unset] [(.ref a_ENV)])) k10 ?_
    refine own_Fin.back (S' := T10.setTop (mkF m 52 #[.val (.int p0), .val (.int ((p0 &&& (2147483647 : Int32)) % (3 : Int32))), .val (.ref a_INIT), .val (.ref a_ENV), .val (.ref a_ENV), .unset, .unset, .unset] [])) (fun t k => XS.astore X10.here hx rfl (hb hby at_50) rfl rfl (l' := #[.val (.int p0), .val (.int ((p0 &&& (2147483647 : Int32)) % (3 : Int32))), .val (.ref a_INIT), .val (.ref a_ENV), .val (.ref a_ENV), .unset, .unset, .unset]) rfl k) ?_
    refine own_Fin.back (S' := T10.setTop (mkF m 54 #[.val (.int p0), .val (.int ((p0 &&& (2147483647 : Int32)) % (3 : Int32))), .val (.ref a_INIT), .val (.ref a_ENV), .val (.ref a_ENV), .unset, .unset, .unset] [(.ref a_ENV)])) (fun t k => XS.aload X10.here hx rfl (hb hby at_52) rfl rfl k) ?_
    obtain ⟨T11, X11, e11, k11⟩ := own_callV X10 hx hZ (C := "com/example/keen_checker/keenchecker/OpSet") (y := (⟨"com/example/keen_checker/keenchecker/OpSet", "next", "()Lcom/example/keen_checker/keenchecker/OpSet;"⟩ : MethodName)) (W := 0) hown (hw _ (List.mem_of_getElem? (i := 6) rfl)) (hw _ (List.mem_of_getElem? (i := 7) rfl)) (hw _ (List.mem_of_getElem? (i := 9) rfl)) (hw _ (List.mem_of_getElem? (i := 8) rfl)) (hw _ (List.mem_of_getElem? (i := 10) rfl)) (hw _ (List.mem_of_getElem? (i := 2) rfl)) (by decide) (own_r_a_ENV l Z a0 hw h0 H) e10 X_ENV (by decide) (by decide) (g := (mkF m 54 #[.val (.int p0), .val (.int ((p0 &&& (2147483647 : Int32)) % (3 : Int32))), .val (.ref a_INIT), .val (.ref a_ENV), .val (.ref a_ENV), .unset, .unset, .unset] [(.ref a_ENV)])) rfl (by rw [hml]; rfl) (argsL := []) (rest := []) (lenOf (show parseMethodDescriptor "()Lcom/example/keen_checker/keenchecker/OpSet;" = some ⟨[], some (.object "com/example/keen_checker/keenchecker/OpSet")⟩ by decide +kernel) rfl) rfl (by show 2 * 0 + _ ≤ _; exact Nat.le_of_eq rfl) (hb hby at_54)
    refine own_Fin.back (S' := T11.setTop (mkF m 57 #[.val (.int p0), .val (.int ((p0 &&& (2147483647 : Int32)) % (3 : Int32))), .val (.ref a_INIT), .val (.ref a_ENV), .val (.ref a_ENV), .unset, .unset, .unset] [(.ref a_TRAN)])) k11 ?_
    refine own_Fin.back (S' := T11.setTop (mkF m 59 #[.val (.int p0), .val (.int ((p0 &&& (2147483647 : Int32)) % (3 : Int32))), .val (.ref a_INIT), .val (.ref a_ENV), .val (.ref a_ENV), .val (.ref a_TRAN), .unset, .unset] [])) (fun t k => XS.astore X11.here hx rfl (hb hby at_57) rfl rfl (l' := #[.val (.int p0), .val (.int ((p0 &&& (2147483647 : Int32)) % (3 : Int32))), .val (.ref a_INIT), .val (.ref a_ENV), .val (.ref a_ENV), .val (.ref a_TRAN), .unset, .unset]) rfl k) ?_
    refine own_Fin.back (S' := T11.setTop (mkF m 61 #[.val (.int p0), .val (.int ((p0 &&& (2147483647 : Int32)) % (3 : Int32))), .val (.ref a_INIT), .val (.ref a_ENV), .val (.ref a_ENV), .val (.ref a_TRAN), .unset, .unset] [(.ref a_TRAN)])) (fun t k => XS.aload X11.here hx rfl (hb hby at_59) rfl rfl k) ?_
    obtain ⟨T12, X12, e12, k12⟩ := own_callV X11 hx hZ (C := "com/example/keen_checker/keenchecker/OpSet") (y := (⟨"com/example/keen_checker/keenchecker/OpSet", "next", "()Lcom/example/keen_checker/keenchecker/OpSet;"⟩ : MethodName)) (W := 0) hown (hw _ (List.mem_of_getElem? (i := 6) rfl)) (hw _ (List.mem_of_getElem? (i := 7) rfl)) (hw _ (List.mem_of_getElem? (i := 9) rfl)) (hw _ (List.mem_of_getElem? (i := 8) rfl)) (hw _ (List.mem_of_getElem? (i := 10) rfl)) (hw _ (List.mem_of_getElem? (i := 2) rfl)) (by decide) (own_r_a_TRAN l Z a0 hw h0 H) e11 X_TRAN (by decide) (by decide) (g := (mkF m 61 #[.val (.int p0), .val (.int ((p0 &&& (2147483647 : Int32)) % (3 : Int32))), .val (.ref a_INIT), .val (.ref a_ENV), .val (.ref a_ENV), .val (.ref a_TRAN), .unset, .unset] [(.ref a_TRAN)])) rfl (by rw [hml]; rfl) (argsL := []) (rest := []) (lenOf (show parseMethodDescriptor "()Lcom/example/keen_checker/keenchecker/OpSet;" = some ⟨[], some (.object "com/example/keen_checker/keenchecker/OpSet")⟩ by decide +kernel) rfl) rfl (by show 2 * 0 + _ ≤ _; exact Nat.le_of_eq rfl) (hb hby at_61)
    refine own_Fin.back (S' := T12.setTop (mkF m 64 #[.val (.int p0), .val (.int ((p0 &&& (2147483647 : Int32)) % (3 : Int32))), .val (.ref a_INIT), .val (.ref a_ENV), .val (.ref a_ENV), .val (.ref a_TRAN), .unset, .unset] [(.ref a_ENV)])) k12 ?_
    refine own_Fin.back (S' := T12.setTop (mkF m 66 #[.val (.int p0), .val (.int ((p0 &&& (2147483647 : Int32)) % (3 : Int32))), .val (.ref a_INIT), .val (.ref a_ENV), .val (.ref a_ENV), .val (.ref a_TRAN), .val (.ref a_ENV), .unset] [])) (fun t k => XS.astore X12.here hx rfl (hb hby at_64) rfl rfl (l' := #[.val (.int p0), .val (.int ((p0 &&& (2147483647 : Int32)) % (3 : Int32))), .val (.ref a_INIT), .val (.ref a_ENV), .val (.ref a_ENV), .val (.ref a_TRAN), .val (.ref a_ENV), .unset]) rfl k) ?_
    refine own_Fin.back (S' := T12.setTop (mkF m 68 #[.val (.int p0), .val (.int ((p0 &&& (2147483647 : Int32)) % (3 : Int32))), .val (.ref a_INIT), .val (.ref a_ENV), .val (.ref a_ENV), .val (.ref a_TRAN), .val (.ref a_ENV), .unset] [(.ref a_TRAN)])) (fun t k => XS.aload X12.here hx rfl (hb hby at_66) rfl rfl k) ?_
    refine own_Fin.back (S' := T12.setTop (mkF m 70 #[.val (.int p0), .val (.int ((p0 &&& (2147483647 : Int32)) % (3 : Int32))), .val (.ref a_INIT), .val (.ref a_ENV), .val (.ref a_ENV), .val (.ref a_TRAN), .val (.ref a_ENV), .unset] [(.ref a_ENV), (.ref a_TRAN)])) (fun t k => XS.aload X12.here hx rfl (hb hby at_68) rfl rfl k) ?_
    refine own_Fin.back (S' := T12.setTop (mkF m 73 #[.val (.int p0), .val (.int ((p0 &&& (2147483647 : Int32)) % (3 : Int32))), .val (.ref a_INIT), .val (.ref a_ENV), .val (.ref a_ENV), .val (.ref a_TRAN), .val (.ref a_ENV), .unset] [])) (fun t k => XT.acmpNo X12.here hx rfl (hb hby at_70) rfl rfl rfl (own_acmp_diff D_ENV_TRAN.symm).1 k) ?_
    refine own_Fin.back (S' := T12.setTop (mkF m 75 #[.val (.int p0), .val (.int ((p0 &&& (2147483647 : Int32)) % (3 : Int32))), .val (.ref a_INIT), .val (.ref a_ENV), .val (.ref a_ENV), .val (.ref a_TRAN), .val (.ref a_ENV), .unset] [(.ref a_TRAN)])) (fun t k => XS.aload X12.here hx rfl (hb hby at_73) rfl rfl k) ?_
    obtain ⟨T13, X13, e13, k13⟩ := getS X12 hx hZ hown (host := "") (hw _ (List.mem_of_getElem? (i := 1) rfl)) Via.refl e12 S_INIT (g := (mkF m 75 #[.val (.int p0), .val (.int ((p0 &&& (2147483647 : Int32)) % (3 : Int32))), .val (.ref a_INIT), .val (.ref a_ENV), .val (.ref a_ENV), .val (.ref a_TRAN), .val (.ref a_ENV), .unset] [(.ref a_TRAN)])) rfl (hb hby at_75)
    refine own_Fin.back (S' := T13.setTop (mkF m 78 #[.val (.int p0), .val (.int ((p0 &&& (2147483647 : Int32)) % (3 : Int32))), .val (.ref a_INIT), .val (.ref a_ENV), .val (.ref a_ENV), .val (.ref a_TRAN), .val (.ref a_ENV), .unset] [(.ref a_INIT), (.ref a_TRAN)])) k13 ?_
    refine own_Fin.back (S' := T13.setTop (mkF m 81 #[.val (.int p0), .val (.int ((p0 &&& (2147483647 : Int32)) % (3 : Int32))), .val (.ref a_INIT), .val (.ref a_ENV), .val (.ref a_ENV), .val (.ref a_TRAN), .val (.ref a_ENV), .unset] [])) (fun t k => XT.acmpNo X13.here hx rfl (hb hby at_78) rfl rfl rfl (own_acmp_diff D_INIT_TRAN.symm).1 k) ?_
    refine own_Fin.back (S' := T13.setTop (mkF m 83 #[.val (.int p0), .val (.int ((p0 &&& (2147483647 : Int32)) % (3 : Int32))), .val (.ref a_INIT), .val (.ref a_ENV), .val (.ref a_ENV), .val (.ref a_TRAN), .val (.ref a_ENV), .unset] [(.ref a_ENV)])) (fun t k => XS.aload X13.here hx rfl (hb hby at_81) rfl rfl k) ?_
    refine own_Fin.back (S' := T13.setTop (mkF m 85 #[.val (.int p0), .val (.int ((p0 &&& (2147483647 : Int32)) % (3 : Int32))), .val (.ref a_INIT), .val (.ref a_ENV), .val (.ref a_ENV), .val (.ref a_TRAN), .val (.ref a_ENV), .unset] [(.ref a_ENV), (.ref a_ENV)])) (fun t k => XS.aload X13.here hx rfl (hb hby at_83) rfl rfl k) ?_
    refine own_Fin.back (S' := T13.setTop (mkF m 88 #[.val (.int p0), .val (.int ((p0 &&& (2147483647 : Int32)) % (3 : Int32))), .val (.ref a_INIT), .val (.ref a_ENV), .val (.ref a_ENV), .val (.ref a_TRAN), .val (.ref a_ENV), .unset] [])) (fun t k => XT.acmpNo X13.here hx rfl (hb hby at_85) rfl rfl rfl own_acmp_same.2 k) ?_
    refine own_Fin.back (S' := T13.setTop (mkF m 89 #[.val (.int p0), .val (.int ((p0 &&& (2147483647 : Int32)) % (3 : Int32))), .val (.ref a_INIT), .val (.ref a_ENV), .val (.ref a_ENV), .val (.ref a_TRAN), .val (.ref a_ENV), .unset] [(.int (1 : Int32))])) (fun t k => XS.iconst X13.here hx rfl (hb hby at_88) k) ?_
    refine own_Fin.back (S' := T13.setTop (mkF m 93 #[.val (.int p0), .val (.int ((p0 &&& (2147483647 : Int32)) % (3 : Int32))), .val (.ref a_INIT), .val (.ref a_ENV), .val (.ref a_ENV), .val (.ref a_TRAN), .val (.ref a_ENV), .unset] [(.int (1 : Int32))])) (fun t k => XS.goto X13.here hx rfl (pc0 := 89) (pc' := 93) rfl (hb hby at_89) (by decide) (by decide) k) ?_
    refine own_Fin.back (S' := T13.setTop (mkF m 95 #[.val (.int p0), .val (.int ((p0 &&& (2147483647 : Int32)) % (3 : Int32))), .val (.ref a_INIT), .val (.ref a_ENV), .val (.ref a_ENV), .val (.ref a_TRAN), .val (.ref a_ENV), .val (.int (1 : Int32))] [])) (fun t k => XS.istore X13.here hx rfl (hb hby at_93) rfl (l' := #[.val (.int p0), .val (.int ((p0 &&& (2147483647 : Int32)) % (3 : Int32))), .val (.ref a_INIT), .val (.ref a_ENV), .val (.ref a_ENV), .val (.ref a_TRAN), .val (.ref a_ENV), .val (.int (1 : Int32))]) rfl k) ?_
    refine own_Fin.back (S' := T13.setTop (mkF m 97 #[.val (.int p0), .val (.int ((p0 &&& (2147483647 : Int32)) % (3 : Int32))), .val (.ref a_INIT), .val (.ref a_ENV), .val (.ref a_ENV), .val (.ref a_TRAN), .val (.ref a_ENV), .val (.int (1 : Int32))] [(.ref a_ENV)])) (fun t k => XS.aload X13.here hx rfl (hb hby at_95) rfl rfl k) ?_
    refine own_Fin.back (S' := T13.setTop (mkF m 98 #[.val (.int p0), .val (.int ((p0 &&& (2147483647 : Int32)) % (3 : Int32))), .val (.ref a_INIT), .val (.ref a_ENV), .val (.ref a_ENV), .val (.ref a_TRAN), .val (.ref a_ENV), .val (.int (1 : Int32))] [(.ref a_ENV), (.ref a_ENV)])) (fun t k => XS.aloadN X13.here hx rfl (hb hby at_97) rfl rfl k) ?_
    refine own_Fin.back (S' := T13.setTop (mkF m 101 #[.val (.int p0), .val (.int ((p0 &&& (2147483647 : Int32)) % (3 : Int32))), .val (.ref a_INIT), .val (.ref a_ENV), .val (.ref a_ENV), .val (.ref a_TRAN), .val (.ref a_ENV), .val (.int (1 : Int32))] [])) (fun t k => XT.acmpNo X13.here hx rfl (hb hby at_98) rfl rfl rfl own_acmp_same.2 k) ?_
    refine own_Fin.back (S' := T13.setTop (mkF m 103 #[.val (.int p0), .val (.int ((p0 &&& (2147483647 : Int32)) % (3 : Int32))), .val (.ref a_INIT), .val (.ref a_ENV), .val (.ref a_ENV), .val (.ref a_TRAN), .val (.ref a_ENV), .val (.int (1 : Int32))] [(.ref a_ENV)])) (fun t k => XS.aload X13.here hx rfl (hb hby at_101) rfl rfl k) ?_
    obtain ⟨T14, X14, e14, k14⟩ := getS X13 hx hZ hown (host := "") (hw _ (List.mem_of_getElem? (i := 1) rfl)) Via.refl e13 S_INIT (g := (mkF m 103 #[.val (.int p0), .val (.int ((p0 &&& (2147483647 : Int32)) % (3 : Int32))), .val (.ref a_INIT), .val (.ref a_ENV), .val (.ref a_ENV), .val (.ref a_TRAN), .val (.ref a_ENV), .val (.int (1 : Int32))] [(.ref a_ENV)])) rfl (hb hby at_103)
    refine own_Fin.back (S' := T14.setTop (mkF m 106 #[.val (.int p0), .val (.int ((p0 &&& (2147483647 : Int32)) % (3 : Int32))), .val (.ref a_INIT), .val (.ref a_ENV), .val (.ref a_ENV), .val (.ref a_TRAN), .val (.ref a_ENV), .val (.int (1 : Int32))] [(.ref a_INIT), (.ref a_ENV)])) k14 ?_
    refine own_Fin.back (S' := T14.setTop (mkF m 109 #[.val (.int p0), .val (.int ((p0 &&& (2147483647 : Int32)) % (3 : Int32))), .val (.ref a_INIT), .val (.ref a_ENV), .val (.ref a_ENV), .val (.ref a_TRAN), .val (.ref a_ENV), .val (.int (1 : Int32))] [])) (fun t k => XT.acmpNo X14.here hx rfl (hb hby at_106) rfl rfl rfl (own_acmp_diff D_INIT_ENV.symm).1 k) ?_
    refine own_Fin.back (S' := T14.setTop (mkF m 111 #[.val (.int p0), .val (.int ((p0 &&& (2147483647 : Int32)) % (3 : Int32))), .val (.ref a_INIT), .val (.ref a_ENV), .val (.ref a_ENV), .val (.ref a_TRAN), .val (.ref a_ENV), .val (.int (1 : Int32))] [(.ref a_ENV)])) (fun t k => XS.aload X14.here hx rfl (hb hby at_109) rfl rfl k) ?_
    refine own_Fin.back (S' := T14.setTop (mkF m 112 #[.val (.int p0), .val (.int ((p0 &&& (2147483647 : Int32)) % (3 : Int32))), .val (.ref a_INIT), .val (.ref a_ENV), .val (.ref a_ENV), .val (.ref a_TRAN), .val (.ref a_ENV), .val (.int (1 : Int32))] [(.ref a_INIT), (.ref a_ENV)])) (fun t k => XS.aloadN X14.here hx rfl (hb hby at_111) rfl rfl k) ?_
    refine own_Fin.back (S' := T14.setTop (mkF m 115 #[.val (.int p0), .val (.int ((p0 &&& (2147483647 : Int32)) % (3 : Int32))), .val (.ref a_INIT), .val (.ref a_ENV), .val (.ref a_ENV), .val (.ref a_TRAN), .val (.ref a_ENV), .val (.int (1 : Int32))] [])) (fun t k => XT.acmpNo X14.here hx rfl (hb hby at_112) rfl rfl rfl (own_acmp_diff D_INIT_ENV.symm).1 k) ?_
    refine own_Fin.back (S' := T14.setTop (mkF m 117 #[.val (.int p0), .val (.int ((p0 &&& (2147483647 : Int32)) % (3 : Int32))), .val (.ref a_INIT), .val (.ref a_ENV), .val (.ref a_ENV), .val (.ref a_TRAN), .val (.ref a_ENV), .val (.int (1 : Int32))] [(.int (1 : Int32))])) (fun t k => XS.iload X14.here hx rfl (hb hby at_115) rfl k) ?_
    refine own_Fin.back (S' := T14.setTop (mkF m 120 #[.val (.int p0), .val (.int ((p0 &&& (2147483647 : Int32)) % (3 : Int32))), .val (.ref a_INIT), .val (.ref a_ENV), .val (.ref a_ENV), .val (.ref a_TRAN), .val (.ref a_ENV), .val (.int (1 : Int32))] [])) (fun t k => XS.ifNo X14.here hx rfl (hb hby at_117) rfl (by decide) k) ?_
    refine own_Fin.back (S' := T14.setTop (mkF m 121 #[.val (.int p0), .val (.int ((p0 &&& (2147483647 : Int32)) % (3 : Int32))), .val (.ref a_INIT), .val (.ref a_ENV), .val (.ref a_ENV), .val (.ref a_TRAN), .val (.ref a_ENV), .val (.int (1 : Int32))] [(.int (1 : Int32))])) (fun t k => XS.iconst X14.here hx rfl (hb hby at_120) k) ?_
    refine own_Fin.back (S' := T14.setTop (mkF m 125 #[.val (.int p0), .val (.int ((p0 &&& (2147483647 : Int32)) % (3 : Int32))), .val (.ref a_INIT), .val (.ref a_ENV), .val (.ref a_ENV), .val (.ref a_TRAN), .val (.ref a_ENV), .val (.int (1 : Int32))] [(.int (1 : Int32))])) (fun t k => XS.goto X14.here hx rfl (pc0 := 121) (pc' := 125) rfl (hb hby at_121) (by decide) (by decide) k) ?_
    exact ⟨T14, X14, e14, fun fs hr => retOut X14 hx (w := (.int (1 : Int32))) (t := .boolean) hret (by first | rfl | decide) (Or.inl ⟨rfl, Or.inr (Or.inl rfl), _, rfl⟩) (hb hby at_125) hr⟩
  · refine own_Fin.back (S' := T0.setTop (mkF m 22 #[.val (.int p0), .val (.int ((p0 &&& (2147483647 : Int32)) % (3 : Int32))), .unset, .unset, .unset, .unset, .unset, .unset] [])) (fun t k => XS.ifYes X0.here hx rfl (pc0 := 8) (pc' := 22) rfl (hb hby at_8) rfl hc7 (by decide) (by decide) k) ?_
    refine own_Fin.back (S' := T0.setTop (mkF m 23 #[.val (.int p0), .val (.int ((p0 &&& (2147483647 : Int32)) % (3 : Int32))), .unset, .unset, .unset, .unset, .unset, .unset] [(.int ((p0 &&& (2147483647 : Int32)) % (3 : Int32)))])) (fun t k => XS.iloadN X0.here hx rfl (hb hby at_22) rfl k) ?_
    refine own_Fin.back (S' := T0.setTop (mkF m 24 #[.val (.int p0), .val (.int ((p0 &&& (2147483647 : Int32)) % (3 : Int32))), .unset, .unset, .unset, .unset, .unset, .unset] [(.int (1 : Int32)), (.int ((p0 &&& (2147483647 : Int32)) % (3 : Int32)))])) (fun t k => XS.iconst X0.here hx rfl (hb hby at_23) k) ?_
    rcases hc15 : if_icmp.holds .ne ((p0 &&& (2147483647 : Int32)) % (3 : Int32)) (1 : Int32) with _ | _
    · refine own_Fin.back (S' := T0.setTop (mkF m 27 #[.val (.int p0), .val (.int ((p0 &&& (2147483647 : Int32)) % (3 : Int32))), .unset, .unset, .unset, .unset, .unset, .unset] [])) (fun t k => XS.icmpNo X0.here hx rfl (hb hby at_24) rfl hc15 k) ?_
      obtain ⟨T16, X16, e16, k16⟩ := getS X0 hx hZ hown (host := "") (hw _ (List.mem_of_getElem? (i := 4) rfl)) Via.refl e0 S_ENV (g := (mkF m 27 #[.val (.int p0), .val (.int ((p0 &&& (2147483647 : Int32)) % (3 : Int32))), .unset, .unset, .unset, .unset, .unset, .unset] [])) rfl (hb hby at_27)
      refine own_Fin.back (S' := T16.setTop (mkF m 30 #[.val (.int p0), .val (.int ((p0 &&& (2147483647 : Int32)) % (3 : Int32))), .unset, .unset, .unset, .unset, .unset, .unset] [(.ref a_ENV)])) k16 ?_
      refine own_Fin.back (S' := T16.setTop (mkF m 31 #[.val (.int p0), .val (.int ((p0 &&& (2147483647 : Int32)) % (3 : Int32))), .val (.ref a_ENV), .unset, .unset, .unset, .unset, .unset] [])) (fun t k => XS.astoreN X16.here hx rfl (hb hby at_30) rfl rfl (l' := #[.val (.int p0), .val (.int ((p0 &&& (2147483647 : Int32)) % (3 : Int32))), .val (.ref a_ENV), .unset, .unset, .unset, .unset, .unset]) rfl k) ?_
      obtain ⟨T17, X17, e17, k17⟩ := getS X16 hx hZ hown (host := "") (hw _ (List.mem_of_getElem? (i := 14) rfl)) Via.refl e16 S_TRAN (g := (mkF m 31 #[.val (.int p0), .val (.int ((p0 &&& (2147483647 : Int32)) % (3 : Int32))), .val (.ref a_ENV), .unset, .unset, .unset, .unset, .unset] [])) rfl (hb hby at_31)
      refine own_Fin.back (S' := T17.setTop (mkF m 34 #[.val (.int p0), .val (.int ((p0 &&& (2147483647 : Int32)) % (3 : Int32))), .val (.ref a_ENV), .unset, .unset, .unset, .unset, .unset] [(.ref a_TRAN)])) k17 ?_
      refine own_Fin.back (S' := T17.setTop (mkF m 35 #[.val (.int p0), .val (.int ((p0 &&& (2147483647 : Int32)) % (3 : Int32))), .val (.ref a_ENV), .val (.ref a_TRAN), .unset, .unset, .unset, .unset] [])) (fun t k => XS.astoreN X17.here hx rfl (hb hby at_34) rfl rfl (l' := #[.val (.int p0), .val (.int ((p0 &&& (2147483647 : Int32)) % (3 : Int32))), .val (.ref a_ENV), .val (.ref a_TRAN), .unset, .unset, .unset, .unset]) rfl k) ?_
      refine own_Fin.back (S' := T17.setTop (mkF m 46 #[.val (.int p0), .val (.int ((p0 &&& (2147483647 : Int32)) % (3 : Int32))), .val (.ref a_ENV), .val (.ref a_TRAN), .unset, .unset, .unset, .unset] [])) (fun t k => XS.goto X17.here hx rfl (pc0 := 35) (pc' := 46) rfl (hb hby at_35) (by decide) (by decide) k) ?_
      refine own_Fin.back (S' := T17.setTop (mkF m 47 #[.val (.int p0), .val (.int ((p0 &&& (2147483647 : Int32)) % (3 : Int32))), .val (.ref a_ENV), .val (.ref a_TRAN), .unset, .unset, .unset, .unset] [(.ref a_ENV)])) (fun t k => XS.aloadN X17.here hx rfl (hb hby at_46) rfl rfl k) ?_
      obtain ⟨T18, X18, e18, k18⟩ := own_callV X17 hx hZ (C := "com/example/keen_checker/keenchecker/OpSet") (y := (⟨"com/example/keen_checker/keenchecker/OpSet", "next", "()Lcom/example/keen_checker/keenchecker/OpSet;"⟩ : MethodName)) (W := 0) hown (hw _ (List.mem_of_getElem? (i := 6) rfl)) (hw _ (List.mem_of_getElem? (i := 7) rfl)) (hw _ (List.mem_of_getElem? (i := 9) rfl)) (hw _ (List.mem_of_getElem? (i := 8) rfl)) (hw _ (List.mem_of_getElem? (i := 10) rfl)) (hw _ (List.mem_of_getElem? (i := 2) rfl)) (by decide) (own_r_a_ENV l Z a0 hw h0 H) e17 X_ENV (by decide) (by decide) (g := (mkF m 47 #[.val (.int p0), .val (.int ((p0 &&& (2147483647 : Int32)) % (3 : Int32))), .val (.ref a_ENV), .val (.ref a_TRAN), .unset, .unset, .unset, .unset] [(.ref a_ENV)])) rfl (by rw [hml]; rfl) (argsL := []) (rest := []) (lenOf (show parseMethodDescriptor "()Lcom/example/keen_checker/keenchecker/OpSet;" = some ⟨[], some (.object "com/example/keen_checker/keenchecker/OpSet")⟩ by decide +kernel) rfl) rfl (by show 2 * 0 + _ ≤ _; exact Nat.le_of_eq rfl) (hb hby at_47)
      refine own_Fin.back (S' := T18.setTop (mkF m 50 #[.val (.int p0), .val (.int ((p0 &&& (2147483647 : Int32)) % (3 : Int32))), .val (.ref a_ENV), .val (.ref a_TRAN), .unset, .unset, .unset, .unset] [(.ref a_TRAN)])) k18 ?_
      refine own_Fin.back (S' := T18.setTop (mkF m 52 #[.val (.int p0), .val (.int ((p0 &&& (2147483647 : Int32)) % (3 : Int32))), .val (.ref a_ENV), .val (.ref a_TRAN), .val (.ref a_TRAN), .unset, .unset, .unset] [])) (fun t k => XS.astore X18.here hx rfl (hb hby at_50) rfl rfl (l' := #[.val (.int p0), .val (.int ((p0 &&& (2147483647 : Int32)) % (3 : Int32))), .val (.ref a_ENV), .val (.ref a_TRAN), .val (.ref a_TRAN), .unset, .unset, .unset]) rfl k) ?_
      refine own_Fin.back (S' := T18.setTop (mkF m 54 #[.val (.int p0), .val (.int ((p0 &&& (2147483647 : Int32)) % (3 : Int32))), .val (.ref a_ENV), .val (.ref a_TRAN), .val (.ref a_TRAN), .unset, .unset, .unset] [(.ref a_TRAN)])) (fun t k => XS.aload X18.here hx rfl (hb hby at_52) rfl rfl k) ?_
      obtain ⟨T19, X19, e19, k19⟩ := own_callV X18 hx hZ (C := "com/example/keen_checker/keenchecker/OpSet") (y := (⟨"com/example/keen_checker/keenchecker/OpSet", "next", "()Lcom/example/keen_checker/keenchecker/OpSet;"⟩ : MethodName)) (W := 0) hown (hw _ (List.mem_of_getElem? (i := 6) rfl)) (hw _ (List.mem_of_getElem? (i := 7) rfl)) (hw _ (List.mem_of_getElem? (i := 9) rfl)) (hw _ (List.mem_of_getElem? (i := 8) rfl)) (hw _ (List.mem_of_getElem? (i := 10) rfl)) (hw _ (List.mem_of_getElem? (i := 2) rfl)) (by decide) (own_r_a_TRAN l Z a0 hw h0 H) e18 X_TRAN (by decide) (by decide) (g := (mkF m 54 #[.val (.int p0), .val (.int ((p0 &&& (2147483647 : Int32)) % (3 : Int32))), .val (.ref a_ENV), .val (.ref a_TRAN), .val (.ref a_TRAN), .unset, .unset, .unset] [(.ref a_TRAN)])) rfl (by rw [hml]; rfl) (argsL := []) (rest := []) (lenOf (show parseMethodDescriptor "()Lcom/example/keen_checker/keenchecker/OpSet;" = some ⟨[], some (.object "com/example/keen_checker/keenchecker/OpSet")⟩ by decide +kernel) rfl) rfl (by show 2 * 0 + _ ≤ _; exact Nat.le_of_eq rfl) (hb hby at_54)
      refine own_Fin.back (S' := T19.setTop (mkF m 57 #[.val (.int p0), .val (.int ((p0 &&& (2147483647 : Int32)) % (3 : Int32))), .val (.ref a_ENV), .val (.ref a_TRAN), .val (.ref a_TRAN), .unset, .unset, .unset] [(.ref a_ENV)])) k19 ?_
      refine own_Fin.back (S' := T19.setTop (mkF m 59 #[.val (.int p0), .val (.int ((p0 &&& (2147483647 : Int32)) % (3 : Int32))), .val (.ref a_ENV), .val (.ref a_TRAN), .val (.ref a_TRAN), .val (.ref a_ENV), .unset, .unset] [])) (fun t k => XS.astore X19.here hx rfl (hb hby at_57) rfl rfl (l' := #[.val (.int p0), .val (.int ((p0 &&& (2147483647 : Int32)) % (3 : Int32))), .val (.ref a_ENV), .val (.ref a_TRAN), .val (.ref a_TRAN), .val (.ref a_ENV), .unset, .unset]) rfl k) ?_
      refine own_Fin.back (S' := T19.setTop (mkF m 61 #[.val (.int p0), .val (.int ((p0 &&& (2147483647 : Int32)) % (3 : Int32))), .val (.ref a_ENV), .val (.ref a_TRAN), .val (.ref a_TRAN), .val (.ref a_ENV), .unset, .unset] [(.ref a_ENV)])) (fun t k => XS.aload X19.here hx rfl (hb hby at_59) rfl rfl k) ?_
      obtain ⟨T20, X20, e20, k20⟩ := own_callV X19 hx hZ (C := "com/example/keen_checker/keenchecker/OpSet") (y := (⟨"com/example/keen_checker/keenchecker/OpSet", "next", "()Lcom/example/keen_checker/keenchecker/OpSet;"⟩ : MethodName)) (W := 0) hown (hw _ (List.mem_of_getElem? (i := 6) rfl)) (hw _ (List.mem_of_getElem? (i := 7) rfl)) (hw _ (List.mem_of_getElem? (i := 9) rfl)) (hw _ (List.mem_of_getElem? (i := 8) rfl)) (hw _ (List.mem_of_getElem? (i := 10) rfl)) (hw _ (List.mem_of_getElem? (i := 2) rfl)) (by decide) (own_r_a_ENV l Z a0 hw h0 H) e19 X_ENV (by decide) (by decide) (g := (mkF m 61 #[.val (.int p0), .val (.int ((p0 &&& (2147483647 : Int32)) % (3 : Int32))), .val (.ref a_ENV), .val (.ref a_TRAN), .val (.ref a_TRAN), .val (.ref a_ENV), .unset, .unset] [(.ref a_ENV)])) rfl (by rw [hml]; rfl) (argsL := []) (rest := []) (lenOf (show parseMethodDescriptor "()Lcom/example/keen_checker/keenchecker/OpSet;" = some ⟨[], some (.object "com/example/keen_checker/keenchecker/OpSet")⟩ by decide +kernel) rfl) rfl (by show 2 * 0 + _ ≤ _; exact Nat.le_of_eq rfl) (hb hby at_61)
      refine own_Fin.back (S' := T20.setTop (mkF m 64 #[.val (.int p0), .val (.int ((p0 &&& (2147483647 : Int32)) % (3 : Int32))), .val (.ref a_ENV), .val (.ref a_TRAN), .val (.ref a_TRAN), .val (.ref a_ENV), .unset, .unset] [(.ref a_TRAN)])) k20 ?_
      refine own_Fin.back (S' := T20.setTop (mkF m 66 #[.val (.int p0), .val (.int ((p0 &&& (2147483647 : Int32)) % (3 : Int32))), .val (.ref a_ENV), .val (.ref a_TRAN), .val (.ref a_TRAN), .val (.ref a_ENV), .val (.ref a_TRAN), .unset] [])) (fun t k => XS.astore X20.here hx rfl (hb hby at_64) rfl rfl (l' := #[.val (.int p0), .val (.int ((p0 &&& (2147483647 : Int32)) % (3 : Int32))), .val (.ref a_ENV), .val (.ref a_TRAN), .val (.ref a_TRAN), .val (.ref a_ENV), .val (.ref a_TRAN), .unset]) rfl k) ?_
      refine own_Fin.back (S' := T20.setTop (mkF m 68 #[.val (.int p0), .val (.int ((p0 &&& (2147483647 : Int32)) % (3 : Int32))), .val (.ref a_ENV), .val (.ref a_TRAN), .val (.ref a_TRAN), .val (.ref a_ENV), .val (.ref a_TRAN), .unset] [(.ref a_ENV)])) (fun t k => XS.aload X20.here hx rfl (hb hby at_66) rfl rfl k) ?_
      refine own_Fin.back (S' := T20.setTop (mkF m 70 #[.val (.int p0), .val (.int ((p0 &&& (2147483647 : Int32)) % (3 : Int32))), .val (.ref a_ENV), .val (.ref a_TRAN), .val (.ref a_TRAN), .val (.ref a_ENV), .val (.ref a_TRAN), .unset] [(.ref a_TRAN), (.ref a_ENV)])) (fun t k => XS.aload X20.here hx rfl (hb hby at_68) rfl rfl k) ?_
      refine own_Fin.back (S' := T20.setTop (mkF m 73 #[.val (.int p0), .val (.int ((p0 &&& (2147483647 : Int32)) % (3 : Int32))), .val (.ref a_ENV), .val (.ref a_TRAN), .val (.ref a_TRAN), .val (.ref a_ENV), .val (.ref a_TRAN), .unset] [])) (fun t k => XT.acmpNo X20.here hx rfl (hb hby at_70) rfl rfl rfl (own_acmp_diff D_ENV_TRAN).1 k) ?_
      refine own_Fin.back (S' := T20.setTop (mkF m 75 #[.val (.int p0), .val (.int ((p0 &&& (2147483647 : Int32)) % (3 : Int32))), .val (.ref a_ENV), .val (.ref a_TRAN), .val (.ref a_TRAN), .val (.ref a_ENV), .val (.ref a_TRAN), .unset] [(.ref a_ENV)])) (fun t k => XS.aload X20.here hx rfl (hb hby at_73) rfl rfl k) ?_
      obtain ⟨T21, X21, e21, k21⟩ := getS X20 hx hZ hown (host := "") (hw _ (List.mem_of_getElem? (i := 1) rfl)) Via.refl e20 S_INIT (g := (mkF m 75 #[.val (.int p0), .val (.int ((p0 &&& (2147483647 : Int32)) % (3 : Int32))), .val (.ref a_ENV), .val (.ref a_TRAN), .val (.ref a_TRAN), .val (.ref a_ENV), .val (.ref a_TRAN), .unset] [(.ref a_ENV)])) rfl (hb hby at_75)
      refine own_Fin.back (S' := T21.setTop (mkF m 78 #[.val (.int p0), .val (.int ((p0 &&& (2147483647 : Int32)) % (3 : Int32))), .val (.ref a_ENV), .val (.ref a_TRAN), .val (.ref a_TRAN), .val (.ref a_ENV), .val (.ref a_TRAN), .unset] [(.ref a_INIT), (.ref a_ENV)])) k21 ?_
      refine own_Fin.back (S' := T21.setTop (mkF m 81 #[.val (.int p0), .val (.int ((p0 &&& (2147483647 : Int32)) % (3 : Int32))), .val (.ref a_ENV), .val (.ref a_TRAN), .val (.ref a_TRAN), .val (.ref a_ENV), .val (.ref a_TRAN), .unset] [])) (fun t k => XT.acmpNo X21.here hx rfl (hb hby at_78) rfl rfl rfl (own_acmp_diff D_INIT_ENV.symm).1 k) ?_
      refine own_Fin.back (S' := T21.setTop (mkF m 83 #[.val (.int p0), .val (.int ((p0 &&& (2147483647 : Int32)) % (3 : Int32))), .val (.ref a_ENV), .val (.ref a_TRAN), .val (.ref a_TRAN), .val (.ref a_ENV), .val (.ref a_TRAN), .unset] [(.ref a_TRAN)])) (fun t k => XS.aload X21.here hx rfl (hb hby at_81) rfl rfl k) ?_
      refine own_Fin.back (S' := T21.setTop (mkF m 85 #[.val (.int p0), .val (.int ((p0 &&& (2147483647 : Int32)) % (3 : Int32))), .val (.ref a_ENV), .val (.ref a_TRAN), .val (.ref a_TRAN), .val (.ref a_ENV), .val (.ref a_TRAN), .unset] [(.ref a_TRAN), (.ref a_TRAN)])) (fun t k => XS.aload X21.here hx rfl (hb hby at_83) rfl rfl k) ?_
      refine own_Fin.back (S' := T21.setTop (mkF m 88 #[.val (.int p0), .val (.int ((p0 &&& (2147483647 : Int32)) % (3 : Int32))), .val (.ref a_ENV), .val (.ref a_TRAN), .val (.ref a_TRAN), .val (.ref a_ENV), .val (.ref a_TRAN), .unset] [])) (fun t k => XT.acmpNo X21.here hx rfl (hb hby at_85) rfl rfl rfl own_acmp_same.2 k) ?_
      refine own_Fin.back (S' := T21.setTop (mkF m 89 #[.val (.int p0), .val (.int ((p0 &&& (2147483647 : Int32)) % (3 : Int32))), .val (.ref a_ENV), .val (.ref a_TRAN), .val (.ref a_TRAN), .val (.ref a_ENV), .val (.ref a_TRAN), .unset] [(.int (1 : Int32))])) (fun t k => XS.iconst X21.here hx rfl (hb hby at_88) k) ?_
      refine own_Fin.back (S' := T21.setTop (mkF m 93 #[.val (.int p0), .val (.int ((p0 &&& (2147483647 : Int32)) % (3 : Int32))), .val (.ref a_ENV), .val (.ref a_TRAN), .val (.ref a_TRAN), .val (.ref a_ENV), .val (.ref a_TRAN), .unset] [(.int (1 : Int32))])) (fun t k => XS.goto X21.here hx rfl (pc0 := 89) (pc' := 93) rfl (hb hby at_89) (by decide) (by decide) k) ?_
      refine own_Fin.back (S' := T21.setTop (mkF m 95 #[.val (.int p0), .val (.int ((p0 &&& (2147483647 : Int32)) % (3 : Int32))), .val (.ref a_ENV), .val (.ref a_TRAN), .val (.ref a_TRAN), .val (.ref a_ENV), .val (.ref a_TRAN), .val (.int (1 : Int32))] [])) (fun t k => XS.istore X21.here hx rfl (hb hby at_93) rfl (l' := #[.val (.int p0), .val (.int ((p0 &&& (2147483647 : Int32)) % (3 : Int32))), .val (.ref a_ENV), .val (.ref a_TRAN), .val (.ref a_TRAN), .val (.ref a_ENV), .val (.ref a_TRAN), .val (.int (1 : Int32))]) rfl k) ?_
      refine own_Fin.back (S' := T21.setTop (mkF m 97 #[.val (.int p0), .val (.int ((p0 &&& (2147483647 : Int32)) % (3 : Int32))), .val (.ref a_ENV), .val (.ref a_TRAN), .val (.ref a_TRAN), .val (.ref a_ENV), .val (.ref a_TRAN), .val (.int (1 : Int32))] [(.ref a_TRAN)])) (fun t k => XS.aload X21.here hx rfl (hb hby at_95) rfl rfl k) ?_
      refine own_Fin.back (S' := T21.setTop (mkF m 98 #[.val (.int p0), .val (.int ((p0 &&& (2147483647 : Int32)) % (3 : Int32))), .val (.ref a_ENV), .val (.ref a_TRAN), .val (.ref a_TRAN), .val (.ref a_ENV), .val (.ref a_TRAN), .val (.int (1 : Int32))] [(.ref a_TRAN), (.ref a_TRAN)])) (fun t k => XS.aloadN X21.here hx rfl (hb hby at_97) rfl rfl k) ?_
      refine own_Fin.back (S' := T21.setTop (mkF m 101 #[.val (.int p0), .val (.int ((p0 &&& (2147483647 : Int32)) % (3 : Int32))), .val (.ref a_ENV), .val (.ref a_TRAN), .val (.ref a_TRAN), .val (.ref a_ENV), .val (.ref a_TRAN), .val (.int (1 : Int32))] [])) (fun t k => XT.acmpNo X21.here hx rfl (hb hby at_98) rfl rfl rfl own_acmp_same.2 k) ?_
      refine own_Fin.back (S' := T21.setTop (mkF m 103 #[.val (.int p0), .val (.int ((p0 &&& (2147483647 : Int32)) % (3 : Int32))), .val (.ref a_ENV), .val (.ref a_TRAN), .val (.ref a_TRAN), .val (.ref a_ENV), .val (.ref a_TRAN), .val (.int (1 : Int32))] [(.ref a_TRAN)])) (fun t k => XS.aload X21.here hx rfl (hb hby at_101) rfl rfl k) ?_
      obtain ⟨T22, X22, e22, k22⟩ := getS X21 hx hZ hown (host := "") (hw _ (List.mem_of_getElem? (i := 1) rfl)) Via.refl e21 S_INIT (g := (mkF m 103 #[.val (.int p0), .val (.int ((p0 &&& (2147483647 : Int32)) % (3 : Int32))), .val (.ref a_ENV), .val (.ref a_TRAN), .val (.ref a_TRAN), .val (.ref a_ENV), .val (.ref a_TRAN), .val (.int (1 : Int32))] [(.ref a_TRAN)])) rfl (hb hby at_103)
      refine own_Fin.back (S' := T22.setTop (mkF m 106 #[.val (.int p0), .val (.int ((p0 &&& (2147483647 : Int32)) % (3 : Int32))), .val (.ref a_ENV), .val (.ref a_TRAN), .val (.ref a_TRAN), .val (.ref a_ENV), .val (.ref a_TRAN), .val (.int (1 : Int32))] [(.ref a_INIT), (.ref a_TRAN)])) k22 ?_
      refine own_Fin.back (S' := T22.setTop (mkF m 109 #[.val (.int p0), .val (.int ((p0 &&& (2147483647 : Int32)) % (3 : Int32))), .val (.ref a_ENV), .val (.ref a_TRAN), .val (.ref a_TRAN), .val (.ref a_ENV), .val (.ref a_TRAN), .val (.int (1 : Int32))] [])) (fun t k => XT.acmpNo X22.here hx rfl (hb hby at_106) rfl rfl rfl (own_acmp_diff D_INIT_TRAN.symm).1 k) ?_
      refine own_Fin.back (S' := T22.setTop (mkF m 111 #[.val (.int p0), .val (.int ((p0 &&& (2147483647 : Int32)) % (3 : Int32))), .val (.ref a_ENV), .val (.ref a_TRAN), .val (.ref a_TRAN), .val (.ref a_ENV), .val (.ref a_TRAN), .val (.int (1 : Int32))] [(.ref a_TRAN)])) (fun t k => XS.aload X22.here hx rfl (hb hby at_109) rfl rfl k) ?_
      refine own_Fin.back (S' := T22.setTop (mkF m 112 #[.val (.int p0), .val (.int ((p0 &&& (2147483647 : Int32)) % (3 : Int32))), .val (.ref a_ENV), .val (.ref a_TRAN), .val (.ref a_TRAN), .val (.ref a_ENV), .val (.ref a_TRAN), .val (.int (1 : Int32))] [(.ref a_ENV), (.ref a_TRAN)])) (fun t k => XS.aloadN X22.here hx rfl (hb hby at_111) rfl rfl k) ?_
      refine own_Fin.back (S' := T22.setTop (mkF m 115 #[.val (.int p0), .val (.int ((p0 &&& (2147483647 : Int32)) % (3 : Int32))), .val (.ref a_ENV), .val (.ref a_TRAN), .val (.ref a_TRAN), .val (.ref a_ENV), .val (.ref a_TRAN), .val (.int (1 : Int32))] [])) (fun t k => XT.acmpNo X22.here hx rfl (hb hby at_112) rfl rfl rfl (own_acmp_diff D_ENV_TRAN.symm).1 k) ?_
      refine own_Fin.back (S' := T22.setTop (mkF m 117 #[.val (.int p0), .val (.int ((p0 &&& (2147483647 : Int32)) % (3 : Int32))), .val (.ref a_ENV), .val (.ref a_TRAN), .val (.ref a_TRAN), .val (.ref a_ENV), .val (.ref a_TRAN), .val (.int (1 : Int32))] [(.int (1 : Int32))])) (fun t k => XS.iload X22.here hx rfl (hb hby at_115) rfl k) ?_
      refine own_Fin.back (S' := T22.setTop (mkF m 120 #[.val (.int p0), .val (.int ((p0 &&& (2147483647 : Int32)) % (3 : Int32))), .val (.ref a_ENV), .val (.ref a_TRAN), .val (.ref a_TRAN), .val (.ref a_ENV), .val (.ref a_TRAN), .val (.int (1 : Int32))] [])) (fun t k => XS.ifNo X22.here hx rfl (hb hby at_117) rfl (by decide) k) ?_
      refine own_Fin.back (S' := T22.setTop (mkF m 121 #[.val (.int p0), .val (.int ((p0 &&& (2147483647 : Int32)) % (3 : Int32))), .val (.ref a_ENV), .val (.ref a_TRAN), .val (.ref a_TRAN), .val (.ref a_ENV), .val (.ref a_TRAN), .val (.int (1 : Int32))] [(.int (1 : Int32))])) (fun t k => XS.iconst X22.here hx rfl (hb hby at_120) k) ?_
      refine own_Fin.back (S' := T22.setTop (mkF m 125 #[.val (.int p0), .val (.int ((p0 &&& (2147483647 : Int32)) % (3 : Int32))), .val (.ref a_ENV), .val (.ref a_TRAN), .val (.ref a_TRAN), .val (.ref a_ENV), .val (.ref a_TRAN), .val (.int (1 : Int32))] [(.int (1 : Int32))])) (fun t k => XS.goto X22.here hx rfl (pc0 := 121) (pc' := 125) rfl (hb hby at_121) (by decide) (by decide) k) ?_
      exact ⟨T22, X22, e22, fun fs hr => retOut X22 hx (w := (.int (1 : Int32))) (t := .boolean) hret (by first | rfl | decide) (Or.inl ⟨rfl, Or.inr (Or.inl rfl), _, rfl⟩) (hb hby at_125) hr⟩
    · refine own_Fin.back (S' := T0.setTop (mkF m 38 #[.val (.int p0), .val (.int ((p0 &&& (2147483647 : Int32)) % (3 : Int32))), .unset, .unset, .unset, .unset, .unset, .unset] [])) (fun t k => XS.icmpYes X0.here hx rfl (pc0 := 24) (pc' := 38) rfl (hb hby at_24) rfl hc15 (by decide) (by decide) k) ?_
      obtain ⟨T23, X23, e23, k23⟩ := getS X0 hx hZ hown (host := "") (hw _ (List.mem_of_getElem? (i := 14) rfl)) Via.refl e0 S_TRAN (g := (mkF m 38 #[.val (.int p0), .val (.int ((p0 &&& (2147483647 : Int32)) % (3 : Int32))), .unset, .unset, .unset, .unset, .unset, .unset] [])) rfl (hb hby at_38)
      refine own_Fin.back (S' := T23.setTop (mkF m 41 #[.val (.int p0), .val (.int ((p0 &&& (2147483647 : Int32)) % (3 : Int32))), .unset, .unset, .unset, .unset, .unset, .unset] [(.ref a_TRAN)])) k23 ?_
      refine own_Fin.back (S' := T23.setTop (mkF m 42 #[.val (.int p0), .val (.int ((p0 &&& (2147483647 : Int32)) % (3 : Int32))), .val (.ref a_TRAN), .unset, .unset, .unset, .unset, .unset] [])) (fun t k => XS.astoreN X23.here hx rfl (hb hby at_41) rfl rfl (l' := #[.val (.int p0), .val (.int ((p0 &&& (2147483647 : Int32)) % (3 : Int32))), .val (.ref a_TRAN), .unset, .unset, .unset, .unset, .unset]) rfl k) ?_
      obtain ⟨T24, X24, e24, k24⟩ := getS X23 hx hZ hown (host := "") (hw _ (List.mem_of_getElem? (i := 4) rfl)) Via.refl e23 S_ENV (g := (mkF m 42 #[.val (.int p0), .val (.int ((p0 &&& (2147483647 : Int32)) % (3 : Int32))), .val (.ref a_TRAN), .unset, .unset, .unset, .unset, .unset] [])) rfl (hb hby at_42)
      refine own_Fin.back (S' := T24.setTop (mkF m 45 #[.val (.int p0), .val (.int ((p0 &&& (2147483647 : Int32)) % (3 : Int32))), .val (.ref a_TRAN), .unset, .unset, .unset, .unset, .unset] [(.ref a_ENV)])) k24 ?_
      refine own_Fin.back (S' := T24.setTop (mkF m 46 #[.val (.int p0), .val (.int ((p0 &&& (2147483647 : Int32)) % (3 : Int32))), .val (.ref a_TRAN), .val (.ref a_ENV), .unset, .unset, .unset, .unset] [])) (fun t k => XS.astoreN X24.here hx rfl (hb hby at_45) rfl rfl (l' := #[.val (.int p0), .val (.int ((p0 &&& (2147483647 : Int32)) % (3 : Int32))), .val (.ref a_TRAN), .val (.ref a_ENV), .unset, .unset, .unset, .unset]) rfl k) ?_
      refine own_Fin.back (S' := T24.setTop (mkF m 47 #[.val (.int p0), .val (.int ((p0 &&& (2147483647 : Int32)) % (3 : Int32))), .val (.ref a_TRAN), .val (.ref a_ENV), .unset, .unset, .unset, .unset] [(.ref a_TRAN)])) (fun t k => XS.aloadN X24.here hx rfl (hb hby at_46) rfl rfl k) ?_
      obtain ⟨T25, X25, e25, k25⟩ := own_callV X24 hx hZ (C := "com/example/keen_checker/keenchecker/OpSet") (y := (⟨"com/example/keen_checker/keenchecker/OpSet", "next", "()Lcom/example/keen_checker/keenchecker/OpSet;"⟩ : MethodName)) (W := 0) hown (hw _ (List.mem_of_getElem? (i := 6) rfl)) (hw _ (List.mem_of_getElem? (i := 7) rfl)) (hw _ (List.mem_of_getElem? (i := 9) rfl)) (hw _ (List.mem_of_getElem? (i := 8) rfl)) (hw _ (List.mem_of_getElem? (i := 10) rfl)) (hw _ (List.mem_of_getElem? (i := 2) rfl)) (by decide) (own_r_a_TRAN l Z a0 hw h0 H) e24 X_TRAN (by decide) (by decide) (g := (mkF m 47 #[.val (.int p0), .val (.int ((p0 &&& (2147483647 : Int32)) % (3 : Int32))), .val (.ref a_TRAN), .val (.ref a_ENV), .unset, .unset, .unset, .unset] [(.ref a_TRAN)])) rfl (by rw [hml]; rfl) (argsL := []) (rest := []) (lenOf (show parseMethodDescriptor "()Lcom/example/keen_checker/keenchecker/OpSet;" = some ⟨[], some (.object "com/example/keen_checker/keenchecker/OpSet")⟩ by decide +kernel) rfl) rfl (by show 2 * 0 + _ ≤ _; exact Nat.le_of_eq rfl) (hb hby at_47)
      refine own_Fin.back (S' := T25.setTop (mkF m 50 #[.val (.int p0), .val (.int ((p0 &&& (2147483647 : Int32)) % (3 : Int32))), .val (.ref a_TRAN), .val (.ref a_ENV), .unset, .unset, .unset, .unset] [(.ref a_ENV)])) k25 ?_
      refine own_Fin.back (S' := T25.setTop (mkF m 52 #[.val (.int p0), .val (.int ((p0 &&& (2147483647 : Int32)) % (3 : Int32))), .val (.ref a_TRAN), .val (.ref a_ENV), .val (.ref a_ENV), .unset, .unset, .unset] [])) (fun t k => XS.astore X25.here hx rfl (hb hby at_50) rfl rfl (l' := #[.val (.int p0), .val (.int ((p0 &&& (2147483647 : Int32)) % (3 : Int32))), .val (.ref a_TRAN), .val (.ref a_ENV), .val (.ref a_ENV), .unset, .unset, .unset]) rfl k) ?_
      refine own_Fin.back (S' := T25.setTop (mkF m 54 #[.val (.int p0), .val (.int ((p0 &&& (2147483647 : Int32)) % (3 : Int32))), .val (.ref a_TRAN), .val (.ref a_ENV), .val (.ref a_ENV), .unset, .unset, .unset] [(.ref a_ENV)])) (fun t k => XS.aload X25.here hx rfl (hb hby at_52) rfl rfl k) ?_
      obtain ⟨T26, X26, e26, k26⟩ := own_callV X25 hx hZ (C := "com/example/keen_checker/keenchecker/OpSet") (y := (⟨"com/example/keen_checker/keenchecker/OpSet", "next", "()Lcom/example/keen_checker/keenchecker/OpSet;"⟩ : MethodName)) (W := 0) hown (hw _ (List.mem_of_getElem? (i := 6) rfl)) (hw _ (List.mem_of_getElem? (i := 7) rfl)) (hw _ (List.mem_of_getElem? (i := 9) rfl)) (hw _ (List.mem_of_getElem? (i := 8) rfl)) (hw _ (List.mem_of_getElem? (i := 10) rfl)) (hw _ (List.mem_of_getElem? (i := 2) rfl)) (by decide) (own_r_a_ENV l Z a0 hw h0 H) e25 X_ENV (by decide) (by decide) (g := (mkF m 54 #[.val (.int p0), .val (.int ((p0 &&& (2147483647 : Int32)) % (3 : Int32))), .val (.ref a_TRAN), .val (.ref a_ENV), .val (.ref a_ENV), .unset, .unset, .unset] [(.ref a_ENV)])) rfl (by rw [hml]; rfl) (argsL := []) (rest := []) (lenOf (show parseMethodDescriptor "()Lcom/example/keen_checker/keenchecker/OpSet;" = some ⟨[], some (.object "com/example/keen_checker/keenchecker/OpSet")⟩ by decide +kernel) rfl) rfl (by show 2 * 0 + _ ≤ _; exact Nat.le_of_eq rfl) (hb hby at_54)
      refine own_Fin.back (S' := T26.setTop (mkF m 57 #[.val (.int p0), .val (.int ((p0 &&& (2147483647 : Int32)) % (3 : Int32))), .val (.ref a_TRAN), .val (.ref a_ENV), .val (.ref a_ENV), .unset, .unset, .unset] [(.ref a_TRAN)])) k26 ?_
      refine own_Fin.back (S' := T26.setTop (mkF m 59 #[.val (.int p0), .val (.int ((p0 &&& (2147483647 : Int32)) % (3 : Int32))), .val (.ref a_TRAN), .val (.ref a_ENV), .val (.ref a_ENV), .val (.ref a_TRAN), .unset, .unset] [])) (fun t k => XS.astore X26.here hx rfl (hb hby at_57) rfl rfl (l' := #[.val (.int p0), .val (.int ((p0 &&& (2147483647 : Int32)) % (3 : Int32))), .val (.ref a_TRAN), .val (.ref a_ENV), .val (.ref a_ENV), .val (.ref a_TRAN), .unset, .unset]) rfl k) ?_
      refine own_Fin.back (S' := T26.setTop (mkF m 61 #[.val (.int p0), .val (.int ((p0 &&& (2147483647 : Int32)) % (3 : Int32))), .val (.ref a_TRAN), .val (.ref a_ENV), .val (.ref a_ENV), .val (.ref a_TRAN), .unset, .unset] [(.ref a_TRAN)])) (fun t k => XS.aload X26.here hx rfl (hb hby at_59) rfl rfl k) ?_
      obtain ⟨T27, X27, e27, k27⟩ := own_callV X26 hx hZ (C := "com/example/keen_checker/keenchecker/OpSet") (y := (⟨"com/example/keen_checker/keenchecker/OpSet", "next", "()Lcom/example/keen_checker/keenchecker/OpSet;"⟩ : MethodName)) (W := 0) hown (hw _ (List.mem_of_getElem? (i := 6) rfl)) (hw _ (List.mem_of_getElem? (i := 7) rfl)) (hw _ (List.mem_of_getElem? (i := 9) rfl)) (hw _ (List.mem_of_getElem? (i := 8) rfl)) (hw _ (List.mem_of_getElem? (i := 10) rfl)) (hw _ (List.mem_of_getElem? (i := 2) rfl)) (by decide) (own_r_a_TRAN l Z a0 hw h0 H) e26 X_TRAN (by decide) (by decide) (g := (mkF m 61 #[.val (.int p0), .val (.int ((p0 &&& (2147483647 : Int32)) % (3 : Int32))), .val (.ref a_TRAN), .val (.ref a_ENV), .val (.ref a_ENV), .val (.ref a_TRAN), .unset, .unset] [(.ref a_TRAN)])) rfl (by rw [hml]; rfl) (argsL := []) (rest := []) (lenOf (show parseMethodDescriptor "()Lcom/example/keen_checker/keenchecker/OpSet;" = some ⟨[], some (.object "com/example/keen_checker/keenchecker/OpSet")⟩ by decide +kernel) rfl) rfl (by show 2 * 0 + _ ≤ _; exact Nat.le_of_eq rfl) (hb hby at_61)
      refine own_Fin.back (S' := T27.setTop (mkF m 64 #[.val (.int p0), .val (.int ((p0 &&& (2147483647 : Int32)) % (3 : Int32))), .val (.ref a_TRAN), .val (.ref a_ENV), .val (.ref a_ENV), .val (.ref a_TRAN), .unset, .unset] [(.ref a_ENV)])) k27 ?_
      refine own_Fin.back (S' := T27.setTop (mkF m 66 #[.val (.int p0), .val (.int ((p0 &&& (2147483647 : Int32)) % (3 : Int32))), .val (.ref a_TRAN), .val (.ref a_ENV), .val (.ref a_ENV), .val (.ref a_TRAN), .val (.ref a_ENV), .unset] [])) (fun t k => XS.astore X27.here hx rfl (hb hby at_64) rfl rfl (l' := #[.val (.int p0), .val (.int ((p0 &&& (2147483647 : Int32)) % (3 : Int32))), .val (.ref a_TRAN), .val (.ref a_ENV), .val (.ref a_ENV), .val (.ref a_TRAN), .val (.ref a_ENV), .unset]) rfl k) ?_
      refine own_Fin.back (S' := T27.setTop (mkF m 68 #[.val (.int p0), .val (.int ((p0 &&& (2147483647 : Int32)) % (3 : Int32))), .val (.ref a_TRAN), .val (.ref a_ENV), .val (.ref a_ENV), .val (.ref a_TRAN), .val (.ref a_ENV), .unset] [(.ref a_TRAN)])) (fun t k => XS.aload X27.here hx rfl (hb hby at_66) rfl rfl k) ?_
      refine own_Fin.back (S' := T27.setTop (mkF m 70 #[.val (.int p0), .val (.int ((p0 &&& (2147483647 : Int32)) % (3 : Int32))), .val (.ref a_TRAN), .val (.ref a_ENV), .val (.ref a_ENV), .val (.ref a_TRAN), .val (.ref a_ENV), .unset] [(.ref a_ENV), (.ref a_TRAN)])) (fun t k => XS.aload X27.here hx rfl (hb hby at_68) rfl rfl k) ?_
      refine own_Fin.back (S' := T27.setTop (mkF m 73 #[.val (.int p0), .val (.int ((p0 &&& (2147483647 : Int32)) % (3 : Int32))), .val (.ref a_TRAN), .val (.ref a_ENV), .val (.ref a_ENV), .val (.ref a_TRAN), .val (.ref a_ENV), .unset] [])) (fun t k => XT.acmpNo X27.here hx rfl (hb hby at_70) rfl rfl rfl (own_acmp_diff D_ENV_TRAN.symm).1 k) ?_
      refine own_Fin.back (S' := T27.setTop (mkF m 75 #[.val (.int p0), .val (.int ((p0 &&& (2147483647 : Int32)) % (3 : Int32))), .val (.ref a_TRAN), .val (.ref a_ENV), .val (.ref a_ENV), .val (.ref a_TRAN), .val (.ref a_ENV), .unset] [(.ref a_TRAN)])) (fun t k => XS.aload X27.here hx rfl (hb hby at_73) rfl rfl k) ?_
      obtain ⟨T28, X28, e28, k28⟩ := getS X27 hx hZ hown (host := "") (hw _ (List.mem_of_getElem? (i := 1) rfl)) Via.refl e27 S_INIT (g := (mkF m 75 #[.val (.int p0), .val (.int ((p0 &&& (2147483647 : Int32)) % (3 : Int32))), .val (.ref a_TRAN), .val (.ref a_ENV), .val (.ref a_ENV), .val (.ref a_TRAN), .val (.ref a_ENV), .unset] [(.ref a_TRAN)])) rfl (hb hby at_75)
      refine own_Fin.back (S' := T28.setTop (mkF m 78 #[.val (.int p0), .val (.int ((p0 &&& (2147483647 : Int32)) % (3 : Int32))), .val (.ref a_TRAN), .val (.ref a_ENV), .val (.ref a_ENV), .val (.ref a_TRAN), .val (.ref a_ENV), .unset] [(.ref a_INIT), (.ref a_TRAN)])) k28 ?_
      refine own_Fin.back (S' := T28.setTop (mkF m 81 #[.val (.int p0), .val (.int ((p0 &&& (2147483647 : Int32)) % (3 : Int32))), .val (.ref a_TRAN), .val (.ref a_ENV), .val (.ref a_ENV), .val (.ref a_TRAN), .val (.ref a_ENV), .unset] [])) (fun t k => XT.acmpNo X28.here hx rfl (hb hby at_78) rfl rfl rfl (own_acmp_diff D_INIT_TRAN.symm).1 k) ?_
      refine own_Fin.back (S' := T28.setTop (mkF m 83 #[.val (.int p0), .val (.int ((p0 &&& (2147483647 : Int32)) % (3 : Int32))), .val (.ref a_TRAN), .val (.ref a_ENV), .val (.ref a_ENV), .val (.ref a_TRAN), .val (.ref a_ENV), .unset] [(.ref a_ENV)])) (fun t k => XS.aload X28.here hx rfl (hb hby at_81) rfl rfl k) ?_
      refine own_Fin.back (S' := T28.setTop (mkF m 85 #[.val (.int p0), .val (.int ((p0 &&& (2147483647 : Int32)) % (3 : Int32))), .val (.ref a_TRAN), .val (.ref a_ENV), .val (.ref a_ENV), .val (.ref a_TRAN), .val (.ref a_ENV), .unset] [(.ref a_ENV), (.ref a_ENV)])) (fun t k => XS.aload X28.here hx rfl (hb hby at_83) rfl rfl k) ?_
      refine own_Fin.back (S' := T28.setTop (mkF m 88 #[.val (.int p0), .val (.int ((p0 &&& (2147483647 : Int32)) % (3 : Int32))), .val (.ref a_TRAN), .val (.ref a_ENV), .val (.ref a_ENV), .val (.ref a_TRAN), .val (.ref a_ENV), .unset] [])) (fun t k => XT.acmpNo X28.here hx rfl (hb hby at_85) rfl rfl rfl own_acmp_same.2 k) ?_
      refine own_Fin.back (S' := T28.setTop (mkF m 89 #[.val (.int p0), .val (.int ((p0 &&& (2147483647 : Int32)) % (3 : Int32))), .val (.ref a_TRAN), .val (.ref a_ENV), .val (.ref a_ENV), .val (.ref a_TRAN), .val (.ref a_ENV), .unset] [(.int (1 : Int32))])) (fun t k => XS.iconst X28.here hx rfl (hb hby at_88) k) ?_
      refine own_Fin.back (S' := T28.setTop (mkF m 93 #[.val (.int p0), .val (.int ((p0 &&& (2147483647 : Int32)) % (3 : Int32))), .val (.ref a_TRAN), .val (.ref a_ENV), .val (.ref a_ENV), .val (.ref a_TRAN), .val (.ref a_ENV), .unset] [(.int (1 : Int32))])) (fun t k => XS.goto X28.here hx rfl (pc0 := 89) (pc' := 93) rfl (hb hby at_89) (by decide) (by decide) k) ?_
      refine own_Fin.back (S' := T28.setTop (mkF m 95 #[.val (.int p0), .val (.int ((p0 &&& (2147483647 : Int32)) % (3 : Int32))), .val (.ref a_TRAN), .val (.ref a_ENV), .val (.ref a_ENV), .val (.ref a_TRAN), .val (.ref a_ENV), .val (.int (1 : Int32))] [])) (fun t k => XS.istore X28.here hx rfl (hb hby at_93) rfl (l' := #[.val (.int p0), .val (.int ((p0 &&& (2147483647 : Int32)) % (3 : Int32))), .val (.ref a_TRAN), .val (.ref a_ENV), .val (.ref a_ENV), .val (.ref a_TRAN), .val (.ref a_ENV), .val (.int (1 : Int32))]) rfl k) ?_
      refine own_Fin.back (S' := T28.setTop (mkF m 97 #[.val (.int p0), .val (.int ((p0 &&& (2147483647 : Int32)) % (3 : Int32))), .val (.ref a_TRAN), .val (.ref a_ENV), .val (.ref a_ENV), .val (.ref a_TRAN), .val (.ref a_ENV), .val (.int (1 : Int32))] [(.ref a_ENV)])) (fun t k => XS.aload X28.here hx rfl (hb hby at_95) rfl rfl k) ?_
      refine own_Fin.back (S' := T28.setTop (mkF m 98 #[.val (.int p0), .val (.int ((p0 &&& (2147483647 : Int32)) % (3 : Int32))), .val (.ref a_TRAN), .val (.ref a_ENV), .val (.ref a_ENV), .val (.ref a_TRAN), .val (.ref a_ENV), .val (.int (1 : Int32))] [(.ref a_ENV), (.ref a_ENV)])) (fun t k => XS.aloadN X28.here hx rfl (hb hby at_97) rfl rfl k) ?_
      refine own_Fin.back (S' := T28.setTop (mkF m 101 #[.val (.int p0), .val (.int ((p0 &&& (2147483647 : Int32)) % (3 : Int32))), .val (.ref a_TRAN), .val (.ref a_ENV), .val (.ref a_ENV), .val (.ref a_TRAN), .val (.ref a_ENV), .val (.int (1 : Int32))] [])) (fun t k => XT.acmpNo X28.here hx rfl (hb hby at_98) rfl rfl rfl own_acmp_same.2 k) ?_
      refine own_Fin.back (S' := T28.setTop (mkF m 103 #[.val (.int p0), .val (.int ((p0 &&& (2147483647 : Int32)) % (3 : Int32))), .val (.ref a_TRAN), .val (.ref a_ENV), .val (.ref a_ENV), .val (.ref a_TRAN), .val (.ref a_ENV), .val (.int (1 : Int32))] [(.ref a_ENV)])) (fun t k => XS.aload X28.here hx rfl (hb hby at_101) rfl rfl k) ?_
      obtain ⟨T29, X29, e29, k29⟩ := getS X28 hx hZ hown (host := "") (hw _ (List.mem_of_getElem? (i := 1) rfl)) Via.refl e28 S_INIT (g := (mkF m 103 #[.val (.int p0), .val (.int ((p0 &&& (2147483647 : Int32)) % (3 : Int32))), .val (.ref a_TRAN), .val (.ref a_ENV), .val (.ref a_ENV), .val (.ref a_TRAN), .val (.ref a_ENV), .val (.int (1 : Int32))] [(.ref a_ENV)])) rfl (hb hby at_103)
      refine own_Fin.back (S' := T29.setTop (mkF m 106 #[.val (.int p0), .val (.int ((p0 &&& (2147483647 : Int32)) % (3 : Int32))), .val (.ref a_TRAN), .val (.ref a_ENV), .val (.ref a_ENV), .val (.ref a_TRAN), .val (.ref a_ENV), .val (.int (1 : Int32))] [(.ref a_INIT), (.ref a_ENV)])) k29 ?_
      refine own_Fin.back (S' := T29.setTop (mkF m 109 #[.val (.int p0), .val (.int ((p0 &&& (2147483647 : Int32)) % (3 : Int32))), .val (.ref a_TRAN), .val (.ref a_ENV), .val (.ref a_ENV), .val (.ref a_TRAN), .val (.ref a_ENV), .val (.int (1 : Int32))] [])) (fun t k => XT.acmpNo X29.here hx rfl (hb hby at_106) rfl rfl rfl (own_acmp_diff D_INIT_ENV.symm).1 k) ?_
      refine own_Fin.back (S' := T29.setTop (mkF m 111 #[.val (.int p0), .val (.int ((p0 &&& (2147483647 : Int32)) % (3 : Int32))), .val (.ref a_TRAN), .val (.ref a_ENV), .val (.ref a_ENV), .val (.ref a_TRAN), .val (.ref a_ENV), .val (.int (1 : Int32))] [(.ref a_ENV)])) (fun t k => XS.aload X29.here hx rfl (hb hby at_109) rfl rfl k) ?_
      refine own_Fin.back (S' := T29.setTop (mkF m 112 #[.val (.int p0), .val (.int ((p0 &&& (2147483647 : Int32)) % (3 : Int32))), .val (.ref a_TRAN), .val (.ref a_ENV), .val (.ref a_ENV), .val (.ref a_TRAN), .val (.ref a_ENV), .val (.int (1 : Int32))] [(.ref a_TRAN), (.ref a_ENV)])) (fun t k => XS.aloadN X29.here hx rfl (hb hby at_111) rfl rfl k) ?_
      refine own_Fin.back (S' := T29.setTop (mkF m 115 #[.val (.int p0), .val (.int ((p0 &&& (2147483647 : Int32)) % (3 : Int32))), .val (.ref a_TRAN), .val (.ref a_ENV), .val (.ref a_ENV), .val (.ref a_TRAN), .val (.ref a_ENV), .val (.int (1 : Int32))] [])) (fun t k => XT.acmpNo X29.here hx rfl (hb hby at_112) rfl rfl rfl (own_acmp_diff D_ENV_TRAN).1 k) ?_
      refine own_Fin.back (S' := T29.setTop (mkF m 117 #[.val (.int p0), .val (.int ((p0 &&& (2147483647 : Int32)) % (3 : Int32))), .val (.ref a_TRAN), .val (.ref a_ENV), .val (.ref a_ENV), .val (.ref a_TRAN), .val (.ref a_ENV), .val (.int (1 : Int32))] [(.int (1 : Int32))])) (fun t k => XS.iload X29.here hx rfl (hb hby at_115) rfl k) ?_
      refine own_Fin.back (S' := T29.setTop (mkF m 120 #[.val (.int p0), .val (.int ((p0 &&& (2147483647 : Int32)) % (3 : Int32))), .val (.ref a_TRAN), .val (.ref a_ENV), .val (.ref a_ENV), .val (.ref a_TRAN), .val (.ref a_ENV), .val (.int (1 : Int32))] [])) (fun t k => XS.ifNo X29.here hx rfl (hb hby at_117) rfl (by decide) k) ?_
      refine own_Fin.back (S' := T29.setTop (mkF m 121 #[.val (.int p0), .val (.int ((p0 &&& (2147483647 : Int32)) % (3 : Int32))), .val (.ref a_TRAN), .val (.ref a_ENV), .val (.ref a_ENV), .val (.ref a_TRAN), .val (.ref a_ENV), .val (.int (1 : Int32))] [(.int (1 : Int32))])) (fun t k => XS.iconst X29.here hx rfl (hb hby at_120) k) ?_
      refine own_Fin.back (S' := T29.setTop (mkF m 125 #[.val (.int p0), .val (.int ((p0 &&& (2147483647 : Int32)) % (3 : Int32))), .val (.ref a_TRAN), .val (.ref a_ENV), .val (.ref a_ENV), .val (.ref a_TRAN), .val (.ref a_ENV), .val (.int (1 : Int32))] [(.int (1 : Int32))])) (fun t k => XS.goto X29.here hx rfl (pc0 := 121) (pc' := 125) rfl (hb hby at_121) (by decide) (by decide) k) ?_
      exact ⟨T29, X29, e29, fun fs hr => retOut X29 hx (w := (.int (1 : Int32))) (t := .boolean) hret (by first | rfl | decide) (Or.inl ⟨rfl, Or.inr (Or.inl rfl), _, rfl⟩) (hb hby at_125) hr⟩
set_option maxRecDepth 65536 in
set_option maxHeartbeats 40000000 in
theorem own_comes {Post : Tables → Env → Array Value → State → Outcome → State → Prop} (hpost : ∀ tb e args s v u, (limb_1_1.after args s (.returned v) u = true ∧ limb_1_2.after args s (.returned v) u = true ∧ True) → FrameEnd s (.returned v) u (Jvm.fieldLocs frame_1_writes args s ++ Jvm.arrayLocs frame_1_arrays args s ++ Jvm.staticLocs frame_1_statics s) 0 0 → Post tb e args s (.returned v) u) :
    ArmFor flags0 classFile x code maxLocals ret World_1 tables_1 room_1 Calls_1 rest_1 Pre_1 Post := by
  intro l hfl _ _ p e ha hc hk s m args below hf hA hF happ hP
  obtain ⟨hcalls, hrest, hpre⟩ := hP
  obtain ⟨-, -, -, hnamed, -, -, -, hat⟩ := (Spec.applies_iff hf).mp happ
  obtain ⟨hg, hn⟩ := and_e (Cond.before_iff.mp (show (Jvm.Cond.and given_1 narrow_1).before args s = true from hpre))
  obtain ⟨hcount, g0⟩ := and_e hg
  obtain ⟨w0, rfl⟩ : ∃ w0 : Value, args = #[w0] := by
    have hs : args.size = 1 := by simpa [Cond.value, given_1] using hcount
    obtain ⟨L⟩ := args
    match L, hs with
    | [w0], _ => exact ⟨w0, rfl⟩
  have hw := fun d (hd : d ∈ tables_1) => atoms_spec (ws := Jvm.Cond.code x code maxLocals ret :: tables_1) hat d (List.mem_cons_of_mem _ hd)
  obtain ⟨i0, j0⟩ := is_v g0
  obtain rfl : w0 = (.int i0) := Option.some.inj j0
  obtain ⟨hN0, hR0⟩ := and_e hn
  obtain ⟨hN1, hR1⟩ := and_e hR0
  obtain ⟨hN2, hR2⟩ := and_e hR1
  obtain ⟨hN3, hR3⟩ := and_e hR2
  obtain ⟨hN4, hR4⟩ := and_e hR3
  have hN5 := hR4
  obtain ⟨a_INIT, E_INIT⟩ := exa_v hN0
  have S_INIT := own_sta E_INIT (hw _ (List.mem_of_getElem? (i := 2) rfl)) (hw _ (List.mem_of_getElem? (i := 3) rfl))
  have X_INIT := Exa.start E_INIT hN0
  obtain ⟨a_ENV, E_ENV⟩ := exa_v hN1
  have S_ENV := own_sta E_ENV (hw _ (List.mem_of_getElem? (i := 2) rfl)) (hw _ (List.mem_of_getElem? (i := 5) rfl))
  have X_ENV := Exa.start E_ENV hN1
  obtain ⟨a_TRAN, E_TRAN⟩ := exa_v hN4
  have S_TRAN := own_sta E_TRAN (hw _ (List.mem_of_getElem? (i := 2) rfl)) (hw _ (List.mem_of_getElem? (i := 13) rfl))
  have X_TRAN := Exa.start E_TRAN hN4
  have F_INIT_ordinal := own_fldI E_INIT hN2
  have F_ENV_ordinal := own_fldI E_ENV hN3
  have F_TRAN_ordinal := own_fldI E_TRAN hN5
  have D_INIT_ENV := own_ne F_INIT_ordinal F_ENV_ordinal (by decide)
  have D_INIT_TRAN := own_ne F_INIT_ordinal F_TRAN_ordinal (by decide)
  have D_ENV_TRAN := own_ne F_ENV_ordinal F_TRAN_ordinal (by decide)
  have H : own_Facts s s.heap a_INIT a_ENV a_TRAN := ⟨S_INIT, X_INIT, S_ENV, X_ENV, S_TRAN, X_TRAN, F_INIT_ordinal, F_ENV_ordinal, F_TRAN_ordinal, D_INIT_ENV, D_INIT_TRAN, D_ENV_TRAN⟩
  obtain ⟨n, o, h1, h2, h3, _, L, rfl, ⟨rfl, rfl, -⟩, hq⟩ := own_law l s _ hw s.heap H i0 tables_1 p e ha hc hk s m _ below hf ((Spec.applies_iff_loose hf).mp happ).1 ⟨rfl, State.Warmed39.refl s, rfl⟩ trivial
  exact ⟨n, _, h1, h2, h3, hpost _ _ _ _ _ _ ⟨Cond.after_iff.mpr rfl, Cond.after_iff.mpr (eq_i res_at (Term.int_eval (1)) rfl), trivial⟩ ⟨hq.1, hq.2.1, hq.2.2.sift fun y hy => (nomatch hy)⟩⟩
theorem main_1_1 : Claimed_1_1 := own_comes fun _ _ _ _ _ _ h hF => ⟨h.1, hF⟩
theorem main_1_2 : Claimed_1_2 := own_comes fun _ _ _ _ _ _ h hF => ⟨h.2.1, hF⟩
end Jvm.Pilot.@@N@@
namespace Jvm.Pilot.@@N@@
open Jvm Jvm.ClassFile Sem Op Lib Jvm.Free Jvm.Stand Jvm.Pilot.@@N@@.Jvm.D
/-! MADE BY PROGRAM (witnessworld.py) out of the Statement's table words and the real class files: 12 classes; the members and pool entries that the words name. The judged class is class 1, her method 1. -/
namespace start1
open Jvm.ClassFile
def u (s : String) : CpInfo := .utf8 (stringToUtf16 s)
/-- a pool by its gaps: so many unusable entries, then the entry; so many at the end -/
def gap : Nat → List CpInfo → List CpInfo
  | 0, r => r
  | n + 1, r => .unusable :: gap n r
def poolList (es : List (Nat × CpInfo)) (last : Nat) : List CpInfo := es.foldr (fun e r => gap e.1 (e.2 :: r)) (gap last [])
def pool (es : List (Nat × CpInfo)) (last : Nat) : Array CpInfo := ⟨poolList es last⟩
def fileOf (pool : Array CpInfo) (this : Nat) (attrs : Array Attribute := #[]) (ms : Array MethodInfo := #[]) (fl : Nat := 33) (sup : Nat := 0) (ifs : Array Nat := #[]) (fds : Array FieldInfo := #[]) : ClassFile where
  minorVersion := 0
  majorVersion := 65
  constantPool := pool
  accessFlags := fl
  thisClass := this
  superClass := sup
  interfaces := ifs
  fields := fds
  methods := ms
  attributes := attrs
def plain (name : String) (sup : Option ClassId) : Class where
  name := name
  kind := .ordinary
  loader := none
  accessFlags := 33
  super := sup
  interfaces := #[]
  cf := none
  fields := #[]
  methods := #[]
  instanceTypes := #[]
  staticTypes := #[]
  resolved := #[]
  callSites := []
  init := .initialized
  statics := none
  mirror := none

def pool0 : Array CpInfo := pool [(5, u "<init>"), (0, u "()V"), (1, .class_ 10), (1, u "java/lang/Object")] 113

def k0m0 : Method := { name := "<init>", desc := "()V", sig := { parameters := [], returnType := none }, accessFlags := 1, code := none }
/-- java/lang/Object -/
def k0 : Class := { plain "java/lang/Object" none with
  accessFlags := 33
  interfaces := #[]
  cf := some (fileOf pool0 8 #[] #[{ accessFlags := 1, nameIndex := 5, descriptorIndex := 6, attributes := #[] }] 33 0 #[] #[])
  fields := #[]
  methods := #[k0m0]
  instanceTypes := #[]
  staticTypes := #[]
  resolved := Array.replicate 124 none
  statics := none }

def pool1 : Array CpInfo := pool [(2, .class_ 4), (1, u "java/lang/Object"), (0, u "<init>"), (0, u "()V"), (0, .integer 2147483647), (0, .fieldref 9 10), (0, .class_ 11), (0, .nameAndType 12 13), (0, u "com/example/keen_checker/keenchecker/OpSet"), (0, u "INIT"), (0, u "Lcom/example/keen_checker/keenchecker/OpSet;"), (0, .fieldref 9 15), (0, .nameAndType 16 13), (0, u "ENV"), (0, .fieldref 9 18), (0, .nameAndType 19 13), (0, u "TRAN"), (0, .methodref 9 21), (0, .nameAndType 22 23), (0, u "next"), (0, u "()Lcom/example/keen_checker/keenchecker/OpSet;"), (0, .class_ 25), (0, u "com/example/keen_checker/keenchecker/OpSetNextPinLaw"), (2, u "law"), (0, u "(I)Z")] 3

def k1m0 : Method := { name := "<init>", desc := "()V", sig := { parameters := [], returnType := none }, accessFlags := 1, code := none }
def k1c1 : Code := { maxStack := 2, maxLocals := 8, code := code, exceptionTable := #[], attributes := #[] }
def k1m1 : Method := { name := "law", desc := "(I)Z", sig := { parameters := [.int], returnType := some .boolean }, accessFlags := 9, code := some k1c1 }
/-- com/example/keen_checker/keenchecker/OpSetNextPinLaw -/
def k1 : Class := { plain "com/example/keen_checker/keenchecker/OpSetNextPinLaw" (some 0) with
  accessFlags := 49
  interfaces := #[]
  cf := some (fileOf pool1 24 #[] #[{ accessFlags := 1, nameIndex := 5, descriptorIndex := 6, attributes := #[] }, { accessFlags := 9, nameIndex := 28, descriptorIndex := 29, attributes := #[] }] 49 2 #[] #[])
  fields := #[]
  methods := #[k1m0, k1m1]
  instanceTypes := #[]
  staticTypes := #[]
  resolved := Array.replicate 33 none
  statics := none }

def pool2 : Array CpInfo := pool [(1, .class_ 2), (0, u "java/lang/constant/Constable"), (0, .class_ 4), (0, u "java/lang/Object")] 6

/-- java/lang/constant/Constable -/
def k2 : Class := { plain "java/lang/constant/Constable" (some 0) with
  accessFlags := 1537
  interfaces := #[]
  cf := some (fileOf pool2 1 #[] #[] 1537 3 #[] #[])
  fields := #[]
  methods := #[]
  instanceTypes := #[]
  staticTypes := #[]
  resolved := Array.replicate 11 none
  statics := none }

def pool3 : Array CpInfo := pool [(1, .class_ 2), (0, u "java/lang/Comparable"), (0, .class_ 4), (0, u "java/lang/Object")] 7

/-- java/lang/Comparable -/
def k3 : Class := { plain "java/lang/Comparable" (some 0) with
  accessFlags := 1537
  interfaces := #[]
  cf := some (fileOf pool3 1 #[] #[] 1537 3 #[] #[])
  fields := #[]
  methods := #[]
  instanceTypes := #[]
  staticTypes := #[]
  resolved := Array.replicate 12 none
  statics := none }

def pool4 : Array CpInfo := pool [(1, .class_ 2), (0, u "java/io/Serializable"), (0, .class_ 4), (0, u "java/lang/Object")] 2

/-- java/io/Serializable -/
def k4 : Class := { plain "java/io/Serializable" (some 0) with
  accessFlags := 1537
  interfaces := #[]
  cf := some (fileOf pool4 1 #[] #[] 1537 3 #[] #[])
  fields := #[]
  methods := #[]
  instanceTypes := #[]
  staticTypes := #[]
  resolved := Array.replicate 7 none
  statics := none }

def pool5 : Array CpInfo := pool [(2, .class_ 4), (1, u "java/lang/Enum"), (0, u "name"), (0, u "Ljava/lang/String;"), (2, u "ordinal"), (0, u "I"), (1, .class_ 14), (1, u "java/lang/Object"), (4, u "hash"), (86, .class_ 108), (1, u "java/lang/Enum$EnumDesc"), (2, .class_ 112), (0, u "java/lang/constant/Constable"), (0, .class_ 114), (0, u "java/lang/Comparable"), (0, .class_ 116), (0, u "java/io/Serializable")] 87

/-- java/lang/Enum -/
def k5 : Class := { plain "java/lang/Enum" (some 0) with
  accessFlags := 1057
  interfaces := #[2, 3, 4]
  cf := some (fileOf pool5 2 #[.nestMembers #[106]] #[] 1057 12 #[111, 113, 115] #[{ accessFlags := 18, nameIndex := 5, descriptorIndex := 6, attributes := #[] }, { accessFlags := 18, nameIndex := 9, descriptorIndex := 10, attributes := #[] }, { accessFlags := 2, nameIndex := 19, descriptorIndex := 10, attributes := #[] }])
  fields := #[{ name := "name", type := (.object "java/lang/String"), accessFlags := 18, slot := 0, constantValue := 0 }, { name := "ordinal", type := .int, accessFlags := 18, slot := 1, constantValue := 0 }, { name := "hash", type := .int, accessFlags := 2, slot := 2, constantValue := 0 }]
  methods := #[]
  instanceTypes := #[(.object "java/lang/String"), .int, .int]
  staticTypes := #[]
  resolved := Array.replicate 204 none
  statics := none }

def pool6 : Array CpInfo := pool [(1, .class_ 2), (0, u "com/example/keen_checker/keenchecker/OpSet"), (2, u "INIT"), (0, u "Lcom/example/keen_checker/keenchecker/OpSet;"), (0, .fieldref 1 8), (0, .nameAndType 9 6), (0, u "ENV"), (0, .fieldref 1 11), (0, .nameAndType 12 6), (0, u "TRAN"), (2, u "$VALUES"), (0, u "[Lcom/example/keen_checker/keenchecker/OpSet;"), (6, .class_ 25), (1, u "java/lang/Enum"), (21, u "next"), (0, u "()Lcom/example/keen_checker/keenchecker/OpSet;")] 5

def k6c0 : Code := { maxStack := 2, maxLocals := 1, code := prog_27_method_4_code, exceptionTable := #[], attributes := #[] }
def k6m0 : Method := { name := "next", desc := "()Lcom/example/keen_checker/keenchecker/OpSet;", sig := { parameters := [], returnType := some (.object "com/example/keen_checker/keenchecker/OpSet") }, accessFlags := 0, code := some k6c0 }
/-- com/example/keen_checker/keenchecker/OpSet -/
def k6 : Class := { plain "com/example/keen_checker/keenchecker/OpSet" (some 5) with
  accessFlags := 16432
  interfaces := #[]
  cf := some (fileOf pool6 1 #[] #[{ accessFlags := 0, nameIndex := 47, descriptorIndex := 48, attributes := #[] }] 16432 23 #[] #[{ accessFlags := 16409, nameIndex := 5, descriptorIndex := 6, attributes := #[] }, { accessFlags := 16409, nameIndex := 9, descriptorIndex := 6, attributes := #[] }, { accessFlags := 16409, nameIndex := 12, descriptorIndex := 6, attributes := #[] }, { accessFlags := 4122, nameIndex := 15, descriptorIndex := 16, attributes := #[] }])
  fields := #[{ name := "INIT", type := (.object "com/example/keen_checker/keenchecker/OpSet"), accessFlags := 16409, slot := 0, constantValue := 0 }, { name := "ENV", type := (.object "com/example/keen_checker/keenchecker/OpSet"), accessFlags := 16409, slot := 1, constantValue := 0 }, { name := "TRAN", type := (.object "com/example/keen_checker/keenchecker/OpSet"), accessFlags := 16409, slot := 2, constantValue := 0 }, { name := "$VALUES", type := (.array (.object "com/example/keen_checker/keenchecker/OpSet")), accessFlags := 4122, slot := 3, constantValue := 0 }]
  methods := #[k6m0]
  instanceTypes := #[(.object "java/lang/String"), .int, .int]
  staticTypes := #[(.object "com/example/keen_checker/keenchecker/OpSet"), (.object "com/example/keen_checker/keenchecker/OpSet"), (.object "com/example/keen_checker/keenchecker/OpSet"), (.array (.object "com/example/keen_checker/keenchecker/OpSet"))]
  resolved := Array.replicate 54 none
  statics := some 0 }

def pool7 : Array CpInfo := pool [(1, u "java/lang/Cloneable"), (0, .class_ 1), (0, u "java/lang/Object"), (0, .class_ 3)] 3

/-- java/lang/Cloneable -/
def k7 : Class := { plain "java/lang/Cloneable" (some 0) with
  accessFlags := 1537
  interfaces := #[]
  cf := some (fileOf pool7 2 #[] #[] 1537 4 #[] #[])
  fields := #[]
  methods := #[]
  instanceTypes := #[]
  staticTypes := #[]
  resolved := Array.replicate 8 none
  statics := none }

/-- the primitive byte -/
def k8 : Class := { plain "byte" none with kind := .primitive 'B', accessFlags := 0x411 }
/-- [B -/
def k9 : Class := { plain "[B" (some 0) with kind := .array 8 .byte, interfaces := #[7, 4], accessFlags := 1041 }

/-- the primitive int -/
def k10 : Class := { plain "int" none with kind := .primitive 'I', accessFlags := 0x411 }
/-- [I -/
def k11 : Class := { plain "[I" (some 0) with kind := .array 10 .int, interfaces := #[7, 4], accessFlags := 1041 }

def heap : Heap := #[{ cls := 6, slots := #[.ref 1, .ref 2, .ref 3, .null], vm := .statics 6 },
  { cls := 6, slots := #[.null, .int 0, .int 0], vm := .none },
  { cls := 6, slots := #[.null, .int 1, .int 0], vm := .none },
  { cls := 6, slots := #[.null, .int 2, .int 0], vm := .none }]
def classes : Array Class := #[k0, k1, k2, k3, k4, k5, k6, k7, k8, k9, k10, k11]
def interned : List (Array UInt16 × Addr) := []
def slotsUsed : Nat := 13
def theMethod : MethodId := ⟨1, 1⟩
def args0 : Array Value := #[.int 5]
def aboutOver (below : List Frame) : State where
  vm := { classes := classes, interned := interned.toArray }
  heap := heap
  slotsUsed := slotsUsed
  threads := #[{ frames := .invoking theMethod args0 :: below }]
def below0 : List Frame := [.native { method := ⟨0, 0⟩, args := #[] }]
def about1 : State := aboutOver below0
def p0 : Program := .bare "" "" ""
def e0 : Env := launch0.env 0 0 0
theorem w_frames : about1.frames = Frame.invoking theMethod args0 :: below0 := rfl
set_option maxRecDepth 65536 in
theorem w_args : argsFit about1.vm theMethod args0 = true := by decide +kernel
set_option maxRecDepth 65536 in
theorem w_heap : heapFits about1 = true := by decide +kernel
set_option maxRecDepth 65536 in
theorem w_runnable : about1.curStatus? = some .runnable := by decide +kernel
set_option maxRecDepth 65536 in
theorem w_alone : about1.alone = true := by decide +kernel
set_option maxRecDepth 65536 in
theorem w_named : about1.methodNamed? x = some theMethod := by decide +kernel
set_option maxRecDepth 65536 in
theorem w_hears : about1.hears theMethod below0 = true := by decide +kernel
set_option maxRecDepth 65536 in
theorem w_ripe : about1.ripe theMethod args0 below0 = true := by decide +kernel
theorem w_running : about1.status = .running := rfl
set_option maxRecDepth 65536 in
theorem w_room : about1.hasRoom e0.platform room_1 = true :=
  launch0.hasRoom_least _ room_1 (by decide +kernel) (by decide +kernel) (by decide +kernel) (by decide +kernel) (by decide +kernel) (by decide +kernel)
theorem allAtoms_all (ts : List Jvm.Cond) (a : Array Jvm.Value) (st : Jvm.State) : (allAtoms ts).before a st = ts.all (fun c => c.before a st) := by
  induction ts with
  | nil => rfl
  | cons c t ih =>
    show (Jvm.Cond.and c (allAtoms t)).before a st = _
    rw [Jvm.Cond.before_and, ih, List.all_cons]
def words1 : List Jvm.Cond := Jvm.Cond.code x code maxLocals ret :: tables_1
/-- a 'code' word, met by the world's own term for the bytes: nothing is compared byte by byte -/
theorem code_word {y : MethodName} {bytes : ByteArray} {mx : Nat} {rt : Option FieldType} {a : Array Value} {s : State} {m : MethodId} {meth : Method} {c : Code} (h1 : s.methodNamed? y = some m) (h2 : s.vm.method? m = some meth) (h3 : meth.code = some c) (h4 : c.code = bytes)
    (h5 : (c.maxLocals == mx && c.exceptionTable.isEmpty && decide (c.maxStack ≤ mostOperands) && decide (meth.sig.returnType = rt) && !meth.locks && decide (parseMethodDescriptor y.desc = some meth.sig)) = true) : (Jvm.Cond.code y bytes mx rt).before a s = true := by
  simp only [Bool.and_eq_true, beq_iff_eq, Bool.not_eq_true', decide_eq_true_eq] at h5
  obtain ⟨⟨⟨⟨⟨g1, g2⟩, g3⟩, g4⟩, g5⟩, g6⟩ := h5
  simp [Cond.before, Cond.holds, Cond.value, h1, h2, h3, h4, g1, g2, g3, g4, g5, g6]
def isCode : Jvm.Cond → Bool
  | .code _ _ _ _ => true
  | _ => false
theorem all_split {L : List Jvm.Cond} {P : Jvm.Cond → Bool} (h1 : L.all (fun c => isCode c || P c) = true) (h2 : ∀ c ∈ L.filter isCode, P c = true) : L.all P = true := by
  refine List.all_eq_true.mpr fun c hc => ?_
  have h := List.all_eq_true.mp h1 c hc
  rcases Bool.eq_false_or_eq_true (isCode c) with hi | hi
  · exact h2 c (List.mem_filter.mpr ⟨hc, hi⟩)
  · simpa [hi] using h
set_option maxRecDepth 65536 in
theorem w_c0 : (Jvm.Cond.code x code maxLocals ret).before args0 about1 = true := code_word (m := ⟨1, 1⟩) (meth := k1m1) (c := k1c1) (by decide +kernel) rfl rfl rfl (by decide +kernel)
set_option maxRecDepth 65536 in
theorem w_c1 : (Jvm.Cond.code ({ cls := "com/example/keen_checker/keenchecker/OpSet", name := "next", desc := "()Lcom/example/keen_checker/keenchecker/OpSet;" } : Jvm.MethodName) prog_27_method_4_code (1 : Nat) (Option.some (Jvm.ClassFile.FieldType.object "com/example/keen_checker/keenchecker/OpSet"))).before args0 about1 = true := code_word (m := ⟨6, 0⟩) (meth := k6m0) (c := k6c0) (by decide +kernel) rfl rfl rfl (by decide +kernel)
def codes1 : List Jvm.Cond := [Jvm.Cond.code x code maxLocals ret, Jvm.Cond.code ({ cls := "com/example/keen_checker/keenchecker/OpSet", name := "next", desc := "()Lcom/example/keen_checker/keenchecker/OpSet;" } : Jvm.MethodName) prog_27_method_4_code (1 : Nat) (Option.some (Jvm.ClassFile.FieldType.object "com/example/keen_checker/keenchecker/OpSet"))]
set_option maxRecDepth 65536 in
theorem codes_eq : words1.filter isCode = codes1 := rfl
theorem w_codes : ∀ c ∈ words1.filter isCode, c.before args0 about1 = true := by
  rw [codes_eq]
  intro c hc
  simp only [codes1, List.mem_cons, List.not_mem_nil, or_false] at hc
  rcases hc with rfl | rfl
  · exact w_c0
  · exact w_c1
set_option maxRecDepth 65536 in
theorem w_t1 : words1.all (fun c => isCode c || c.before args0 about1) = true := by decide +kernel
theorem w_tables : (allAtoms (Jvm.Cond.code x code maxLocals ret :: tables_1)).before args0 about1 = true := by
  rw [allAtoms_all]
  show words1.all (fun c => c.before args0 about1) = true
  refine all_split ?_ w_codes
  rw [w_t1]
set_option maxRecDepth 65536 in
theorem w_case : (Jvm.Cond.and given_1 narrow_1).before args0 about1 = true := by decide +kernel
theorem w_applies : (headSpec (Jvm.Cond.code x code maxLocals ret :: tables_1) room_1).applies x e0.platform about1 = true :=
  (Spec.applies_iff w_frames).mpr ⟨w_running, w_runnable, w_alone, w_named, w_hears, w_ripe, w_room, w_tables⟩
theorem atStart : AtStart classFile x code maxLocals ret World_1 tables_1 room_1 Calls_1 rest_1 Pre_1 launch0 p0 e0 about1 theMethod args0 below0 :=
  ⟨lists_1, trivial, launch0.admits_env _ _ _, launch0.least_env, fairChoices_fair.cas, fairChoices_fair.clock, w_frames, w_args, w_heap, w_applies, trivial, trivial, w_case⟩
end start1
theorem witness_1 : WitnessClaimed_1 := ⟨start1.p0, start1.e0, start1.about1, start1.theMethod, start1.args0, start1.below0, start1.atStart⟩
end Jvm.Pilot.@@N@@
