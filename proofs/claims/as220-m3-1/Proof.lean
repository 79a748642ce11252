import JvmDerived
import JvmDerived.Pilot.@@N@@Statement
import JvmDerived.Pilot.@@N@@Code
set_option linter.unusedVariables false
set_option linter.unusedSimpArgs false
namespace Jvm.Pilot.@@N@@
open Jvm Jvm.ClassFile Sem Op Lib Jvm.Free Jvm.Stand Jvm.LawKit Jvm.RoadKit Bundle Jvm.Pilot.@@N@@.Jvm.D

/-! 0. What a body that writes nothing leaves; a walk told forwards; the three calls -/
def own_Q (v0 : Option Value) (h0 : Heap) (v : Option Value) (h : Heap) (L : List Loc) : Prop := v = v0 ∧ L = [] ∧ h = h0
def own_Pur (l : Launch) (Z : State) (y : MethodName) (bytes : ByteArray) (maxL : Nat) (rt : Option FieldType) (fr lo : Nat) (as : Array Value) (v : Option Value) (h : Heap) : Prop :=
  ∀ ws : List Jvm.Cond, MetFree l y (head1 (Jvm.Cond.code y bytes maxL rt :: ws) ({ frames := fr, cells := 0, slots := 0, locals := lo } : Room)) (fun a U => a = as ∧ Z.Warmed39 U.vm ∧ U.heap = h) (fun _ _ _ _ _ => True)
    (fun _ U o U' => ∃ v' L, o = .returned v' ∧ own_Q v h v' U'.heap L ∧ FrameEnd U o U' L ({ frames := fr, cells := 0, slots := 0, locals := lo } : Room).cells ({ frames := fr, cells := 0, slots := 0, locals := lo } : Room).slots)
def own_Fin (p : Program) (l : Launch) (e : Env) (R : Room) (s : State) (m : MethodId) (args : Array Value) (below : List Frame) (meth : Method) (c : Code) (h : Heap) (v : Option Value) (S : State) : Prop :=
  ∃ T : State, Stand p l e R s m args below meth c T [] 0 0 ∧ T.heap = h ∧ ∀ fs : List Frame, (∀ (f : JFrame) (acts : List Action), f.method = m → f.locked = none → f.entered = [] → (doReturn e (T.setTop f) acts v).1 = T.setFrames fs) → Steps p.tables e below S (T.setFrames fs)
section Own
variable {p : Program} {l : Launch} {e : Env} {R : Room} {s : State} {m : MethodId} {args : Array Value} {below : List Frame} {meth : Method} {c : Code} {T : State} {Z : State} {a0 : Array Value} {h : Heap} {v : Option Value}
theorem own_Fin.back {S S' : State} (k : ∀ t, Steps p.tables e below S' t → Steps p.tables e below S t) (F : own_Fin p l e R s m args below meth c h v S') : own_Fin p l e R s m args below meth c h v S := by
  obtain ⟨T, X, eT, g⟩ := F
  exact ⟨T, X, eT, fun fs hr => k _ (g fs hr)⟩
theorem own_body {y : MethodName} {bytes : ByteArray} {maxL : Nat} {rt : FieldType} {fr lo : Nat} {as : Array Value} {w : Value} (hpl : plainFor y = true)
    (body : ∀ (p : Program) (e : Env) (s : State) (m : MethodId) (below : List Frame) (meth : Method) (c : Code) (T : State), Stand p l e ({ frames := fr, cells := 0, slots := 0, locals := lo } : Room) s m as below meth c T [] 0 0 → T.heap = h → p.tables.exec = Jvm.exec → c.code = bytes → c.maxLocals = maxL →
      s.vm.findClass y.cls = some m.cls → meth.sig.returnType = some rt → Z.Warmed39 s.vm → own_Fin p l e ({ frames := fr, cells := 0, slots := 0, locals := lo } : Room) s m as below meth c h (some w) (T.setTop (entryFrame m as maxL))) :
    own_Pur l Z y bytes maxL (some rt) fr lo as (some w) h := by
  intro ws
  refine MetFree.of_bodySF hpl hisR ?_
  intro p e s m args below meth c s₁ Bd hml0 hP hK
  obtain ⟨rfl, hZ, hh⟩ := hP
  have X0 : Stand p l e ({ frames := fr, cells := 0, slots := 0, locals := lo } : Room) s m args below meth c s₁ [] 0 0 := Stand.of_body Bd
  have e0 : s₁.heap = h := by rw [← hh, Bd.state]; rfl
  obtain ⟨T, X, eT, go⟩ := body p e s m below meth c s₁ X0 e0 Bd.exec Bd.bytes hml0 (findClass_of_methodNamed Bd.named) Bd.returns hZ
  obtain ⟨fs, hr, hrun, hended, hW, hsame⟩ := X.leave (v := some w) (fun h => by rw [Bd.returns] at h; cases h)
  exact ⟨_, _, go fs hr, hrun, hended, _, _, rfl, ⟨rfl, rfl, eT⟩, ⟨_, rfl⟩, hW, hsame⟩
theorem own_callS (X : Stand p l e R s m args below meth c T [] 0 0) (hx : p.tables.exec = Jvm.exec) (hZ : Z.Warmed39 s.vm) {own : String} {index : Nat} {y : MethodName} {bytes : ByteArray} {maxL : Nat} {rt : Option FieldType} {fr lo W : Nat} {argsL rest : List Value} {w : Option Value}
    (hown : s.vm.findClass own = some m.cls) (w1 : (Jvm.Cond.methodLink own index y).before a0 Z = true) (w2 : (Jvm.Cond.static y).before a0 Z = true) (w3 : (Jvm.Cond.initialized y.cls).before a0 Z = true) (w4 : (Jvm.Cond.code y bytes maxL rt).before a0 Z = true)
    (hy : y.cls ≠ "java/lang/invoke/MethodHandle" ∧ y.cls ≠ "java/lang/invoke/VarHandle")
    (hM : own_Pur l Z y bytes maxL rt fr lo argsL.toArray w h) (eT : T.heap = h) (hf : fr + 1 ≤ R.frames) (hl : W + (maxL + 11) + lo ≤ R.locals)
    {g : JFrame} (hg : g.method = m) (hsize : g.locals.size = c.maxLocals) (hlen : ∀ sig, parseMethodDescriptor y.desc = some sig → argsL.length = sig.parameters.length)
    (hstack : g.stack = argsL.reverse ++ rest) (hW : 2 * g.monitorRoom + (rest.map fun v => v.category).sum ≤ W) (hdg : decode c.code g.pc = .ok (.invokestatic index, 3)) :
    ∃ T', Stand p l e R s m args below meth c T' [] 0 0 ∧ T'.heap = h ∧ ∀ t, Steps p.tables e below (T'.setTop { g with pc := g.pc + 3, stack := w.toList ++ rest }) t → Steps p.tables e below (T.setTop g) t := by
  obtain ⟨_, _, ⟨T1, L1, k1, n1⟩, -, X1, ⟨Lc, hQ, l1, y1, z1⟩, st⟩ := Jvm.LawKit.callS X hx hown (mvT hZ w1) (mvT hZ w2) (mvT hZ w3) (mvT hZ w4) hy (backOf (W := W) (hM []) hZ w4 w3 hf hl) hg hsize hlen hstack hW hdg (fun _ _ => ⟨rfl, eT, Nat.zero_le _, Nat.zero_le _⟩)
  dsimp only [Pt.U, Pt.locs, Pt.cells, Pt.slots] at X1 l1 y1 z1 st hQ
  subst l1 y1 z1
  obtain ⟨rfl, rfl, e1⟩ := hQ
  exact ⟨T1, X1, e1, st⟩
theorem own_callV (X : Stand p l e R s m args below meth c T [] 0 0) (hx : p.tables.exec = Jvm.exec) (hZ : Z.Warmed39 s.vm) {own C : String} {index : Nat} {y : MethodName} {bytes : ByteArray} {maxL : Nat} {rt : Option FieldType} {fr lo W : Nat} {b : Addr} {argsL rest : List Value} {w : Option Value}
    (hown : s.vm.findClass own = some m.cls) (w1 : (Jvm.Cond.methodLink own index y).before a0 Z = true) (w2 : (Jvm.Cond.declares y).before a0 Z = true) (w3 : (Jvm.Cond.selects C y y).before a0 Z = true) (w4 : (Jvm.Cond.instanceMethod y).before a0 Z = true) (w5 : (Jvm.Cond.code y bytes maxL rt).before a0 Z = true) (w6 : (Jvm.Cond.initialized y.cls).before a0 Z = true)
    (hy : y.cls ≠ "java/lang/invoke/MethodHandle" ∧ y.cls ≠ "java/lang/invoke/VarHandle")
    (hM : own_Pur l Z y bytes maxL rt fr lo (Value.ref b :: argsL).toArray w h) (eT : T.heap = h) (E : Exa Z h b C) (hf : fr + 1 ≤ R.frames) (hl : W + (maxL + 11) + lo ≤ R.locals)
    {g : JFrame} (hg : g.method = m) (hsize : g.locals.size = c.maxLocals) (hlen : ∀ sig, parseMethodDescriptor y.desc = some sig → argsL.length = sig.parameters.length)
    (hstack : g.stack = argsL.reverse ++ .ref b :: rest) (hW : 2 * g.monitorRoom + (rest.map fun v => v.category).sum ≤ W) (hdg : decode c.code g.pc = .ok (.invokevirtual index, 3)) :
    ∃ T', Stand p l e R s m args below meth c T' [] 0 0 ∧ T'.heap = h ∧ ∀ t, Steps p.tables e below (T'.setTop { g with pc := g.pc + 3, stack := w.toList ++ rest }) t → Steps p.tables e below (T.setTop g) t := by
  obtain ⟨cq, kq, qa, qb, qc⟩ := isOf (T := T) hZ eT E
  obtain ⟨_, _, ⟨T1, L1, k1, n1⟩, -, X1, ⟨Lc, hQ, l1, y1, z1⟩, st⟩ := X.virtualBack hx hown (mvT hZ w1) (mvT hZ w2) (notFace_of_selects (args := #[]) (mvT hZ w3)) (mvT hZ w3) (mvT hZ w4) hy (backOf (W := W) (hM []) hZ w5 w6 hf hl) qa qc hg hsize (Steps.refl _) hlen hstack hW hdg (fun _ _ => ⟨rfl, eT, Nat.zero_le _, Nat.zero_le _⟩)
  dsimp only [Pt.U, Pt.locs, Pt.cells, Pt.slots] at X1 l1 y1 z1 st hQ
  subst l1 y1 z1
  obtain ⟨rfl, rfl, e1⟩ := hQ
  exact ⟨T1, X1, e1, fun t k => st.trans k⟩
theorem own_callU (X : Stand p l e R s m args below meth c T [] 0 0) (hx : p.tables.exec = Jvm.exec) (hZ : Z.Warmed39 s.vm) {own C owner : String} {index : Nat} {y z : MethodName} {bytes : ByteArray} {maxL : Nat} {rt : Option FieldType} {fr lo W : Nat} {b : Addr} {argsL rest : List Value} {w : Option Value}
    (hown : s.vm.findClass own = some m.cls) (w1 : (Jvm.Cond.methodLink own index y).before a0 Z = true) (w2 : (Jvm.Cond.sameMethod y.cls owner y.name y.desc).before a0 Z = true) (w3 : (Jvm.Cond.declares ⟨owner, y.name, y.desc⟩).before a0 Z = true) (w4 : (Jvm.Cond.selects C y z).before a0 Z = true) (w5 : (Jvm.Cond.instanceMethod z).before a0 Z = true) (w6 : (Jvm.Cond.code z bytes maxL rt).before a0 Z = true) (w7 : (Jvm.Cond.initialized z.cls).before a0 Z = true)
    (hy : owner ≠ "java/lang/invoke/MethodHandle" ∧ owner ≠ "java/lang/invoke/VarHandle")
    (hM : own_Pur l Z z bytes maxL rt fr lo (Value.ref b :: argsL).toArray w h) (eT : T.heap = h) (E : Exa Z h b C) (hf : fr + 1 ≤ R.frames) (hl : W + (maxL + 11) + lo ≤ R.locals)
    {g : JFrame} (hg : g.method = m) (hsize : g.locals.size = c.maxLocals) (hlen : ∀ sig, parseMethodDescriptor y.desc = some sig → argsL.length = sig.parameters.length)
    (hstack : g.stack = argsL.reverse ++ .ref b :: rest) (hW : 2 * g.monitorRoom + (rest.map fun v => v.category).sum ≤ W) (hdg : decode c.code g.pc = .ok (.invokevirtual index, 3)) :
    ∃ T', Stand p l e R s m args below meth c T' [] 0 0 ∧ T'.heap = h ∧ ∀ t, Steps p.tables e below (T'.setTop { g with pc := g.pc + 3, stack := w.toList ++ rest }) t → Steps p.tables e below (T.setTop g) t := by
  obtain ⟨cq, kq, qa, qb, qc⟩ := isOf (T := T) hZ eT E
  obtain ⟨_, _, ⟨T1, L1, k1, n1⟩, -, X1, ⟨Lc, hQ, l1, y1, z1⟩, st⟩ := X.virtualBackUp hx hown (mvT hZ w1) (mvT hZ w2) (mvT hZ w3) hy (mvT hZ w4) (mvT hZ w5) (backOf (W := W) (hM []) hZ w6 w7 hf hl) qa qc hg hsize (Steps.refl _) hlen hstack hW hdg (fun _ _ => ⟨rfl, eT, Nat.zero_le _, Nat.zero_le _⟩)
  dsimp only [Pt.U, Pt.locs, Pt.cells, Pt.slots] at X1 l1 y1 z1 st hQ
  subst l1 y1 z1
  obtain ⟨rfl, rfl, e1⟩ := hQ
  exact ⟨T1, X1, e1, fun t k => st.trans k⟩
theorem own_ne {a b : Addr} {C n d : String} {x y : Value} (F : Fld Z h a C n d x) (G : Fld Z h b C n d y) (hn : x ≠ y) : a ≠ b := fun q => by
  subst q
  obtain ⟨c1, f1, k1, i1, g1, h1, h2, -, -, -, -, h7⟩ := F
  obtain ⟨c2, f2, k2, i2, g2, j1, j2, -, -, -, -, j7⟩ := G
  cases h1.symm.trans j1
  cases h2.symm.trans j2
  exact hn (Option.some.inj (h7.symm.trans j7))
theorem own_acmp_same {b : Addr} : XT.acmp .eq (.ref b) (.ref b) = true ∧ XT.acmp .ne (.ref b) (.ref b) = false := by simp [XT.acmp]
theorem own_acmp_diff {a b : Addr} (hn : a ≠ b) : XT.acmp .eq (.ref a) (.ref b) = false ∧ XT.acmp .ne (.ref a) (.ref b) = true := by simp [XT.acmp, hn]
theorem own_sta {C n d : String} {a : Addr} (ev : (Term.static C n d).eval args Z none [] Z = some (.ref a)) (wi : (Jvm.Cond.initialized C).before args Z = true) (wl : (Jvm.Cond.laysStatic C n d).before args Z = true) : Sta Z Z.heap C n d (.ref a) := Sta.start ev (Or.inr ⟨wi, wl⟩)
theorem own_fldE {t : Term} {C n d : String} {a : Addr} {x : Value} (ev : t.eval args Z none [] Z = some (.ref a)) (e2 : (Term.field t C n d).eval args Z none [] Z = some x) : Fld Z Z.heap a C n d x := Fld.start ((fld_at ev).symm.trans e2)
theorem own_fldI {t : Term} {C n d : String} {a : Addr} {k : Int32} (ev : t.eval args Z none [] Z = some (.ref a)) (hN : (Jvm.Cond.eq (.field t C n d) (.int k)).value args Z none Z [] = some true) : Fld Z Z.heap a C n d (.int k) := by
  obtain ⟨x, y, g1, g2, k1, k2⟩ := cmp_v (Or.inl hN)
  obtain rfl : Value.int k = y := Option.some.inj ((Term.int_eval k).symm.trans g2)
  obtain ⟨z, rfl⟩ := k2
  obtain rfl : z = k := gotT (Jvm.Cond.eq_ints g1 g2) hN
  exact own_fldE ev g1
theorem own_fldL {t : Term} {C n d : String} {a : Addr} {k : Int64} (ev : t.eval args Z none [] Z = some (.ref a)) (hN : (Jvm.Cond.eq (.field t C n d) (.long k)).value args Z none Z [] = some true) : Fld Z Z.heap a C n d (.long k) := by
  obtain ⟨x, y, g1, g2, k1, k2⟩ := cmp_v (Or.inl hN)
  have g3 : (Term.long k).eval args Z none [] Z = some (.long k) := rfl
  obtain rfl : Value.long k = y := Option.some.inj (g3.symm.trans g2)
  obtain ⟨z, rfl⟩ := k2
  obtain rfl : z = k := gotT (eq_L g1 g2) hN
  exact own_fldE ev g1
theorem own_fldR {t u : Term} {C n d : String} {a b : Addr} (ev : t.eval args Z none [] Z = some (.ref a)) (eu : u.eval args Z none [] Z = some (.ref b)) (hN : (Jvm.Cond.eq (.field t C n d) u).value args Z none Z [] = some true) : Fld Z Z.heap a C n d (.ref b) := by
  obtain ⟨x, y, g1, g2, k1, k2⟩ := cmp_v (Or.inl hN)
  obtain rfl : Value.ref b = y := Option.some.inj (eu.symm.trans g2)
  have hx : x.isRef = true := k2.2
  obtain rfl : x = Value.ref b := gotT (eq_R g1 eu hx rfl) hN
  exact own_fldE ev g1
end Own

/-! 1. What is known of the constants -/
def own_Facts (Z : State) (h0 : Heap) (a_SELL a_BUY : Addr) : Prop :=
  (Sta Z h0 "com/example/sevan_exchange/sevanexchange/engine/Side" "SELL" "Lcom/example/sevan_exchange/sevanexchange/engine/Side;" (.ref a_SELL)) ∧
  (Exa Z h0 a_SELL "com/example/sevan_exchange/sevanexchange/engine/Side") ∧
  (Sta Z h0 "com/example/sevan_exchange/sevanexchange/engine/Side" "BUY" "Lcom/example/sevan_exchange/sevanexchange/engine/Side;" (.ref a_BUY)) ∧
  (Exa Z h0 a_BUY "com/example/sevan_exchange/sevanexchange/engine/Side") ∧
  (Fld Z h0 a_SELL "java/lang/Enum" "ordinal" "I" (.int (1 : Int32))) ∧
  (Fld Z h0 a_BUY "java/lang/Enum" "ordinal" "I" (.int (0 : Int32))) ∧
  (a_SELL ≠ a_BUY)
theorem own_cmp_self (a : Int64) : XT.cmpL a a = 0 := by simp [XT.cmpL, Int64.lt_irrefl]
theorem own_tri (a b : Int64) : (XT.cmpL a b = -1 ∧ XT.cmpL b a = 1) ∨ (XT.cmpL a b = 0 ∧ XT.cmpL b a = 0) ∨ (XT.cmpL a b = 1 ∧ XT.cmpL b a = -1) := by
  have q : a.toInt < b.toInt ∨ a.toInt = b.toInt ∨ b.toInt < a.toInt := by omega
  rcases q with q | q | q
  · have h1 : a < b := Int64.lt_iff_toInt_lt.mpr q
    have h2 : ¬ b < a := fun h => by have := Int64.lt_iff_toInt_lt.mp h; omega
    have h3 : ¬ a = b := fun h => by subst h; omega
    exact Or.inl ⟨by simp [XT.cmpL, h2, h3], by simp [XT.cmpL, h1]⟩
  · have h : a = b := Int64.toInt_inj.mp q
    subst h
    exact Or.inr (Or.inl ⟨own_cmp_self a, own_cmp_self a⟩)
  · have h1 : b < a := Int64.lt_iff_toInt_lt.mpr q
    have h2 : ¬ a < b := fun h => by have := Int64.lt_iff_toInt_lt.mp h; omega
    have h3 : ¬ b = a := fun h => by subst h; omega
    exact Or.inr (Or.inr ⟨by simp [XT.cmpL, h1], by simp [XT.cmpL, h2, h3]⟩)
theorem own_pn0 : plainName "com/example/sevan_exchange/sevanexchange/engine/Side" = true := by first | (simp [plainName, overriddenIn]; done) | decide +kernel
theorem own_ef_d1 (m : MethodId) (x0 : Addr) (x1 : Int64) (x2 : Int64) : entryFrame m #[(.ref x0), (.long x1), (.long x2)] 5 = mkF m 0 #[.val (.ref x0), .val (.long x1), .second, .val (.long x2), .second] [] := by first | (simp [entryFrame, mkF, argsToLocals, Value.category]; done) | rfl
theorem own_d1_0 : decode prog_39_method_5_code 0 = .ok (.aload_n 0, 1) := by decide +kernel
theorem own_d1_1 : decode prog_39_method_5_code 1 = .ok (.getstatic 3, 3) := by decide +kernel
theorem own_d1_4 : decode prog_39_method_5_code 4 = .ok (.if_acmp .ne 17, 3) := by decide +kernel
theorem own_d1_7 : decode prog_39_method_5_code 7 = .ok (.lload_n 3, 1) := by decide +kernel
theorem own_d1_8 : decode prog_39_method_5_code 8 = .ok (.lload_n 1, 1) := by decide +kernel
theorem own_d1_9 : decode prog_39_method_5_code 9 = .ok (.lcmp, 1) := by decide +kernel
theorem own_d1_10 : decode prog_39_method_5_code 10 = .ok (.ifCond .gt 7, 3) := by decide +kernel
theorem own_d1_13 : decode prog_39_method_5_code 13 = .ok (.iconst 1, 1) := by decide +kernel
theorem own_d1_14 : decode prog_39_method_5_code 14 = .ok (.goto 18, 3) := by decide +kernel
theorem own_d1_32 : decode prog_39_method_5_code 32 = .ok (.ireturn, 1) := by decide +kernel
set_option maxRecDepth 65536 in
set_option maxHeartbeats 40000000 in
theorem own_cr_a_BUY_m (l : Launch) (Z : State) (a0 : Array Value) (hw : ∀ d ∈ tables_1, d.before a0 Z = true) (h0 : Heap) {a_SELL a_BUY : Addr} (H : own_Facts Z h0 a_SELL a_BUY) (q1 q2 : Int64) (hc : XT.cmpL q2 q1 = -1) :
    own_Pur l Z (⟨"com/example/sevan_exchange/sevanexchange/engine/Side", "crosses", "(JJ)Z"⟩ : MethodName) prog_39_method_5_code 5 (some .boolean) 0 0 #[(.ref a_BUY), (.long q1), (.long q2)] (some (.int (1 : Int32))) h0 := by
  have H0 := H
  obtain ⟨S_SELL, X_SELL, S_BUY, X_BUY, F_SELL_ordinal, F_BUY_ordinal, D_SELL_BUY⟩ := H0
  refine own_body (plainFor_of_name own_pn0) ?_
  intro p e s m below meth c T0 X0 e0 hx hby hml hown hret hZ
  have hown : s.vm.findClass "com/example/sevan_exchange/sevanexchange/engine/Side" = some m.cls := hown
  rw [own_ef_d1 m a_BUY q1 q2]
  refine own_Fin.back (S' := T0.setTop (mkF m 1 #[.val (.ref a_BUY), .val (.long q1), .second, .val (.long q2), .second] [(.ref a_BUY)])) (fun t k => XS.aloadN X0.here hx rfl (hb hby own_d1_0) rfl rfl k) ?_
  obtain ⟨T1, X1, e1, k1⟩ := getS X0 hx hZ hown (host := "") (hw _ (List.mem_of_getElem? (i := 8) rfl)) Via.refl e0 S_BUY (g := (mkF m 1 #[.val (.ref a_BUY), .val (.long q1), .second, .val (.long q2), .second] [(.ref a_BUY)])) rfl (hb hby own_d1_1)
  refine own_Fin.back (S' := T1.setTop (mkF m 4 #[.val (.ref a_BUY), .val (.long q1), .second, .val (.long q2), .second] [(.ref a_BUY), (.ref a_BUY)])) k1 ?_
  refine own_Fin.back (S' := T1.setTop (mkF m 7 #[.val (.ref a_BUY), .val (.long q1), .second, .val (.long q2), .second] [])) (fun t k => XT.acmpNo X1.here hx rfl (hb hby own_d1_4) rfl rfl rfl own_acmp_same.2 k) ?_
  refine own_Fin.back (S' := T1.setTop (mkF m 8 #[.val (.ref a_BUY), .val (.long q1), .second, .val (.long q2), .second] [(.long q2)])) (fun t k => XT.lloadN X1.here hx rfl (hb hby own_d1_7) rfl k) ?_
  refine own_Fin.back (S' := T1.setTop (mkF m 9 #[.val (.ref a_BUY), .val (.long q1), .second, .val (.long q2), .second] [(.long q1), (.long q2)])) (fun t k => XT.lloadN X1.here hx rfl (hb hby own_d1_8) rfl k) ?_
  refine own_Fin.back (S' := T1.setTop (mkF m 10 #[.val (.ref a_BUY), .val (.long q1), .second, .val (.long q2), .second] [(.int (XT.cmpL q2 q1))])) (fun t k => XT.lcmp X1.here hx rfl (hb hby own_d1_9) rfl k) ?_
  refine own_Fin.back (S' := T1.setTop (mkF m 13 #[.val (.ref a_BUY), .val (.long q1), .second, .val (.long q2), .second] [])) (fun t k => XS.ifNo X1.here hx rfl (hb hby own_d1_10) rfl (by rw [hc]; first | done | decide) k) ?_
  refine own_Fin.back (S' := T1.setTop (mkF m 14 #[.val (.ref a_BUY), .val (.long q1), .second, .val (.long q2), .second] [(.int (1 : Int32))])) (fun t k => XS.iconst X1.here hx rfl (hb hby own_d1_13) k) ?_
  refine own_Fin.back (S' := T1.setTop (mkF m 32 #[.val (.ref a_BUY), .val (.long q1), .second, .val (.long q2), .second] [(.int (1 : Int32))])) (fun t k => XS.goto X1.here hx rfl (pc0 := 14) (pc' := 32) rfl (hb hby own_d1_14) (by decide) (by decide) k) ?_
  exact ⟨T1, X1, e1, fun fs hr => retOut X1 hx (w := (.int (1 : Int32))) (t := .boolean) hret (by first | rfl | decide) (Or.inl ⟨rfl, Or.inr (Or.inl rfl), _, rfl⟩) (hb hby own_d1_32) hr⟩
set_option maxRecDepth 65536 in
set_option maxHeartbeats 40000000 in
theorem own_cr_a_BUY_z (l : Launch) (Z : State) (a0 : Array Value) (hw : ∀ d ∈ tables_1, d.before a0 Z = true) (h0 : Heap) {a_SELL a_BUY : Addr} (H : own_Facts Z h0 a_SELL a_BUY) (q1 q2 : Int64) (hc : XT.cmpL q2 q1 = 0) :
    own_Pur l Z (⟨"com/example/sevan_exchange/sevanexchange/engine/Side", "crosses", "(JJ)Z"⟩ : MethodName) prog_39_method_5_code 5 (some .boolean) 0 0 #[(.ref a_BUY), (.long q1), (.long q2)] (some (.int (1 : Int32))) h0 := by
  have H0 := H
  obtain ⟨S_SELL, X_SELL, S_BUY, X_BUY, F_SELL_ordinal, F_BUY_ordinal, D_SELL_BUY⟩ := H0
  refine own_body (plainFor_of_name own_pn0) ?_
  intro p e s m below meth c T0 X0 e0 hx hby hml hown hret hZ
  have hown : s.vm.findClass "com/example/sevan_exchange/sevanexchange/engine/Side" = some m.cls := hown
  rw [own_ef_d1 m a_BUY q1 q2]
  refine own_Fin.back (S' := T0.setTop (mkF m 1 #[.val (.ref a_BUY), .val (.long q1), .second, .val (.long q2), .second] [(.ref a_BUY)])) (fun t k => XS.aloadN X0.here hx rfl (hb hby own_d1_0) rfl rfl k) ?_
  obtain ⟨T2, X2, e2, k2⟩ := getS X0 hx hZ hown (host := "") (hw _ (List.mem_of_getElem? (i := 8) rfl)) Via.refl e0 S_BUY (g := (mkF m 1 #[.val (.ref a_BUY), .val (.long q1), .second, .val (.long q2), .second] [(.ref a_BUY)])) rfl (hb hby own_d1_1)
  refine own_Fin.back (S' := T2.setTop (mkF m 4 #[.val (.ref a_BUY), .val (.long q1), .second, .val (.long q2), .second] [(.ref a_BUY), (.ref a_BUY)])) k2 ?_
  refine own_Fin.back (S' := T2.setTop (mkF m 7 #[.val (.ref a_BUY), .val (.long q1), .second, .val (.long q2), .second] [])) (fun t k => XT.acmpNo X2.here hx rfl (hb hby own_d1_4) rfl rfl rfl own_acmp_same.2 k) ?_
  refine own_Fin.back (S' := T2.setTop (mkF m 8 #[.val (.ref a_BUY), .val (.long q1), .second, .val (.long q2), .second] [(.long q2)])) (fun t k => XT.lloadN X2.here hx rfl (hb hby own_d1_7) rfl k) ?_
  refine own_Fin.back (S' := T2.setTop (mkF m 9 #[.val (.ref a_BUY), .val (.long q1), .second, .val (.long q2), .second] [(.long q1), (.long q2)])) (fun t k => XT.lloadN X2.here hx rfl (hb hby own_d1_8) rfl k) ?_
  refine own_Fin.back (S' := T2.setTop (mkF m 10 #[.val (.ref a_BUY), .val (.long q1), .second, .val (.long q2), .second] [(.int (XT.cmpL q2 q1))])) (fun t k => XT.lcmp X2.here hx rfl (hb hby own_d1_9) rfl k) ?_
  refine own_Fin.back (S' := T2.setTop (mkF m 13 #[.val (.ref a_BUY), .val (.long q1), .second, .val (.long q2), .second] [])) (fun t k => XS.ifNo X2.here hx rfl (hb hby own_d1_10) rfl (by rw [hc]; first | done | decide) k) ?_
  refine own_Fin.back (S' := T2.setTop (mkF m 14 #[.val (.ref a_BUY), .val (.long q1), .second, .val (.long q2), .second] [(.int (1 : Int32))])) (fun t k => XS.iconst X2.here hx rfl (hb hby own_d1_13) k) ?_
  refine own_Fin.back (S' := T2.setTop (mkF m 32 #[.val (.ref a_BUY), .val (.long q1), .second, .val (.long q2), .second] [(.int (1 : Int32))])) (fun t k => XS.goto X2.here hx rfl (pc0 := 14) (pc' := 32) rfl (hb hby own_d1_14) (by decide) (by decide) k) ?_
  exact ⟨T2, X2, e2, fun fs hr => retOut X2 hx (w := (.int (1 : Int32))) (t := .boolean) hret (by first | rfl | decide) (Or.inl ⟨rfl, Or.inr (Or.inl rfl), _, rfl⟩) (hb hby own_d1_32) hr⟩
theorem own_d1_17 : decode prog_39_method_5_code 17 = .ok (.iconst 0, 1) := by decide +kernel
theorem own_d1_18 : decode prog_39_method_5_code 18 = .ok (.goto 14, 3) := by decide +kernel
set_option maxRecDepth 65536 in
set_option maxHeartbeats 40000000 in
theorem own_cr_a_BUY_p (l : Launch) (Z : State) (a0 : Array Value) (hw : ∀ d ∈ tables_1, d.before a0 Z = true) (h0 : Heap) {a_SELL a_BUY : Addr} (H : own_Facts Z h0 a_SELL a_BUY) (q1 q2 : Int64) (hc : XT.cmpL q2 q1 = 1) :
    own_Pur l Z (⟨"com/example/sevan_exchange/sevanexchange/engine/Side", "crosses", "(JJ)Z"⟩ : MethodName) prog_39_method_5_code 5 (some .boolean) 0 0 #[(.ref a_BUY), (.long q1), (.long q2)] (some (.int (0 : Int32))) h0 := by
  have H0 := H
  obtain ⟨S_SELL, X_SELL, S_BUY, X_BUY, F_SELL_ordinal, F_BUY_ordinal, D_SELL_BUY⟩ := H0
  refine own_body (plainFor_of_name own_pn0) ?_
  intro p e s m below meth c T0 X0 e0 hx hby hml hown hret hZ
  have hown : s.vm.findClass "com/example/sevan_exchange/sevanexchange/engine/Side" = some m.cls := hown
  rw [own_ef_d1 m a_BUY q1 q2]
  refine own_Fin.back (S' := T0.setTop (mkF m 1 #[.val (.ref a_BUY), .val (.long q1), .second, .val (.long q2), .second] [(.ref a_BUY)])) (fun t k => XS.aloadN X0.here hx rfl (hb hby own_d1_0) rfl rfl k) ?_
  obtain ⟨T3, X3, e3, k3⟩ := getS X0 hx hZ hown (host := "") (hw _ (List.mem_of_getElem? (i := 8) rfl)) Via.refl e0 S_BUY (g := (mkF m 1 #[.val (.ref a_BUY), .val (.long q1), .second, .val (.long q2), .second] [(.ref a_BUY)])) rfl (hb hby own_d1_1)
  refine own_Fin.back (S' := T3.setTop (mkF m 4 #[.val (.ref a_BUY), .val (.long q1), .second, .val (.long q2), .second] [(.ref a_BUY), (.ref a_BUY)])) k3 ?_
  refine own_Fin.back (S' := T3.setTop (mkF m 7 #[.val (.ref a_BUY), .val (.long q1), .second, .val (.long q2), .second] [])) (fun t k => XT.acmpNo X3.here hx rfl (hb hby own_d1_4) rfl rfl rfl own_acmp_same.2 k) ?_
  refine own_Fin.back (S' := T3.setTop (mkF m 8 #[.val (.ref a_BUY), .val (.long q1), .second, .val (.long q2), .second] [(.long q2)])) (fun t k => XT.lloadN X3.here hx rfl (hb hby own_d1_7) rfl k) ?_
  refine own_Fin.back (S' := T3.setTop (mkF m 9 #[.val (.ref a_BUY), .val (.long q1), .second, .val (.long q2), .second] [(.long q1), (.long q2)])) (fun t k => XT.lloadN X3.here hx rfl (hb hby own_d1_8) rfl k) ?_
  refine own_Fin.back (S' := T3.setTop (mkF m 10 #[.val (.ref a_BUY), .val (.long q1), .second, .val (.long q2), .second] [(.int (XT.cmpL q2 q1))])) (fun t k => XT.lcmp X3.here hx rfl (hb hby own_d1_9) rfl k) ?_
  refine own_Fin.back (S' := T3.setTop (mkF m 17 #[.val (.ref a_BUY), .val (.long q1), .second, .val (.long q2), .second] [])) (fun t k => XS.ifYes X3.here hx rfl (pc0 := 10) (pc' := 17) rfl (hb hby own_d1_10) rfl (by rw [hc]; first | done | decide) (by decide) (by decide) k) ?_
  refine own_Fin.back (S' := T3.setTop (mkF m 18 #[.val (.ref a_BUY), .val (.long q1), .second, .val (.long q2), .second] [(.int (0 : Int32))])) (fun t k => XS.iconst X3.here hx rfl (hb hby own_d1_17) k) ?_
  refine own_Fin.back (S' := T3.setTop (mkF m 32 #[.val (.ref a_BUY), .val (.long q1), .second, .val (.long q2), .second] [(.int (0 : Int32))])) (fun t k => XS.goto X3.here hx rfl (pc0 := 18) (pc' := 32) rfl (hb hby own_d1_18) (by decide) (by decide) k) ?_
  exact ⟨T3, X3, e3, fun fs hr => retOut X3 hx (w := (.int (0 : Int32))) (t := .boolean) hret (by first | rfl | decide) (Or.inl ⟨rfl, Or.inr (Or.inl rfl), _, rfl⟩) (hb hby own_d1_32) hr⟩
theorem own_d1_21 : decode prog_39_method_5_code 21 = .ok (.lload_n 3, 1) := by decide +kernel
theorem own_d1_22 : decode prog_39_method_5_code 22 = .ok (.lload_n 1, 1) := by decide +kernel
theorem own_d1_23 : decode prog_39_method_5_code 23 = .ok (.lcmp, 1) := by decide +kernel
theorem own_d1_24 : decode prog_39_method_5_code 24 = .ok (.ifCond .lt 7, 3) := by decide +kernel
theorem own_d1_31 : decode prog_39_method_5_code 31 = .ok (.iconst 0, 1) := by decide +kernel
set_option maxRecDepth 65536 in
set_option maxHeartbeats 40000000 in
theorem own_cr_a_SELL_m (l : Launch) (Z : State) (a0 : Array Value) (hw : ∀ d ∈ tables_1, d.before a0 Z = true) (h0 : Heap) {a_SELL a_BUY : Addr} (H : own_Facts Z h0 a_SELL a_BUY) (q1 q2 : Int64) (hc : XT.cmpL q2 q1 = -1) :
    own_Pur l Z (⟨"com/example/sevan_exchange/sevanexchange/engine/Side", "crosses", "(JJ)Z"⟩ : MethodName) prog_39_method_5_code 5 (some .boolean) 0 0 #[(.ref a_SELL), (.long q1), (.long q2)] (some (.int (0 : Int32))) h0 := by
  have H0 := H
  obtain ⟨S_SELL, X_SELL, S_BUY, X_BUY, F_SELL_ordinal, F_BUY_ordinal, D_SELL_BUY⟩ := H0
  refine own_body (plainFor_of_name own_pn0) ?_
  intro p e s m below meth c T0 X0 e0 hx hby hml hown hret hZ
  have hown : s.vm.findClass "com/example/sevan_exchange/sevanexchange/engine/Side" = some m.cls := hown
  rw [own_ef_d1 m a_SELL q1 q2]
  refine own_Fin.back (S' := T0.setTop (mkF m 1 #[.val (.ref a_SELL), .val (.long q1), .second, .val (.long q2), .second] [(.ref a_SELL)])) (fun t k => XS.aloadN X0.here hx rfl (hb hby own_d1_0) rfl rfl k) ?_
  obtain ⟨T4, X4, e4, k4⟩ := getS X0 hx hZ hown (host := "") (hw _ (List.mem_of_getElem? (i := 8) rfl)) Via.refl e0 S_BUY (g := (mkF m 1 #[.val (.ref a_SELL), .val (.long q1), .second, .val (.long q2), .second] [(.ref a_SELL)])) rfl (hb hby own_d1_1)
  refine own_Fin.back (S' := T4.setTop (mkF m 4 #[.val (.ref a_SELL), .val (.long q1), .second, .val (.long q2), .second] [(.ref a_BUY), (.ref a_SELL)])) k4 ?_
  refine own_Fin.back (S' := T4.setTop (mkF m 21 #[.val (.ref a_SELL), .val (.long q1), .second, .val (.long q2), .second] [])) (fun t k => XT.acmpYes X4.here hx rfl (pc0 := 4) (pc' := 21) rfl (hb hby own_d1_4) rfl rfl rfl (own_acmp_diff D_SELL_BUY).2 (by decide) (by decide) k) ?_
  refine own_Fin.back (S' := T4.setTop (mkF m 22 #[.val (.ref a_SELL), .val (.long q1), .second, .val (.long q2), .second] [(.long q2)])) (fun t k => XT.lloadN X4.here hx rfl (hb hby own_d1_21) rfl k) ?_
  refine own_Fin.back (S' := T4.setTop (mkF m 23 #[.val (.ref a_SELL), .val (.long q1), .second, .val (.long q2), .second] [(.long q1), (.long q2)])) (fun t k => XT.lloadN X4.here hx rfl (hb hby own_d1_22) rfl k) ?_
  refine own_Fin.back (S' := T4.setTop (mkF m 24 #[.val (.ref a_SELL), .val (.long q1), .second, .val (.long q2), .second] [(.int (XT.cmpL q2 q1))])) (fun t k => XT.lcmp X4.here hx rfl (hb hby own_d1_23) rfl k) ?_
  refine own_Fin.back (S' := T4.setTop (mkF m 31 #[.val (.ref a_SELL), .val (.long q1), .second, .val (.long q2), .second] [])) (fun t k => XS.ifYes X4.here hx rfl (pc0 := 24) (pc' := 31) rfl (hb hby own_d1_24) rfl (by rw [hc]; first | done | decide) (by decide) (by decide) k) ?_
  refine own_Fin.back (S' := T4.setTop (mkF m 32 #[.val (.ref a_SELL), .val (.long q1), .second, .val (.long q2), .second] [(.int (0 : Int32))])) (fun t k => XS.iconst X4.here hx rfl (hb hby own_d1_31) k) ?_
  exact ⟨T4, X4, e4, fun fs hr => retOut X4 hx (w := (.int (0 : Int32))) (t := .boolean) hret (by first | rfl | decide) (Or.inl ⟨rfl, Or.inr (Or.inl rfl), _, rfl⟩) (hb hby own_d1_32) hr⟩
theorem own_d1_27 : decode prog_39_method_5_code 27 = .ok (.iconst 1, 1) := by decide +kernel
theorem own_d1_28 : decode prog_39_method_5_code 28 = .ok (.goto 4, 3) := by decide +kernel
set_option maxRecDepth 65536 in
set_option maxHeartbeats 40000000 in
theorem own_cr_a_SELL_z (l : Launch) (Z : State) (a0 : Array Value) (hw : ∀ d ∈ tables_1, d.before a0 Z = true) (h0 : Heap) {a_SELL a_BUY : Addr} (H : own_Facts Z h0 a_SELL a_BUY) (q1 q2 : Int64) (hc : XT.cmpL q2 q1 = 0) :
    own_Pur l Z (⟨"com/example/sevan_exchange/sevanexchange/engine/Side", "crosses", "(JJ)Z"⟩ : MethodName) prog_39_method_5_code 5 (some .boolean) 0 0 #[(.ref a_SELL), (.long q1), (.long q2)] (some (.int (1 : Int32))) h0 := by
  have H0 := H
  obtain ⟨S_SELL, X_SELL, S_BUY, X_BUY, F_SELL_ordinal, F_BUY_ordinal, D_SELL_BUY⟩ := H0
  refine own_body (plainFor_of_name own_pn0) ?_
  intro p e s m below meth c T0 X0 e0 hx hby hml hown hret hZ
  have hown : s.vm.findClass "com/example/sevan_exchange/sevanexchange/engine/Side" = some m.cls := hown
  rw [own_ef_d1 m a_SELL q1 q2]
  refine own_Fin.back (S' := T0.setTop (mkF m 1 #[.val (.ref a_SELL), .val (.long q1), .second, .val (.long q2), .second] [(.ref a_SELL)])) (fun t k => XS.aloadN X0.here hx rfl (hb hby own_d1_0) rfl rfl k) ?_
  obtain ⟨T5, X5, e5, k5⟩ := getS X0 hx hZ hown (host := "") (hw _ (List.mem_of_getElem? (i := 8) rfl)) Via.refl e0 S_BUY (g := (mkF m 1 #[.val (.ref a_SELL), .val (.long q1), .second, .val (.long q2), .second] [(.ref a_SELL)])) rfl (hb hby own_d1_1)
  refine own_Fin.back (S' := T5.setTop (mkF m 4 #[.val (.ref a_SELL), .val (.long q1), .second, .val (.long q2), .second] [(.ref a_BUY), (.ref a_SELL)])) k5 ?_
  refine own_Fin.back (S' := T5.setTop (mkF m 21 #[.val (.ref a_SELL), .val (.long q1), .second, .val (.long q2), .second] [])) (fun t k => XT.acmpYes X5.here hx rfl (pc0 := 4) (pc' := 21) rfl (hb hby own_d1_4) rfl rfl rfl (own_acmp_diff D_SELL_BUY).2 (by decide) (by decide) k) ?_
  refine own_Fin.back (S' := T5.setTop (mkF m 22 #[.val (.ref a_SELL), .val (.long q1), .second, .val (.long q2), .second] [(.long q2)])) (fun t k => XT.lloadN X5.here hx rfl (hb hby own_d1_21) rfl k) ?_
  refine own_Fin.back (S' := T5.setTop (mkF m 23 #[.val (.ref a_SELL), .val (.long q1), .second, .val (.long q2), .second] [(.long q1), (.long q2)])) (fun t k => XT.lloadN X5.here hx rfl (hb hby own_d1_22) rfl k) ?_
  refine own_Fin.back (S' := T5.setTop (mkF m 24 #[.val (.ref a_SELL), .val (.long q1), .second, .val (.long q2), .second] [(.int (XT.cmpL q2 q1))])) (fun t k => XT.lcmp X5.here hx rfl (hb hby own_d1_23) rfl k) ?_
  refine own_Fin.back (S' := T5.setTop (mkF m 27 #[.val (.ref a_SELL), .val (.long q1), .second, .val (.long q2), .second] [])) (fun t k => XS.ifNo X5.here hx rfl (hb hby own_d1_24) rfl (by rw [hc]; first | done | decide) k) ?_
  refine own_Fin.back (S' := T5.setTop (mkF m 28 #[.val (.ref a_SELL), .val (.long q1), .second, .val (.long q2), .second] [(.int (1 : Int32))])) (fun t k => XS.iconst X5.here hx rfl (hb hby own_d1_27) k) ?_
  refine own_Fin.back (S' := T5.setTop (mkF m 32 #[.val (.ref a_SELL), .val (.long q1), .second, .val (.long q2), .second] [(.int (1 : Int32))])) (fun t k => XS.goto X5.here hx rfl (pc0 := 28) (pc' := 32) rfl (hb hby own_d1_28) (by decide) (by decide) k) ?_
  exact ⟨T5, X5, e5, fun fs hr => retOut X5 hx (w := (.int (1 : Int32))) (t := .boolean) hret (by first | rfl | decide) (Or.inl ⟨rfl, Or.inr (Or.inl rfl), _, rfl⟩) (hb hby own_d1_32) hr⟩
set_option maxRecDepth 65536 in
set_option maxHeartbeats 40000000 in
theorem own_cr_a_SELL_p (l : Launch) (Z : State) (a0 : Array Value) (hw : ∀ d ∈ tables_1, d.before a0 Z = true) (h0 : Heap) {a_SELL a_BUY : Addr} (H : own_Facts Z h0 a_SELL a_BUY) (q1 q2 : Int64) (hc : XT.cmpL q2 q1 = 1) :
    own_Pur l Z (⟨"com/example/sevan_exchange/sevanexchange/engine/Side", "crosses", "(JJ)Z"⟩ : MethodName) prog_39_method_5_code 5 (some .boolean) 0 0 #[(.ref a_SELL), (.long q1), (.long q2)] (some (.int (1 : Int32))) h0 := by
  have H0 := H
  obtain ⟨S_SELL, X_SELL, S_BUY, X_BUY, F_SELL_ordinal, F_BUY_ordinal, D_SELL_BUY⟩ := H0
  refine own_body (plainFor_of_name own_pn0) ?_
  intro p e s m below meth c T0 X0 e0 hx hby hml hown hret hZ
  have hown : s.vm.findClass "com/example/sevan_exchange/sevanexchange/engine/Side" = some m.cls := hown
  rw [own_ef_d1 m a_SELL q1 q2]
  refine own_Fin.back (S' := T0.setTop (mkF m 1 #[.val (.ref a_SELL), .val (.long q1), .second, .val (.long q2), .second] [(.ref a_SELL)])) (fun t k => XS.aloadN X0.here hx rfl (hb hby own_d1_0) rfl rfl k) ?_
  obtain ⟨T6, X6, e6, k6⟩ := getS X0 hx hZ hown (host := "") (hw _ (List.mem_of_getElem? (i := 8) rfl)) Via.refl e0 S_BUY (g := (mkF m 1 #[.val (.ref a_SELL), .val (.long q1), .second, .val (.long q2), .second] [(.ref a_SELL)])) rfl (hb hby own_d1_1)
  refine own_Fin.back (S' := T6.setTop (mkF m 4 #[.val (.ref a_SELL), .val (.long q1), .second, .val (.long q2), .second] [(.ref a_BUY), (.ref a_SELL)])) k6 ?_
  refine own_Fin.back (S' := T6.setTop (mkF m 21 #[.val (.ref a_SELL), .val (.long q1), .second, .val (.long q2), .second] [])) (fun t k => XT.acmpYes X6.here hx rfl (pc0 := 4) (pc' := 21) rfl (hb hby own_d1_4) rfl rfl rfl (own_acmp_diff D_SELL_BUY).2 (by decide) (by decide) k) ?_
  refine own_Fin.back (S' := T6.setTop (mkF m 22 #[.val (.ref a_SELL), .val (.long q1), .second, .val (.long q2), .second] [(.long q2)])) (fun t k => XT.lloadN X6.here hx rfl (hb hby own_d1_21) rfl k) ?_
  refine own_Fin.back (S' := T6.setTop (mkF m 23 #[.val (.ref a_SELL), .val (.long q1), .second, .val (.long q2), .second] [(.long q1), (.long q2)])) (fun t k => XT.lloadN X6.here hx rfl (hb hby own_d1_22) rfl k) ?_
  refine own_Fin.back (S' := T6.setTop (mkF m 24 #[.val (.ref a_SELL), .val (.long q1), .second, .val (.long q2), .second] [(.int (XT.cmpL q2 q1))])) (fun t k => XT.lcmp X6.here hx rfl (hb hby own_d1_23) rfl k) ?_
  refine own_Fin.back (S' := T6.setTop (mkF m 27 #[.val (.ref a_SELL), .val (.long q1), .second, .val (.long q2), .second] [])) (fun t k => XS.ifNo X6.here hx rfl (hb hby own_d1_24) rfl (by rw [hc]; first | done | decide) k) ?_
  refine own_Fin.back (S' := T6.setTop (mkF m 28 #[.val (.ref a_SELL), .val (.long q1), .second, .val (.long q2), .second] [(.int (1 : Int32))])) (fun t k => XS.iconst X6.here hx rfl (hb hby own_d1_27) k) ?_
  refine own_Fin.back (S' := T6.setTop (mkF m 32 #[.val (.ref a_SELL), .val (.long q1), .second, .val (.long q2), .second] [(.int (1 : Int32))])) (fun t k => XS.goto X6.here hx rfl (pc0 := 28) (pc' := 32) rfl (hb hby own_d1_28) (by decide) (by decide) k) ?_
  exact ⟨T6, X6, e6, fun fs hr => retOut X6 hx (w := (.int (1 : Int32))) (t := .boolean) hret (by first | rfl | decide) (Or.inl ⟨rfl, Or.inr (Or.inl rfl), _, rfl⟩) (hb hby own_d1_32) hr⟩
theorem own_ef_d4 (m : MethodId) (x0 : Int64) (x1 : Int64) : entryFrame m #[(.long x0), (.long x1)] 4 = mkF m 0 #[.val (.long x0), .second, .val (.long x1), .second] [] := by first | (simp [entryFrame, mkF, argsToLocals, Value.category]; done) | rfl
theorem own_d4_0 : decode jdk_29_method_66_code 0 = .ok (.lload_n 0, 1) := by decide +kernel
theorem own_d4_1 : decode jdk_29_method_66_code 1 = .ok (.lload_n 2, 1) := by decide +kernel
theorem own_d4_2 : decode jdk_29_method_66_code 2 = .ok (.lcmp, 1) := by decide +kernel
theorem own_d4_3 : decode jdk_29_method_66_code 3 = .ok (.ifCond .lt 7, 3) := by decide +kernel
theorem own_d4_10 : decode jdk_29_method_66_code 10 = .ok (.lload_n 2, 1) := by decide +kernel
theorem own_d4_11 : decode jdk_29_method_66_code 11 = .ok (.lreturn, 1) := by decide +kernel
set_option maxRecDepth 65536 in
set_option maxHeartbeats 40000000 in
theorem own_max_m (l : Launch) (Z : State) (a0 : Array Value) (hw : ∀ d ∈ tables_1, d.before a0 Z = true) (h0 : Heap) {a_SELL a_BUY : Addr} (H : own_Facts Z h0 a_SELL a_BUY) (q1 q2 : Int64) (hc : XT.cmpL q1 q2 = -1) :
    own_Pur l Z (⟨"java/lang/Math", "max", "(JJ)J"⟩ : MethodName) jdk_29_method_66_code 4 (some .long) 0 0 #[(.long q1), (.long q2)] (some (.long q2)) h0 := by
  have H0 := H
  obtain ⟨S_SELL, X_SELL, S_BUY, X_BUY, F_SELL_ordinal, F_BUY_ordinal, D_SELL_BUY⟩ := H0
  refine own_body (Jvm.Free.JP.mathPlain rfl (by decide)) ?_
  intro p e s m below meth c T0 X0 e0 hx hby hml hown hret hZ
  have hown : s.vm.findClass "java/lang/Math" = some m.cls := hown
  rw [own_ef_d4 m q1 q2]
  refine own_Fin.back (S' := T0.setTop (mkF m 1 #[.val (.long q1), .second, .val (.long q2), .second] [(.long q1)])) (fun t k => XT.lloadN X0.here hx rfl (hb hby own_d4_0) rfl k) ?_
  refine own_Fin.back (S' := T0.setTop (mkF m 2 #[.val (.long q1), .second, .val (.long q2), .second] [(.long q2), (.long q1)])) (fun t k => XT.lloadN X0.here hx rfl (hb hby own_d4_1) rfl k) ?_
  refine own_Fin.back (S' := T0.setTop (mkF m 3 #[.val (.long q1), .second, .val (.long q2), .second] [(.int (XT.cmpL q1 q2))])) (fun t k => XT.lcmp X0.here hx rfl (hb hby own_d4_2) rfl k) ?_
  refine own_Fin.back (S' := T0.setTop (mkF m 10 #[.val (.long q1), .second, .val (.long q2), .second] [])) (fun t k => XS.ifYes X0.here hx rfl (pc0 := 3) (pc' := 10) rfl (hb hby own_d4_3) rfl (by rw [hc]; first | done | decide) (by decide) (by decide) k) ?_
  refine own_Fin.back (S' := T0.setTop (mkF m 11 #[.val (.long q1), .second, .val (.long q2), .second] [(.long q2)])) (fun t k => XT.lloadN X0.here hx rfl (hb hby own_d4_10) rfl k) ?_
  exact ⟨T0, X0, e0, fun fs hr => retOut X0 hx (w := (.long q2)) (t := .long) hret rfl (Or.inr (Or.inl ⟨rfl, rfl, _, rfl⟩)) (hb hby own_d4_11) hr⟩
theorem own_ef_d2 (m : MethodId) (x0 : Int64) (x1 : Int64) : entryFrame m #[(.long x0), (.long x1)] 4 = mkF m 0 #[.val (.long x0), .second, .val (.long x1), .second] [] := by first | (simp [entryFrame, mkF, argsToLocals, Value.category]; done) | rfl
theorem own_d2_0 : decode jdk_29_method_70_code 0 = .ok (.lload_n 0, 1) := by decide +kernel
theorem own_d2_1 : decode jdk_29_method_70_code 1 = .ok (.lload_n 2, 1) := by decide +kernel
theorem own_d2_2 : decode jdk_29_method_70_code 2 = .ok (.lcmp, 1) := by decide +kernel
theorem own_d2_3 : decode jdk_29_method_70_code 3 = .ok (.ifCond .gt 7, 3) := by decide +kernel
theorem own_d2_6 : decode jdk_29_method_70_code 6 = .ok (.lload_n 0, 1) := by decide +kernel
theorem own_d2_7 : decode jdk_29_method_70_code 7 = .ok (.goto 4, 3) := by decide +kernel
theorem own_d2_11 : decode jdk_29_method_70_code 11 = .ok (.lreturn, 1) := by decide +kernel
set_option maxRecDepth 65536 in
set_option maxHeartbeats 40000000 in
theorem own_min_m (l : Launch) (Z : State) (a0 : Array Value) (hw : ∀ d ∈ tables_1, d.before a0 Z = true) (h0 : Heap) {a_SELL a_BUY : Addr} (H : own_Facts Z h0 a_SELL a_BUY) (q1 q2 : Int64) (hc : XT.cmpL q1 q2 = -1) :
    own_Pur l Z (⟨"java/lang/Math", "min", "(JJ)J"⟩ : MethodName) jdk_29_method_70_code 4 (some .long) 0 0 #[(.long q1), (.long q2)] (some (.long q1)) h0 := by
  have H0 := H
  obtain ⟨S_SELL, X_SELL, S_BUY, X_BUY, F_SELL_ordinal, F_BUY_ordinal, D_SELL_BUY⟩ := H0
  refine own_body (Jvm.Free.JP.mathPlain rfl (by decide)) ?_
  intro p e s m below meth c T0 X0 e0 hx hby hml hown hret hZ
  have hown : s.vm.findClass "java/lang/Math" = some m.cls := hown
  rw [own_ef_d2 m q1 q2]
  refine own_Fin.back (S' := T0.setTop (mkF m 1 #[.val (.long q1), .second, .val (.long q2), .second] [(.long q1)])) (fun t k => XT.lloadN X0.here hx rfl (hb hby own_d2_0) rfl k) ?_
  refine own_Fin.back (S' := T0.setTop (mkF m 2 #[.val (.long q1), .second, .val (.long q2), .second] [(.long q2), (.long q1)])) (fun t k => XT.lloadN X0.here hx rfl (hb hby own_d2_1) rfl k) ?_
  refine own_Fin.back (S' := T0.setTop (mkF m 3 #[.val (.long q1), .second, .val (.long q2), .second] [(.int (XT.cmpL q1 q2))])) (fun t k => XT.lcmp X0.here hx rfl (hb hby own_d2_2) rfl k) ?_
  refine own_Fin.back (S' := T0.setTop (mkF m 6 #[.val (.long q1), .second, .val (.long q2), .second] [])) (fun t k => XS.ifNo X0.here hx rfl (hb hby own_d2_3) rfl (by rw [hc]; first | done | decide) k) ?_
  refine own_Fin.back (S' := T0.setTop (mkF m 7 #[.val (.long q1), .second, .val (.long q2), .second] [(.long q1)])) (fun t k => XT.lloadN X0.here hx rfl (hb hby own_d2_6) rfl k) ?_
  refine own_Fin.back (S' := T0.setTop (mkF m 11 #[.val (.long q1), .second, .val (.long q2), .second] [(.long q1)])) (fun t k => XS.goto X0.here hx rfl (pc0 := 7) (pc' := 11) rfl (hb hby own_d2_7) (by decide) (by decide) k) ?_
  exact ⟨T0, X0, e0, fun fs hr => retOut X0 hx (w := (.long q1)) (t := .long) hret rfl (Or.inr (Or.inl ⟨rfl, rfl, _, rfl⟩)) (hb hby own_d2_11) hr⟩
theorem own_d4_6 : decode jdk_29_method_66_code 6 = .ok (.lload_n 0, 1) := by decide +kernel
theorem own_d4_7 : decode jdk_29_method_66_code 7 = .ok (.goto 4, 3) := by decide +kernel
set_option maxRecDepth 65536 in
set_option maxHeartbeats 40000000 in
theorem own_max_z (l : Launch) (Z : State) (a0 : Array Value) (hw : ∀ d ∈ tables_1, d.before a0 Z = true) (h0 : Heap) {a_SELL a_BUY : Addr} (H : own_Facts Z h0 a_SELL a_BUY) (q1 q2 : Int64) (hc : XT.cmpL q1 q2 = 0) :
    own_Pur l Z (⟨"java/lang/Math", "max", "(JJ)J"⟩ : MethodName) jdk_29_method_66_code 4 (some .long) 0 0 #[(.long q1), (.long q2)] (some (.long q1)) h0 := by
  have H0 := H
  obtain ⟨S_SELL, X_SELL, S_BUY, X_BUY, F_SELL_ordinal, F_BUY_ordinal, D_SELL_BUY⟩ := H0
  refine own_body (Jvm.Free.JP.mathPlain rfl (by decide)) ?_
  intro p e s m below meth c T0 X0 e0 hx hby hml hown hret hZ
  have hown : s.vm.findClass "java/lang/Math" = some m.cls := hown
  rw [own_ef_d4 m q1 q2]
  refine own_Fin.back (S' := T0.setTop (mkF m 1 #[.val (.long q1), .second, .val (.long q2), .second] [(.long q1)])) (fun t k => XT.lloadN X0.here hx rfl (hb hby own_d4_0) rfl k) ?_
  refine own_Fin.back (S' := T0.setTop (mkF m 2 #[.val (.long q1), .second, .val (.long q2), .second] [(.long q2), (.long q1)])) (fun t k => XT.lloadN X0.here hx rfl (hb hby own_d4_1) rfl k) ?_
  refine own_Fin.back (S' := T0.setTop (mkF m 3 #[.val (.long q1), .second, .val (.long q2), .second] [(.int (XT.cmpL q1 q2))])) (fun t k => XT.lcmp X0.here hx rfl (hb hby own_d4_2) rfl k) ?_
  refine own_Fin.back (S' := T0.setTop (mkF m 6 #[.val (.long q1), .second, .val (.long q2), .second] [])) (fun t k => XS.ifNo X0.here hx rfl (hb hby own_d4_3) rfl (by rw [hc]; first | done | decide) k) ?_
  refine own_Fin.back (S' := T0.setTop (mkF m 7 #[.val (.long q1), .second, .val (.long q2), .second] [(.long q1)])) (fun t k => XT.lloadN X0.here hx rfl (hb hby own_d4_6) rfl k) ?_
  refine own_Fin.back (S' := T0.setTop (mkF m 11 #[.val (.long q1), .second, .val (.long q2), .second] [(.long q1)])) (fun t k => XS.goto X0.here hx rfl (pc0 := 7) (pc' := 11) rfl (hb hby own_d4_7) (by decide) (by decide) k) ?_
  exact ⟨T0, X0, e0, fun fs hr => retOut X0 hx (w := (.long q1)) (t := .long) hret rfl (Or.inr (Or.inl ⟨rfl, rfl, _, rfl⟩)) (hb hby own_d4_11) hr⟩
set_option maxRecDepth 65536 in
set_option maxHeartbeats 40000000 in
theorem own_min_z (l : Launch) (Z : State) (a0 : Array Value) (hw : ∀ d ∈ tables_1, d.before a0 Z = true) (h0 : Heap) {a_SELL a_BUY : Addr} (H : own_Facts Z h0 a_SELL a_BUY) (q1 q2 : Int64) (hc : XT.cmpL q1 q2 = 0) :
    own_Pur l Z (⟨"java/lang/Math", "min", "(JJ)J"⟩ : MethodName) jdk_29_method_70_code 4 (some .long) 0 0 #[(.long q1), (.long q2)] (some (.long q1)) h0 := by
  have H0 := H
  obtain ⟨S_SELL, X_SELL, S_BUY, X_BUY, F_SELL_ordinal, F_BUY_ordinal, D_SELL_BUY⟩ := H0
  refine own_body (Jvm.Free.JP.mathPlain rfl (by decide)) ?_
  intro p e s m below meth c T0 X0 e0 hx hby hml hown hret hZ
  have hown : s.vm.findClass "java/lang/Math" = some m.cls := hown
  rw [own_ef_d2 m q1 q2]
  refine own_Fin.back (S' := T0.setTop (mkF m 1 #[.val (.long q1), .second, .val (.long q2), .second] [(.long q1)])) (fun t k => XT.lloadN X0.here hx rfl (hb hby own_d2_0) rfl k) ?_
  refine own_Fin.back (S' := T0.setTop (mkF m 2 #[.val (.long q1), .second, .val (.long q2), .second] [(.long q2), (.long q1)])) (fun t k => XT.lloadN X0.here hx rfl (hb hby own_d2_1) rfl k) ?_
  refine own_Fin.back (S' := T0.setTop (mkF m 3 #[.val (.long q1), .second, .val (.long q2), .second] [(.int (XT.cmpL q1 q2))])) (fun t k => XT.lcmp X0.here hx rfl (hb hby own_d2_2) rfl k) ?_
  refine own_Fin.back (S' := T0.setTop (mkF m 6 #[.val (.long q1), .second, .val (.long q2), .second] [])) (fun t k => XS.ifNo X0.here hx rfl (hb hby own_d2_3) rfl (by rw [hc]; first | done | decide) k) ?_
  refine own_Fin.back (S' := T0.setTop (mkF m 7 #[.val (.long q1), .second, .val (.long q2), .second] [(.long q1)])) (fun t k => XT.lloadN X0.here hx rfl (hb hby own_d2_6) rfl k) ?_
  refine own_Fin.back (S' := T0.setTop (mkF m 11 #[.val (.long q1), .second, .val (.long q2), .second] [(.long q1)])) (fun t k => XS.goto X0.here hx rfl (pc0 := 7) (pc' := 11) rfl (hb hby own_d2_7) (by decide) (by decide) k) ?_
  exact ⟨T0, X0, e0, fun fs hr => retOut X0 hx (w := (.long q1)) (t := .long) hret rfl (Or.inr (Or.inl ⟨rfl, rfl, _, rfl⟩)) (hb hby own_d2_11) hr⟩
set_option maxRecDepth 65536 in
set_option maxHeartbeats 40000000 in
theorem own_max_p (l : Launch) (Z : State) (a0 : Array Value) (hw : ∀ d ∈ tables_1, d.before a0 Z = true) (h0 : Heap) {a_SELL a_BUY : Addr} (H : own_Facts Z h0 a_SELL a_BUY) (q1 q2 : Int64) (hc : XT.cmpL q1 q2 = 1) :
    own_Pur l Z (⟨"java/lang/Math", "max", "(JJ)J"⟩ : MethodName) jdk_29_method_66_code 4 (some .long) 0 0 #[(.long q1), (.long q2)] (some (.long q1)) h0 := by
  have H0 := H
  obtain ⟨S_SELL, X_SELL, S_BUY, X_BUY, F_SELL_ordinal, F_BUY_ordinal, D_SELL_BUY⟩ := H0
  refine own_body (Jvm.Free.JP.mathPlain rfl (by decide)) ?_
  intro p e s m below meth c T0 X0 e0 hx hby hml hown hret hZ
  have hown : s.vm.findClass "java/lang/Math" = some m.cls := hown
  rw [own_ef_d4 m q1 q2]
  refine own_Fin.back (S' := T0.setTop (mkF m 1 #[.val (.long q1), .second, .val (.long q2), .second] [(.long q1)])) (fun t k => XT.lloadN X0.here hx rfl (hb hby own_d4_0) rfl k) ?_
  refine own_Fin.back (S' := T0.setTop (mkF m 2 #[.val (.long q1), .second, .val (.long q2), .second] [(.long q2), (.long q1)])) (fun t k => XT.lloadN X0.here hx rfl (hb hby own_d4_1) rfl k) ?_
  refine own_Fin.back (S' := T0.setTop (mkF m 3 #[.val (.long q1), .second, .val (.long q2), .second] [(.int (XT.cmpL q1 q2))])) (fun t k => XT.lcmp X0.here hx rfl (hb hby own_d4_2) rfl k) ?_
  refine own_Fin.back (S' := T0.setTop (mkF m 6 #[.val (.long q1), .second, .val (.long q2), .second] [])) (fun t k => XS.ifNo X0.here hx rfl (hb hby own_d4_3) rfl (by rw [hc]; first | done | decide) k) ?_
  refine own_Fin.back (S' := T0.setTop (mkF m 7 #[.val (.long q1), .second, .val (.long q2), .second] [(.long q1)])) (fun t k => XT.lloadN X0.here hx rfl (hb hby own_d4_6) rfl k) ?_
  refine own_Fin.back (S' := T0.setTop (mkF m 11 #[.val (.long q1), .second, .val (.long q2), .second] [(.long q1)])) (fun t k => XS.goto X0.here hx rfl (pc0 := 7) (pc' := 11) rfl (hb hby own_d4_7) (by decide) (by decide) k) ?_
  exact ⟨T0, X0, e0, fun fs hr => retOut X0 hx (w := (.long q1)) (t := .long) hret rfl (Or.inr (Or.inl ⟨rfl, rfl, _, rfl⟩)) (hb hby own_d4_11) hr⟩
theorem own_d2_10 : decode jdk_29_method_70_code 10 = .ok (.lload_n 2, 1) := by decide +kernel
set_option maxRecDepth 65536 in
set_option maxHeartbeats 40000000 in
theorem own_min_p (l : Launch) (Z : State) (a0 : Array Value) (hw : ∀ d ∈ tables_1, d.before a0 Z = true) (h0 : Heap) {a_SELL a_BUY : Addr} (H : own_Facts Z h0 a_SELL a_BUY) (q1 q2 : Int64) (hc : XT.cmpL q1 q2 = 1) :
    own_Pur l Z (⟨"java/lang/Math", "min", "(JJ)J"⟩ : MethodName) jdk_29_method_70_code 4 (some .long) 0 0 #[(.long q1), (.long q2)] (some (.long q2)) h0 := by
  have H0 := H
  obtain ⟨S_SELL, X_SELL, S_BUY, X_BUY, F_SELL_ordinal, F_BUY_ordinal, D_SELL_BUY⟩ := H0
  refine own_body (Jvm.Free.JP.mathPlain rfl (by decide)) ?_
  intro p e s m below meth c T0 X0 e0 hx hby hml hown hret hZ
  have hown : s.vm.findClass "java/lang/Math" = some m.cls := hown
  rw [own_ef_d2 m q1 q2]
  refine own_Fin.back (S' := T0.setTop (mkF m 1 #[.val (.long q1), .second, .val (.long q2), .second] [(.long q1)])) (fun t k => XT.lloadN X0.here hx rfl (hb hby own_d2_0) rfl k) ?_
  refine own_Fin.back (S' := T0.setTop (mkF m 2 #[.val (.long q1), .second, .val (.long q2), .second] [(.long q2), (.long q1)])) (fun t k => XT.lloadN X0.here hx rfl (hb hby own_d2_1) rfl k) ?_
  refine own_Fin.back (S' := T0.setTop (mkF m 3 #[.val (.long q1), .second, .val (.long q2), .second] [(.int (XT.cmpL q1 q2))])) (fun t k => XT.lcmp X0.here hx rfl (hb hby own_d2_2) rfl k) ?_
  refine own_Fin.back (S' := T0.setTop (mkF m 10 #[.val (.long q1), .second, .val (.long q2), .second] [])) (fun t k => XS.ifYes X0.here hx rfl (pc0 := 3) (pc' := 10) rfl (hb hby own_d2_3) rfl (by rw [hc]; first | done | decide) (by decide) (by decide) k) ?_
  refine own_Fin.back (S' := T0.setTop (mkF m 11 #[.val (.long q1), .second, .val (.long q2), .second] [(.long q2)])) (fun t k => XT.lloadN X0.here hx rfl (hb hby own_d2_10) rfl k) ?_
  exact ⟨T0, X0, e0, fun fs hr => retOut X0 hx (w := (.long q2)) (t := .long) hret rfl (Or.inr (Or.inl ⟨rfl, rfl, _, rfl⟩)) (hb hby own_d2_11) hr⟩
theorem own_ef_d3 (m : MethodId) (x0 : Addr) : entryFrame m #[(.ref x0)] 1 = mkF m 0 #[.val (.ref x0)] [] := by first | (simp [entryFrame, mkF, argsToLocals, Value.category]; done) | rfl
theorem own_d3_0 : decode prog_39_method_4_code 0 = .ok (.aload_n 0, 1) := by decide +kernel
theorem own_d3_1 : decode prog_39_method_4_code 1 = .ok (.getstatic 3, 3) := by decide +kernel
theorem own_d3_4 : decode prog_39_method_4_code 4 = .ok (.if_acmp .ne 9, 3) := by decide +kernel
theorem own_d3_7 : decode prog_39_method_4_code 7 = .ok (.getstatic 7, 3) := by decide +kernel
theorem own_d3_10 : decode prog_39_method_4_code 10 = .ok (.goto 6, 3) := by decide +kernel
theorem own_d3_16 : decode prog_39_method_4_code 16 = .ok (.areturn, 1) := by decide +kernel
set_option maxRecDepth 65536 in
set_option maxHeartbeats 40000000 in
theorem own_opp_a_BUY (l : Launch) (Z : State) (a0 : Array Value) (hw : ∀ d ∈ tables_1, d.before a0 Z = true) (h0 : Heap) {a_SELL a_BUY : Addr} (H : own_Facts Z h0 a_SELL a_BUY) :
    own_Pur l Z (⟨"com/example/sevan_exchange/sevanexchange/engine/Side", "opposite", "()Lcom/example/sevan_exchange/sevanexchange/engine/Side;"⟩ : MethodName) prog_39_method_4_code 1 (some (.object "com/example/sevan_exchange/sevanexchange/engine/Side")) 0 0 #[(.ref a_BUY)] (some (.ref a_SELL)) h0 := by
  have H0 := H
  obtain ⟨S_SELL, X_SELL, S_BUY, X_BUY, F_SELL_ordinal, F_BUY_ordinal, D_SELL_BUY⟩ := H0
  refine own_body (plainFor_of_name own_pn0) ?_
  intro p e s m below meth c T0 X0 e0 hx hby hml hown hret hZ
  have hown : s.vm.findClass "com/example/sevan_exchange/sevanexchange/engine/Side" = some m.cls := hown
  rw [own_ef_d3 m a_BUY]
  refine own_Fin.back (S' := T0.setTop (mkF m 1 #[.val (.ref a_BUY)] [(.ref a_BUY)])) (fun t k => XS.aloadN X0.here hx rfl (hb hby own_d3_0) rfl rfl k) ?_
  obtain ⟨T7, X7, e7, k7⟩ := getS X0 hx hZ hown (host := "") (hw _ (List.mem_of_getElem? (i := 8) rfl)) Via.refl e0 S_BUY (g := (mkF m 1 #[.val (.ref a_BUY)] [(.ref a_BUY)])) rfl (hb hby own_d3_1)
  refine own_Fin.back (S' := T7.setTop (mkF m 4 #[.val (.ref a_BUY)] [(.ref a_BUY), (.ref a_BUY)])) k7 ?_
  refine own_Fin.back (S' := T7.setTop (mkF m 7 #[.val (.ref a_BUY)] [])) (fun t k => XT.acmpNo X7.here hx rfl (hb hby own_d3_4) rfl rfl rfl own_acmp_same.2 k) ?_
  obtain ⟨T8, X8, e8, k8⟩ := getS X7 hx hZ hown (host := "") (hw _ (List.mem_of_getElem? (i := 23) rfl)) Via.refl e7 S_SELL (g := (mkF m 7 #[.val (.ref a_BUY)] [])) rfl (hb hby own_d3_7)
  refine own_Fin.back (S' := T8.setTop (mkF m 10 #[.val (.ref a_BUY)] [(.ref a_SELL)])) k8 ?_
  refine own_Fin.back (S' := T8.setTop (mkF m 16 #[.val (.ref a_BUY)] [(.ref a_SELL)])) (fun t k => XS.goto X8.here hx rfl (pc0 := 10) (pc' := 16) rfl (hb hby own_d3_10) (by decide) (by decide) k) ?_
  exact ⟨T8, X8, e8, fun fs hr => retOut X8 hx (w := (.ref a_SELL)) (t := (.object "com/example/sevan_exchange/sevanexchange/engine/Side")) hret rfl (Or.inr (Or.inr (Or.inr (Or.inr ⟨rfl, rfl, rfl⟩)))) (hb hby own_d3_16) hr⟩
theorem own_d3_13 : decode prog_39_method_4_code 13 = .ok (.getstatic 3, 3) := by decide +kernel
set_option maxRecDepth 65536 in
set_option maxHeartbeats 40000000 in
theorem own_opp_a_SELL (l : Launch) (Z : State) (a0 : Array Value) (hw : ∀ d ∈ tables_1, d.before a0 Z = true) (h0 : Heap) {a_SELL a_BUY : Addr} (H : own_Facts Z h0 a_SELL a_BUY) :
    own_Pur l Z (⟨"com/example/sevan_exchange/sevanexchange/engine/Side", "opposite", "()Lcom/example/sevan_exchange/sevanexchange/engine/Side;"⟩ : MethodName) prog_39_method_4_code 1 (some (.object "com/example/sevan_exchange/sevanexchange/engine/Side")) 0 0 #[(.ref a_SELL)] (some (.ref a_BUY)) h0 := by
  have H0 := H
  obtain ⟨S_SELL, X_SELL, S_BUY, X_BUY, F_SELL_ordinal, F_BUY_ordinal, D_SELL_BUY⟩ := H0
  refine own_body (plainFor_of_name own_pn0) ?_
  intro p e s m below meth c T0 X0 e0 hx hby hml hown hret hZ
  have hown : s.vm.findClass "com/example/sevan_exchange/sevanexchange/engine/Side" = some m.cls := hown
  rw [own_ef_d3 m a_SELL]
  refine own_Fin.back (S' := T0.setTop (mkF m 1 #[.val (.ref a_SELL)] [(.ref a_SELL)])) (fun t k => XS.aloadN X0.here hx rfl (hb hby own_d3_0) rfl rfl k) ?_
  obtain ⟨T9, X9, e9, k9⟩ := getS X0 hx hZ hown (host := "") (hw _ (List.mem_of_getElem? (i := 8) rfl)) Via.refl e0 S_BUY (g := (mkF m 1 #[.val (.ref a_SELL)] [(.ref a_SELL)])) rfl (hb hby own_d3_1)
  refine own_Fin.back (S' := T9.setTop (mkF m 4 #[.val (.ref a_SELL)] [(.ref a_BUY), (.ref a_SELL)])) k9 ?_
  refine own_Fin.back (S' := T9.setTop (mkF m 13 #[.val (.ref a_SELL)] [])) (fun t k => XT.acmpYes X9.here hx rfl (pc0 := 4) (pc' := 13) rfl (hb hby own_d3_4) rfl rfl rfl (own_acmp_diff D_SELL_BUY).2 (by decide) (by decide) k) ?_
  obtain ⟨T10, X10, e10, k10⟩ := getS X9 hx hZ hown (host := "") (hw _ (List.mem_of_getElem? (i := 8) rfl)) Via.refl e9 S_BUY (g := (mkF m 13 #[.val (.ref a_SELL)] [])) rfl (hb hby own_d3_13)
  refine own_Fin.back (S' := T10.setTop (mkF m 16 #[.val (.ref a_SELL)] [(.ref a_BUY)])) k10 ?_
  exact ⟨T10, X10, e10, fun fs hr => retOut X10 hx (w := (.ref a_BUY)) (t := (.object "com/example/sevan_exchange/sevanexchange/engine/Side")) hret rfl (Or.inr (Or.inr (Or.inr (Or.inr ⟨rfl, rfl, rfl⟩)))) (hb hby own_d3_16) hr⟩
theorem own_pn1 : plainName "com/example/sevan_exchange/sevanexchange/engine/SideCrossesPinLaw" = true := by first | (simp [plainName, overriddenIn]; done) | decide +kernel
theorem own_ef_law (m : MethodId) (x0 : Int32) (x1 : Int64) (x2 : Int64) : entryFrame m #[(.int x0), (.long x1), (.long x2)] maxLocals = mkF m 0 #[.val (.int x0), .val (.long x1), .second, .val (.long x2), .second, .unset, .unset, .unset, .unset, .unset, .unset, .unset] [] := by first | (simp [entryFrame, mkF, argsToLocals, Value.category, maxLocals]; done) | rfl
set_option maxRecDepth 65536 in
set_option maxHeartbeats 40000000 in
theorem own_law (l : Launch) (Z : State) (a0 : Array Value) (hw : ∀ d ∈ tables_1, d.before a0 Z = true) (h0 : Heap) {a_SELL a_BUY : Addr} (H : own_Facts Z h0 a_SELL a_BUY) (p0 : Int32) (p1 p2 : Int64) :
    own_Pur l Z x code maxLocals (some .boolean) 4 112 #[(.int p0), (.long p1), (.long p2)] (some (.int (1 : Int32))) h0 := by
  have H0 := H
  obtain ⟨S_SELL, X_SELL, S_BUY, X_BUY, F_SELL_ordinal, F_BUY_ordinal, D_SELL_BUY⟩ := H0
  refine own_body (plainFor_of_name own_pn1) ?_
  intro p e s m below meth c T0 X0 e0 hx hby hml hown hret hZ
  have hown : s.vm.findClass "com/example/sevan_exchange/sevanexchange/engine/SideCrossesPinLaw" = some m.cls := hown
  rw [own_ef_law m p0 p1 p2]
  have sufB : ∀ (T : State), Stand p l e ({ frames := 4, cells := 0, slots := 0, locals := 112 } : Room) s m #[(.int p0), (.long p1), (.long p2)] below meth c T [] 0 0 → T.heap = h0 → ∀ (md : Int32) (b0 : Int64), own_Fin p l e ({ frames := 4, cells := 0, slots := 0, locals := 112 } : Room) s m #[(.int p0), (.long p1), (.long p2)] below meth c h0 (some (.int (1 : Int32))) (T.setTop (mkF m 66 #[.val (.int p0), .val (.long p1), .second, .val (.long p2), .second, .val (.ref a_BUY), .val (.int md), .val (.long b0), .second, .unset, .unset, .unset] [])) := by
    intro T1000 X1000 e1000 md b0
    rcases own_tri p1 b0 with ⟨ca, cb⟩ | ⟨ca, cb⟩ | ⟨ca, cb⟩
    · refine own_Fin.back (S' := T1000.setTop (mkF m 68 #[.val (.int p0), .val (.long p1), .second, .val (.long p2), .second, .val (.ref a_BUY), .val (.int md), .val (.long b0), .second, .unset, .unset, .unset] [(.ref a_BUY)])) (fun t k => XS.aload X1000.here hx rfl (hb hby at_66) rfl rfl k) ?_
      refine own_Fin.back (S' := T1000.setTop (mkF m 69 #[.val (.int p0), .val (.long p1), .second, .val (.long p2), .second, .val (.ref a_BUY), .val (.int md), .val (.long b0), .second, .unset, .unset, .unset] [(.long p1), (.ref a_BUY)])) (fun t k => XT.lloadN X1000.here hx rfl (hb hby at_68) rfl k) ?_
      refine own_Fin.back (S' := T1000.setTop (mkF m 71 #[.val (.int p0), .val (.long p1), .second, .val (.long p2), .second, .val (.ref a_BUY), .val (.int md), .val (.long b0), .second, .unset, .unset, .unset] [(.long b0), (.long p1), (.ref a_BUY)])) (fun t k => XT.lload X1000.here hx rfl (hb hby at_69) rfl k) ?_
      obtain ⟨T11, X11, e11, k11⟩ := own_callV X1000 hx hZ (C := "com/example/sevan_exchange/sevanexchange/engine/Side") (y := (⟨"com/example/sevan_exchange/sevanexchange/engine/Side", "crosses", "(JJ)Z"⟩ : MethodName)) (W := 0) hown (hw _ (List.mem_of_getElem? (i := 3) rfl)) (hw _ (List.mem_of_getElem? (i := 4) rfl)) (hw _ (List.mem_of_getElem? (i := 6) rfl)) (hw _ (List.mem_of_getElem? (i := 5) rfl)) (hw _ (List.mem_of_getElem? (i := 7) rfl)) (hw _ (List.mem_of_getElem? (i := 1) rfl)) (by decide) (own_cr_a_BUY_p l Z a0 hw h0 H p1 b0 cb) e1000 X_BUY (by decide) (by decide) (g := (mkF m 71 #[.val (.int p0), .val (.long p1), .second, .val (.long p2), .second, .val (.ref a_BUY), .val (.int md), .val (.long b0), .second, .unset, .unset, .unset] [(.long b0), (.long p1), (.ref a_BUY)])) rfl (by rw [hml]; rfl) (argsL := [(.long p1), (.long b0)]) (rest := []) (lenOf (show parseMethodDescriptor "(JJ)Z" = some ⟨[.long, .long], some .boolean⟩ by decide +kernel) rfl) rfl (by show 2 * 0 + _ ≤ _; exact Nat.le_of_eq rfl) (hb hby at_71)
      refine own_Fin.back (S' := T11.setTop (mkF m 74 #[.val (.int p0), .val (.long p1), .second, .val (.long p2), .second, .val (.ref a_BUY), .val (.int md), .val (.long b0), .second, .unset, .unset, .unset] [(.int (0 : Int32))])) k11 ?_
      refine own_Fin.back (S' := T11.setTop (mkF m 76 #[.val (.int p0), .val (.long p1), .second, .val (.long p2), .second, .val (.ref a_BUY), .val (.int md), .val (.long b0), .second, .val (.int (0 : Int32)), .unset, .unset] [])) (fun t k => XS.istore X11.here hx rfl (hb hby at_74) rfl (l' := #[.val (.int p0), .val (.long p1), .second, .val (.long p2), .second, .val (.ref a_BUY), .val (.int md), .val (.long b0), .second, .val (.int (0 : Int32)), .unset, .unset]) rfl k) ?_
      refine own_Fin.back (S' := T11.setTop (mkF m 78 #[.val (.int p0), .val (.long p1), .second, .val (.long p2), .second, .val (.ref a_BUY), .val (.int md), .val (.long b0), .second, .val (.int (0 : Int32)), .unset, .unset] [(.ref a_BUY)])) (fun t k => XS.aload X11.here hx rfl (hb hby at_76) rfl rfl k) ?_
      obtain ⟨T12, X12, e12, k12⟩ := getS X11 hx hZ hown (host := "") (hw _ (List.mem_of_getElem? (i := 10) rfl)) Via.refl e11 S_BUY (g := (mkF m 78 #[.val (.int p0), .val (.long p1), .second, .val (.long p2), .second, .val (.ref a_BUY), .val (.int md), .val (.long b0), .second, .val (.int (0 : Int32)), .unset, .unset] [(.ref a_BUY)])) rfl (hb hby at_78)
      refine own_Fin.back (S' := T12.setTop (mkF m 81 #[.val (.int p0), .val (.long p1), .second, .val (.long p2), .second, .val (.ref a_BUY), .val (.int md), .val (.long b0), .second, .val (.int (0 : Int32)), .unset, .unset] [(.ref a_BUY), (.ref a_BUY)])) k12 ?_
      refine own_Fin.back (S' := T12.setTop (mkF m 84 #[.val (.int p0), .val (.long p1), .second, .val (.long p2), .second, .val (.ref a_BUY), .val (.int md), .val (.long b0), .second, .val (.int (0 : Int32)), .unset, .unset] [])) (fun t k => XT.acmpNo X12.here hx rfl (hb hby at_81) rfl rfl rfl own_acmp_same.2 k) ?_
      refine own_Fin.back (S' := T12.setTop (mkF m 85 #[.val (.int p0), .val (.long p1), .second, .val (.long p2), .second, .val (.ref a_BUY), .val (.int md), .val (.long b0), .second, .val (.int (0 : Int32)), .unset, .unset] [(.long p1)])) (fun t k => XT.lloadN X12.here hx rfl (hb hby at_84) rfl k) ?_
      refine own_Fin.back (S' := T12.setTop (mkF m 87 #[.val (.int p0), .val (.long p1), .second, .val (.long p2), .second, .val (.ref a_BUY), .val (.int md), .val (.long b0), .second, .val (.int (0 : Int32)), .unset, .unset] [(.long b0), (.long p1)])) (fun t k => XT.lload X12.here hx rfl (hb hby at_85) rfl k) ?_
      obtain ⟨T13, X13, e13, k13⟩ := own_callS X12 hx hZ (y := (⟨"java/lang/Math", "max", "(JJ)J"⟩ : MethodName)) (W := 0) hown (hw _ (List.mem_of_getElem? (i := 20) rfl)) (hw _ (List.mem_of_getElem? (i := 21) rfl)) (hw _ (List.mem_of_getElem? (i := 13) rfl)) (hw _ (List.mem_of_getElem? (i := 22) rfl)) (by decide) (own_max_m l Z a0 hw h0 H p1 b0 ca) e12 (by decide) (by decide) (g := (mkF m 87 #[.val (.int p0), .val (.long p1), .second, .val (.long p2), .second, .val (.ref a_BUY), .val (.int md), .val (.long b0), .second, .val (.int (0 : Int32)), .unset, .unset] [(.long b0), (.long p1)])) rfl (by rw [hml]; rfl) (argsL := [(.long p1), (.long b0)]) (rest := []) (lenOf (show parseMethodDescriptor "(JJ)J" = some ⟨[.long, .long], some .long⟩ by decide +kernel) rfl) rfl (by show 2 * 0 + _ ≤ _; exact Nat.le_of_eq rfl) (hb hby at_87)
      refine own_Fin.back (S' := T13.setTop (mkF m 90 #[.val (.int p0), .val (.long p1), .second, .val (.long p2), .second, .val (.ref a_BUY), .val (.int md), .val (.long b0), .second, .val (.int (0 : Int32)), .unset, .unset] [(.long b0)])) k13 ?_
      refine own_Fin.back (S' := T13.setTop (mkF m 91 #[.val (.int p0), .val (.long p1), .second, .val (.long p2), .second, .val (.ref a_BUY), .val (.int md), .val (.long b0), .second, .val (.int (0 : Int32)), .unset, .unset] [(.long p1), (.long b0)])) (fun t k => XT.lloadN X13.here hx rfl (hb hby at_90) rfl k) ?_
      refine own_Fin.back (S' := T13.setTop (mkF m 92 #[.val (.int p0), .val (.long p1), .second, .val (.long p2), .second, .val (.ref a_BUY), .val (.int md), .val (.long b0), .second, .val (.int (0 : Int32)), .unset, .unset] [(.int (XT.cmpL b0 p1))])) (fun t k => XT.lcmp X13.here hx rfl (hb hby at_91) rfl k) ?_
      refine own_Fin.back (S' := T13.setTop (mkF m 99 #[.val (.int p0), .val (.long p1), .second, .val (.long p2), .second, .val (.ref a_BUY), .val (.int md), .val (.long b0), .second, .val (.int (0 : Int32)), .unset, .unset] [])) (fun t k => XS.ifYes X13.here hx rfl (pc0 := 92) (pc' := 99) rfl (hb hby at_92) rfl (by rw [cb]; first | done | decide) (by decide) (by decide) k) ?_
      refine own_Fin.back (S' := T13.setTop (mkF m 100 #[.val (.int p0), .val (.long p1), .second, .val (.long p2), .second, .val (.ref a_BUY), .val (.int md), .val (.long b0), .second, .val (.int (0 : Int32)), .unset, .unset] [(.int (0 : Int32))])) (fun t k => XS.iconst X13.here hx rfl (hb hby at_99) k) ?_
      refine own_Fin.back (S' := T13.setTop (mkF m 102 #[.val (.int p0), .val (.long p1), .second, .val (.long p2), .second, .val (.ref a_BUY), .val (.int md), .val (.long b0), .second, .val (.int (0 : Int32)), .val (.int (0 : Int32)), .unset] [])) (fun t k => XS.istore X13.here hx rfl (hb hby at_100) rfl (l' := #[.val (.int p0), .val (.long p1), .second, .val (.long p2), .second, .val (.ref a_BUY), .val (.int md), .val (.long b0), .second, .val (.int (0 : Int32)), .val (.int (0 : Int32)), .unset]) rfl k) ?_
      refine own_Fin.back (S' := T13.setTop (mkF m 123 #[.val (.int p0), .val (.long p1), .second, .val (.long p2), .second, .val (.ref a_BUY), .val (.int md), .val (.long b0), .second, .val (.int (0 : Int32)), .val (.int (0 : Int32)), .unset] [])) (fun t k => XS.goto X13.here hx rfl (pc0 := 102) (pc' := 123) rfl (hb hby at_102) (by decide) (by decide) k) ?_
      refine own_Fin.back (S' := T13.setTop (mkF m 125 #[.val (.int p0), .val (.long p1), .second, .val (.long p2), .second, .val (.ref a_BUY), .val (.int md), .val (.long b0), .second, .val (.int (0 : Int32)), .val (.int (0 : Int32)), .unset] [(.ref a_BUY)])) (fun t k => XS.aload X13.here hx rfl (hb hby at_123) rfl rfl k) ?_
      obtain ⟨T14, X14, e14, k14⟩ := own_callV X13 hx hZ (C := "com/example/sevan_exchange/sevanexchange/engine/Side") (y := (⟨"com/example/sevan_exchange/sevanexchange/engine/Side", "opposite", "()Lcom/example/sevan_exchange/sevanexchange/engine/Side;"⟩ : MethodName)) (W := 0) hown (hw _ (List.mem_of_getElem? (i := 15) rfl)) (hw _ (List.mem_of_getElem? (i := 16) rfl)) (hw _ (List.mem_of_getElem? (i := 18) rfl)) (hw _ (List.mem_of_getElem? (i := 17) rfl)) (hw _ (List.mem_of_getElem? (i := 19) rfl)) (hw _ (List.mem_of_getElem? (i := 1) rfl)) (by decide) (own_opp_a_BUY l Z a0 hw h0 H) e13 X_BUY (by decide) (by decide) (g := (mkF m 125 #[.val (.int p0), .val (.long p1), .second, .val (.long p2), .second, .val (.ref a_BUY), .val (.int md), .val (.long b0), .second, .val (.int (0 : Int32)), .val (.int (0 : Int32)), .unset] [(.ref a_BUY)])) rfl (by rw [hml]; rfl) (argsL := []) (rest := []) (lenOf (show parseMethodDescriptor "()Lcom/example/sevan_exchange/sevanexchange/engine/Side;" = some ⟨[], some (.object "com/example/sevan_exchange/sevanexchange/engine/Side")⟩ by decide +kernel) rfl) rfl (by show 2 * 0 + _ ≤ _; exact Nat.le_of_eq rfl) (hb hby at_125)
      refine own_Fin.back (S' := T14.setTop (mkF m 128 #[.val (.int p0), .val (.long p1), .second, .val (.long p2), .second, .val (.ref a_BUY), .val (.int md), .val (.long b0), .second, .val (.int (0 : Int32)), .val (.int (0 : Int32)), .unset] [(.ref a_SELL)])) k14 ?_
      refine own_Fin.back (S' := T14.setTop (mkF m 130 #[.val (.int p0), .val (.long p1), .second, .val (.long p2), .second, .val (.ref a_BUY), .val (.int md), .val (.long b0), .second, .val (.int (0 : Int32)), .val (.int (0 : Int32)), .unset] [(.long b0), (.ref a_SELL)])) (fun t k => XT.lload X14.here hx rfl (hb hby at_128) rfl k) ?_
      refine own_Fin.back (S' := T14.setTop (mkF m 131 #[.val (.int p0), .val (.long p1), .second, .val (.long p2), .second, .val (.ref a_BUY), .val (.int md), .val (.long b0), .second, .val (.int (0 : Int32)), .val (.int (0 : Int32)), .unset] [(.long p1), (.long b0), (.ref a_SELL)])) (fun t k => XT.lloadN X14.here hx rfl (hb hby at_130) rfl k) ?_
      obtain ⟨T15, X15, e15, k15⟩ := own_callV X14 hx hZ (C := "com/example/sevan_exchange/sevanexchange/engine/Side") (y := (⟨"com/example/sevan_exchange/sevanexchange/engine/Side", "crosses", "(JJ)Z"⟩ : MethodName)) (W := 0) hown (hw _ (List.mem_of_getElem? (i := 3) rfl)) (hw _ (List.mem_of_getElem? (i := 4) rfl)) (hw _ (List.mem_of_getElem? (i := 6) rfl)) (hw _ (List.mem_of_getElem? (i := 5) rfl)) (hw _ (List.mem_of_getElem? (i := 7) rfl)) (hw _ (List.mem_of_getElem? (i := 1) rfl)) (by decide) (own_cr_a_SELL_m l Z a0 hw h0 H b0 p1 ca) e14 X_SELL (by decide) (by decide) (g := (mkF m 131 #[.val (.int p0), .val (.long p1), .second, .val (.long p2), .second, .val (.ref a_BUY), .val (.int md), .val (.long b0), .second, .val (.int (0 : Int32)), .val (.int (0 : Int32)), .unset] [(.long p1), (.long b0), (.ref a_SELL)])) rfl (by rw [hml]; rfl) (argsL := [(.long b0), (.long p1)]) (rest := []) (lenOf (show parseMethodDescriptor "(JJ)Z" = some ⟨[.long, .long], some .boolean⟩ by decide +kernel) rfl) rfl (by show 2 * 0 + _ ≤ _; exact Nat.le_of_eq rfl) (hb hby at_131)
      refine own_Fin.back (S' := T15.setTop (mkF m 134 #[.val (.int p0), .val (.long p1), .second, .val (.long p2), .second, .val (.ref a_BUY), .val (.int md), .val (.long b0), .second, .val (.int (0 : Int32)), .val (.int (0 : Int32)), .unset] [(.int (0 : Int32))])) k15 ?_
      refine own_Fin.back (S' := T15.setTop (mkF m 136 #[.val (.int p0), .val (.long p1), .second, .val (.long p2), .second, .val (.ref a_BUY), .val (.int md), .val (.long b0), .second, .val (.int (0 : Int32)), .val (.int (0 : Int32)), .val (.int (0 : Int32))] [])) (fun t k => XS.istore X15.here hx rfl (hb hby at_134) rfl (l' := #[.val (.int p0), .val (.long p1), .second, .val (.long p2), .second, .val (.ref a_BUY), .val (.int md), .val (.long b0), .second, .val (.int (0 : Int32)), .val (.int (0 : Int32)), .val (.int (0 : Int32))]) rfl k) ?_
      refine own_Fin.back (S' := T15.setTop (mkF m 138 #[.val (.int p0), .val (.long p1), .second, .val (.long p2), .second, .val (.ref a_BUY), .val (.int md), .val (.long b0), .second, .val (.int (0 : Int32)), .val (.int (0 : Int32)), .val (.int (0 : Int32))] [(.int (0 : Int32))])) (fun t k => XS.iload X15.here hx rfl (hb hby at_136) rfl k) ?_
      refine own_Fin.back (S' := T15.setTop (mkF m 140 #[.val (.int p0), .val (.long p1), .second, .val (.long p2), .second, .val (.ref a_BUY), .val (.int md), .val (.long b0), .second, .val (.int (0 : Int32)), .val (.int (0 : Int32)), .val (.int (0 : Int32))] [(.int (0 : Int32)), (.int (0 : Int32))])) (fun t k => XS.iload X15.here hx rfl (hb hby at_138) rfl k) ?_
      refine own_Fin.back (S' := T15.setTop (mkF m 143 #[.val (.int p0), .val (.long p1), .second, .val (.long p2), .second, .val (.ref a_BUY), .val (.int md), .val (.long b0), .second, .val (.int (0 : Int32)), .val (.int (0 : Int32)), .val (.int (0 : Int32))] [])) (fun t k => XS.icmpNo X15.here hx rfl (hb hby at_140) rfl (by decide) k) ?_
      refine own_Fin.back (S' := T15.setTop (mkF m 145 #[.val (.int p0), .val (.long p1), .second, .val (.long p2), .second, .val (.ref a_BUY), .val (.int md), .val (.long b0), .second, .val (.int (0 : Int32)), .val (.int (0 : Int32)), .val (.int (0 : Int32))] [(.int (0 : Int32))])) (fun t k => XS.iload X15.here hx rfl (hb hby at_143) rfl k) ?_
      refine own_Fin.back (S' := T15.setTop (mkF m 147 #[.val (.int p0), .val (.long p1), .second, .val (.long p2), .second, .val (.ref a_BUY), .val (.int md), .val (.long b0), .second, .val (.int (0 : Int32)), .val (.int (0 : Int32)), .val (.int (0 : Int32))] [(.int (0 : Int32)), (.int (0 : Int32))])) (fun t k => XS.iload X15.here hx rfl (hb hby at_145) rfl k) ?_
      refine own_Fin.back (S' := T15.setTop (mkF m 150 #[.val (.int p0), .val (.long p1), .second, .val (.long p2), .second, .val (.ref a_BUY), .val (.int md), .val (.long b0), .second, .val (.int (0 : Int32)), .val (.int (0 : Int32)), .val (.int (0 : Int32))] [])) (fun t k => XS.icmpNo X15.here hx rfl (hb hby at_147) rfl (by decide) k) ?_
      refine own_Fin.back (S' := T15.setTop (mkF m 151 #[.val (.int p0), .val (.long p1), .second, .val (.long p2), .second, .val (.ref a_BUY), .val (.int md), .val (.long b0), .second, .val (.int (0 : Int32)), .val (.int (0 : Int32)), .val (.int (0 : Int32))] [(.int (1 : Int32))])) (fun t k => XS.iconst X15.here hx rfl (hb hby at_150) k) ?_
      refine own_Fin.back (S' := T15.setTop (mkF m 155 #[.val (.int p0), .val (.long p1), .second, .val (.long p2), .second, .val (.ref a_BUY), .val (.int md), .val (.long b0), .second, .val (.int (0 : Int32)), .val (.int (0 : Int32)), .val (.int (0 : Int32))] [(.int (1 : Int32))])) (fun t k => XS.goto X15.here hx rfl (pc0 := 151) (pc' := 155) rfl (hb hby at_151) (by decide) (by decide) k) ?_
      exact ⟨T15, X15, e15, fun fs hr => retOut X15 hx (w := (.int (1 : Int32))) (t := .boolean) hret (by first | rfl | decide) (Or.inl ⟨rfl, Or.inr (Or.inl rfl), _, rfl⟩) (hb hby at_155) hr⟩
    · refine own_Fin.back (S' := T1000.setTop (mkF m 68 #[.val (.int p0), .val (.long p1), .second, .val (.long p2), .second, .val (.ref a_BUY), .val (.int md), .val (.long b0), .second, .unset, .unset, .unset] [(.ref a_BUY)])) (fun t k => XS.aload X1000.here hx rfl (hb hby at_66) rfl rfl k) ?_
      refine own_Fin.back (S' := T1000.setTop (mkF m 69 #[.val (.int p0), .val (.long p1), .second, .val (.long p2), .second, .val (.ref a_BUY), .val (.int md), .val (.long b0), .second, .unset, .unset, .unset] [(.long p1), (.ref a_BUY)])) (fun t k => XT.lloadN X1000.here hx rfl (hb hby at_68) rfl k) ?_
      refine own_Fin.back (S' := T1000.setTop (mkF m 71 #[.val (.int p0), .val (.long p1), .second, .val (.long p2), .second, .val (.ref a_BUY), .val (.int md), .val (.long b0), .second, .unset, .unset, .unset] [(.long b0), (.long p1), (.ref a_BUY)])) (fun t k => XT.lload X1000.here hx rfl (hb hby at_69) rfl k) ?_
      obtain ⟨T16, X16, e16, k16⟩ := own_callV X1000 hx hZ (C := "com/example/sevan_exchange/sevanexchange/engine/Side") (y := (⟨"com/example/sevan_exchange/sevanexchange/engine/Side", "crosses", "(JJ)Z"⟩ : MethodName)) (W := 0) hown (hw _ (List.mem_of_getElem? (i := 3) rfl)) (hw _ (List.mem_of_getElem? (i := 4) rfl)) (hw _ (List.mem_of_getElem? (i := 6) rfl)) (hw _ (List.mem_of_getElem? (i := 5) rfl)) (hw _ (List.mem_of_getElem? (i := 7) rfl)) (hw _ (List.mem_of_getElem? (i := 1) rfl)) (by decide) (own_cr_a_BUY_z l Z a0 hw h0 H p1 b0 cb) e1000 X_BUY (by decide) (by decide) (g := (mkF m 71 #[.val (.int p0), .val (.long p1), .second, .val (.long p2), .second, .val (.ref a_BUY), .val (.int md), .val (.long b0), .second, .unset, .unset, .unset] [(.long b0), (.long p1), (.ref a_BUY)])) rfl (by rw [hml]; rfl) (argsL := [(.long p1), (.long b0)]) (rest := []) (lenOf (show parseMethodDescriptor "(JJ)Z" = some ⟨[.long, .long], some .boolean⟩ by decide +kernel) rfl) rfl (by show 2 * 0 + _ ≤ _; exact Nat.le_of_eq rfl) (hb hby at_71)
      refine own_Fin.back (S' := T16.setTop (mkF m 74 #[.val (.int p0), .val (.long p1), .second, .val (.long p2), .second, .val (.ref a_BUY), .val (.int md), .val (.long b0), .second, .unset, .unset, .unset] [(.int (1 : Int32))])) k16 ?_
      refine own_Fin.back (S' := T16.setTop (mkF m 76 #[.val (.int p0), .val (.long p1), .second, .val (.long p2), .second, .val (.ref a_BUY), .val (.int md), .val (.long b0), .second, .val (.int (1 : Int32)), .unset, .unset] [])) (fun t k => XS.istore X16.here hx rfl (hb hby at_74) rfl (l' := #[.val (.int p0), .val (.long p1), .second, .val (.long p2), .second, .val (.ref a_BUY), .val (.int md), .val (.long b0), .second, .val (.int (1 : Int32)), .unset, .unset]) rfl k) ?_
      refine own_Fin.back (S' := T16.setTop (mkF m 78 #[.val (.int p0), .val (.long p1), .second, .val (.long p2), .second, .val (.ref a_BUY), .val (.int md), .val (.long b0), .second, .val (.int (1 : Int32)), .unset, .unset] [(.ref a_BUY)])) (fun t k => XS.aload X16.here hx rfl (hb hby at_76) rfl rfl k) ?_
      obtain ⟨T17, X17, e17, k17⟩ := getS X16 hx hZ hown (host := "") (hw _ (List.mem_of_getElem? (i := 10) rfl)) Via.refl e16 S_BUY (g := (mkF m 78 #[.val (.int p0), .val (.long p1), .second, .val (.long p2), .second, .val (.ref a_BUY), .val (.int md), .val (.long b0), .second, .val (.int (1 : Int32)), .unset, .unset] [(.ref a_BUY)])) rfl (hb hby at_78)
      refine own_Fin.back (S' := T17.setTop (mkF m 81 #[.val (.int p0), .val (.long p1), .second, .val (.long p2), .second, .val (.ref a_BUY), .val (.int md), .val (.long b0), .second, .val (.int (1 : Int32)), .unset, .unset] [(.ref a_BUY), (.ref a_BUY)])) k17 ?_
      refine own_Fin.back (S' := T17.setTop (mkF m 84 #[.val (.int p0), .val (.long p1), .second, .val (.long p2), .second, .val (.ref a_BUY), .val (.int md), .val (.long b0), .second, .val (.int (1 : Int32)), .unset, .unset] [])) (fun t k => XT.acmpNo X17.here hx rfl (hb hby at_81) rfl rfl rfl own_acmp_same.2 k) ?_
      refine own_Fin.back (S' := T17.setTop (mkF m 85 #[.val (.int p0), .val (.long p1), .second, .val (.long p2), .second, .val (.ref a_BUY), .val (.int md), .val (.long b0), .second, .val (.int (1 : Int32)), .unset, .unset] [(.long p1)])) (fun t k => XT.lloadN X17.here hx rfl (hb hby at_84) rfl k) ?_
      refine own_Fin.back (S' := T17.setTop (mkF m 87 #[.val (.int p0), .val (.long p1), .second, .val (.long p2), .second, .val (.ref a_BUY), .val (.int md), .val (.long b0), .second, .val (.int (1 : Int32)), .unset, .unset] [(.long b0), (.long p1)])) (fun t k => XT.lload X17.here hx rfl (hb hby at_85) rfl k) ?_
      obtain ⟨T18, X18, e18, k18⟩ := own_callS X17 hx hZ (y := (⟨"java/lang/Math", "max", "(JJ)J"⟩ : MethodName)) (W := 0) hown (hw _ (List.mem_of_getElem? (i := 20) rfl)) (hw _ (List.mem_of_getElem? (i := 21) rfl)) (hw _ (List.mem_of_getElem? (i := 13) rfl)) (hw _ (List.mem_of_getElem? (i := 22) rfl)) (by decide) (own_max_z l Z a0 hw h0 H p1 b0 ca) e17 (by decide) (by decide) (g := (mkF m 87 #[.val (.int p0), .val (.long p1), .second, .val (.long p2), .second, .val (.ref a_BUY), .val (.int md), .val (.long b0), .second, .val (.int (1 : Int32)), .unset, .unset] [(.long b0), (.long p1)])) rfl (by rw [hml]; rfl) (argsL := [(.long p1), (.long b0)]) (rest := []) (lenOf (show parseMethodDescriptor "(JJ)J" = some ⟨[.long, .long], some .long⟩ by decide +kernel) rfl) rfl (by show 2 * 0 + _ ≤ _; exact Nat.le_of_eq rfl) (hb hby at_87)
      refine own_Fin.back (S' := T18.setTop (mkF m 90 #[.val (.int p0), .val (.long p1), .second, .val (.long p2), .second, .val (.ref a_BUY), .val (.int md), .val (.long b0), .second, .val (.int (1 : Int32)), .unset, .unset] [(.long p1)])) k18 ?_
      refine own_Fin.back (S' := T18.setTop (mkF m 91 #[.val (.int p0), .val (.long p1), .second, .val (.long p2), .second, .val (.ref a_BUY), .val (.int md), .val (.long b0), .second, .val (.int (1 : Int32)), .unset, .unset] [(.long p1), (.long p1)])) (fun t k => XT.lloadN X18.here hx rfl (hb hby at_90) rfl k) ?_
      refine own_Fin.back (S' := T18.setTop (mkF m 92 #[.val (.int p0), .val (.long p1), .second, .val (.long p2), .second, .val (.ref a_BUY), .val (.int md), .val (.long b0), .second, .val (.int (1 : Int32)), .unset, .unset] [(.int (XT.cmpL p1 p1))])) (fun t k => XT.lcmp X18.here hx rfl (hb hby at_91) rfl k) ?_
      refine own_Fin.back (S' := T18.setTop (mkF m 95 #[.val (.int p0), .val (.long p1), .second, .val (.long p2), .second, .val (.ref a_BUY), .val (.int md), .val (.long b0), .second, .val (.int (1 : Int32)), .unset, .unset] [])) (fun t k => XS.ifNo X18.here hx rfl (hb hby at_92) rfl (by rw [own_cmp_self p1]; first | done | decide) k) ?_
      refine own_Fin.back (S' := T18.setTop (mkF m 96 #[.val (.int p0), .val (.long p1), .second, .val (.long p2), .second, .val (.ref a_BUY), .val (.int md), .val (.long b0), .second, .val (.int (1 : Int32)), .unset, .unset] [(.int (1 : Int32))])) (fun t k => XS.iconst X18.here hx rfl (hb hby at_95) k) ?_
      refine own_Fin.back (S' := T18.setTop (mkF m 100 #[.val (.int p0), .val (.long p1), .second, .val (.long p2), .second, .val (.ref a_BUY), .val (.int md), .val (.long b0), .second, .val (.int (1 : Int32)), .unset, .unset] [(.int (1 : Int32))])) (fun t k => XS.goto X18.here hx rfl (pc0 := 96) (pc' := 100) rfl (hb hby at_96) (by decide) (by decide) k) ?_
      refine own_Fin.back (S' := T18.setTop (mkF m 102 #[.val (.int p0), .val (.long p1), .second, .val (.long p2), .second, .val (.ref a_BUY), .val (.int md), .val (.long b0), .second, .val (.int (1 : Int32)), .val (.int (1 : Int32)), .unset] [])) (fun t k => XS.istore X18.here hx rfl (hb hby at_100) rfl (l' := #[.val (.int p0), .val (.long p1), .second, .val (.long p2), .second, .val (.ref a_BUY), .val (.int md), .val (.long b0), .second, .val (.int (1 : Int32)), .val (.int (1 : Int32)), .unset]) rfl k) ?_
      refine own_Fin.back (S' := T18.setTop (mkF m 123 #[.val (.int p0), .val (.long p1), .second, .val (.long p2), .second, .val (.ref a_BUY), .val (.int md), .val (.long b0), .second, .val (.int (1 : Int32)), .val (.int (1 : Int32)), .unset] [])) (fun t k => XS.goto X18.here hx rfl (pc0 := 102) (pc' := 123) rfl (hb hby at_102) (by decide) (by decide) k) ?_
      refine own_Fin.back (S' := T18.setTop (mkF m 125 #[.val (.int p0), .val (.long p1), .second, .val (.long p2), .second, .val (.ref a_BUY), .val (.int md), .val (.long b0), .second, .val (.int (1 : Int32)), .val (.int (1 : Int32)), .unset] [(.ref a_BUY)])) (fun t k => XS.aload X18.here hx rfl (hb hby at_123) rfl rfl k) ?_
      obtain ⟨T19, X19, e19, k19⟩ := own_callV X18 hx hZ (C := "com/example/sevan_exchange/sevanexchange/engine/Side") (y := (⟨"com/example/sevan_exchange/sevanexchange/engine/Side", "opposite", "()Lcom/example/sevan_exchange/sevanexchange/engine/Side;"⟩ : MethodName)) (W := 0) hown (hw _ (List.mem_of_getElem? (i := 15) rfl)) (hw _ (List.mem_of_getElem? (i := 16) rfl)) (hw _ (List.mem_of_getElem? (i := 18) rfl)) (hw _ (List.mem_of_getElem? (i := 17) rfl)) (hw _ (List.mem_of_getElem? (i := 19) rfl)) (hw _ (List.mem_of_getElem? (i := 1) rfl)) (by decide) (own_opp_a_BUY l Z a0 hw h0 H) e18 X_BUY (by decide) (by decide) (g := (mkF m 125 #[.val (.int p0), .val (.long p1), .second, .val (.long p2), .second, .val (.ref a_BUY), .val (.int md), .val (.long b0), .second, .val (.int (1 : Int32)), .val (.int (1 : Int32)), .unset] [(.ref a_BUY)])) rfl (by rw [hml]; rfl) (argsL := []) (rest := []) (lenOf (show parseMethodDescriptor "()Lcom/example/sevan_exchange/sevanexchange/engine/Side;" = some ⟨[], some (.object "com/example/sevan_exchange/sevanexchange/engine/Side")⟩ by decide +kernel) rfl) rfl (by show 2 * 0 + _ ≤ _; exact Nat.le_of_eq rfl) (hb hby at_125)
      refine own_Fin.back (S' := T19.setTop (mkF m 128 #[.val (.int p0), .val (.long p1), .second, .val (.long p2), .second, .val (.ref a_BUY), .val (.int md), .val (.long b0), .second, .val (.int (1 : Int32)), .val (.int (1 : Int32)), .unset] [(.ref a_SELL)])) k19 ?_
      refine own_Fin.back (S' := T19.setTop (mkF m 130 #[.val (.int p0), .val (.long p1), .second, .val (.long p2), .second, .val (.ref a_BUY), .val (.int md), .val (.long b0), .second, .val (.int (1 : Int32)), .val (.int (1 : Int32)), .unset] [(.long b0), (.ref a_SELL)])) (fun t k => XT.lload X19.here hx rfl (hb hby at_128) rfl k) ?_
      refine own_Fin.back (S' := T19.setTop (mkF m 131 #[.val (.int p0), .val (.long p1), .second, .val (.long p2), .second, .val (.ref a_BUY), .val (.int md), .val (.long b0), .second, .val (.int (1 : Int32)), .val (.int (1 : Int32)), .unset] [(.long p1), (.long b0), (.ref a_SELL)])) (fun t k => XT.lloadN X19.here hx rfl (hb hby at_130) rfl k) ?_
      obtain ⟨T20, X20, e20, k20⟩ := own_callV X19 hx hZ (C := "com/example/sevan_exchange/sevanexchange/engine/Side") (y := (⟨"com/example/sevan_exchange/sevanexchange/engine/Side", "crosses", "(JJ)Z"⟩ : MethodName)) (W := 0) hown (hw _ (List.mem_of_getElem? (i := 3) rfl)) (hw _ (List.mem_of_getElem? (i := 4) rfl)) (hw _ (List.mem_of_getElem? (i := 6) rfl)) (hw _ (List.mem_of_getElem? (i := 5) rfl)) (hw _ (List.mem_of_getElem? (i := 7) rfl)) (hw _ (List.mem_of_getElem? (i := 1) rfl)) (by decide) (own_cr_a_SELL_z l Z a0 hw h0 H b0 p1 ca) e19 X_SELL (by decide) (by decide) (g := (mkF m 131 #[.val (.int p0), .val (.long p1), .second, .val (.long p2), .second, .val (.ref a_BUY), .val (.int md), .val (.long b0), .second, .val (.int (1 : Int32)), .val (.int (1 : Int32)), .unset] [(.long p1), (.long b0), (.ref a_SELL)])) rfl (by rw [hml]; rfl) (argsL := [(.long b0), (.long p1)]) (rest := []) (lenOf (show parseMethodDescriptor "(JJ)Z" = some ⟨[.long, .long], some .boolean⟩ by decide +kernel) rfl) rfl (by show 2 * 0 + _ ≤ _; exact Nat.le_of_eq rfl) (hb hby at_131)
      refine own_Fin.back (S' := T20.setTop (mkF m 134 #[.val (.int p0), .val (.long p1), .second, .val (.long p2), .second, .val (.ref a_BUY), .val (.int md), .val (.long b0), .second, .val (.int (1 : Int32)), .val (.int (1 : Int32)), .unset] [(.int (1 : Int32))])) k20 ?_
      refine own_Fin.back (S' := T20.setTop (mkF m 136 #[.val (.int p0), .val (.long p1), .second, .val (.long p2), .second, .val (.ref a_BUY), .val (.int md), .val (.long b0), .second, .val (.int (1 : Int32)), .val (.int (1 : Int32)), .val (.int (1 : Int32))] [])) (fun t k => XS.istore X20.here hx rfl (hb hby at_134) rfl (l' := #[.val (.int p0), .val (.long p1), .second, .val (.long p2), .second, .val (.ref a_BUY), .val (.int md), .val (.long b0), .second, .val (.int (1 : Int32)), .val (.int (1 : Int32)), .val (.int (1 : Int32))]) rfl k) ?_
      refine own_Fin.back (S' := T20.setTop (mkF m 138 #[.val (.int p0), .val (.long p1), .second, .val (.long p2), .second, .val (.ref a_BUY), .val (.int md), .val (.long b0), .second, .val (.int (1 : Int32)), .val (.int (1 : Int32)), .val (.int (1 : Int32))] [(.int (1 : Int32))])) (fun t k => XS.iload X20.here hx rfl (hb hby at_136) rfl k) ?_
      refine own_Fin.back (S' := T20.setTop (mkF m 140 #[.val (.int p0), .val (.long p1), .second, .val (.long p2), .second, .val (.ref a_BUY), .val (.int md), .val (.long b0), .second, .val (.int (1 : Int32)), .val (.int (1 : Int32)), .val (.int (1 : Int32))] [(.int (1 : Int32)), (.int (1 : Int32))])) (fun t k => XS.iload X20.here hx rfl (hb hby at_138) rfl k) ?_
      refine own_Fin.back (S' := T20.setTop (mkF m 143 #[.val (.int p0), .val (.long p1), .second, .val (.long p2), .second, .val (.ref a_BUY), .val (.int md), .val (.long b0), .second, .val (.int (1 : Int32)), .val (.int (1 : Int32)), .val (.int (1 : Int32))] [])) (fun t k => XS.icmpNo X20.here hx rfl (hb hby at_140) rfl (by decide) k) ?_
      refine own_Fin.back (S' := T20.setTop (mkF m 145 #[.val (.int p0), .val (.long p1), .second, .val (.long p2), .second, .val (.ref a_BUY), .val (.int md), .val (.long b0), .second, .val (.int (1 : Int32)), .val (.int (1 : Int32)), .val (.int (1 : Int32))] [(.int (1 : Int32))])) (fun t k => XS.iload X20.here hx rfl (hb hby at_143) rfl k) ?_
      refine own_Fin.back (S' := T20.setTop (mkF m 147 #[.val (.int p0), .val (.long p1), .second, .val (.long p2), .second, .val (.ref a_BUY), .val (.int md), .val (.long b0), .second, .val (.int (1 : Int32)), .val (.int (1 : Int32)), .val (.int (1 : Int32))] [(.int (1 : Int32)), (.int (1 : Int32))])) (fun t k => XS.iload X20.here hx rfl (hb hby at_145) rfl k) ?_
      refine own_Fin.back (S' := T20.setTop (mkF m 150 #[.val (.int p0), .val (.long p1), .second, .val (.long p2), .second, .val (.ref a_BUY), .val (.int md), .val (.long b0), .second, .val (.int (1 : Int32)), .val (.int (1 : Int32)), .val (.int (1 : Int32))] [])) (fun t k => XS.icmpNo X20.here hx rfl (hb hby at_147) rfl (by decide) k) ?_
      refine own_Fin.back (S' := T20.setTop (mkF m 151 #[.val (.int p0), .val (.long p1), .second, .val (.long p2), .second, .val (.ref a_BUY), .val (.int md), .val (.long b0), .second, .val (.int (1 : Int32)), .val (.int (1 : Int32)), .val (.int (1 : Int32))] [(.int (1 : Int32))])) (fun t k => XS.iconst X20.here hx rfl (hb hby at_150) k) ?_
      refine own_Fin.back (S' := T20.setTop (mkF m 155 #[.val (.int p0), .val (.long p1), .second, .val (.long p2), .second, .val (.ref a_BUY), .val (.int md), .val (.long b0), .second, .val (.int (1 : Int32)), .val (.int (1 : Int32)), .val (.int (1 : Int32))] [(.int (1 : Int32))])) (fun t k => XS.goto X20.here hx rfl (pc0 := 151) (pc' := 155) rfl (hb hby at_151) (by decide) (by decide) k) ?_
      exact ⟨T20, X20, e20, fun fs hr => retOut X20 hx (w := (.int (1 : Int32))) (t := .boolean) hret (by first | rfl | decide) (Or.inl ⟨rfl, Or.inr (Or.inl rfl), _, rfl⟩) (hb hby at_155) hr⟩
    · refine own_Fin.back (S' := T1000.setTop (mkF m 68 #[.val (.int p0), .val (.long p1), .second, .val (.long p2), .second, .val (.ref a_BUY), .val (.int md), .val (.long b0), .second, .unset, .unset, .unset] [(.ref a_BUY)])) (fun t k => XS.aload X1000.here hx rfl (hb hby at_66) rfl rfl k) ?_
      refine own_Fin.back (S' := T1000.setTop (mkF m 69 #[.val (.int p0), .val (.long p1), .second, .val (.long p2), .second, .val (.ref a_BUY), .val (.int md), .val (.long b0), .second, .unset, .unset, .unset] [(.long p1), (.ref a_BUY)])) (fun t k => XT.lloadN X1000.here hx rfl (hb hby at_68) rfl k) ?_
      refine own_Fin.back (S' := T1000.setTop (mkF m 71 #[.val (.int p0), .val (.long p1), .second, .val (.long p2), .second, .val (.ref a_BUY), .val (.int md), .val (.long b0), .second, .unset, .unset, .unset] [(.long b0), (.long p1), (.ref a_BUY)])) (fun t k => XT.lload X1000.here hx rfl (hb hby at_69) rfl k) ?_
      obtain ⟨T21, X21, e21, k21⟩ := own_callV X1000 hx hZ (C := "com/example/sevan_exchange/sevanexchange/engine/Side") (y := (⟨"com/example/sevan_exchange/sevanexchange/engine/Side", "crosses", "(JJ)Z"⟩ : MethodName)) (W := 0) hown (hw _ (List.mem_of_getElem? (i := 3) rfl)) (hw _ (List.mem_of_getElem? (i := 4) rfl)) (hw _ (List.mem_of_getElem? (i := 6) rfl)) (hw _ (List.mem_of_getElem? (i := 5) rfl)) (hw _ (List.mem_of_getElem? (i := 7) rfl)) (hw _ (List.mem_of_getElem? (i := 1) rfl)) (by decide) (own_cr_a_BUY_m l Z a0 hw h0 H p1 b0 cb) e1000 X_BUY (by decide) (by decide) (g := (mkF m 71 #[.val (.int p0), .val (.long p1), .second, .val (.long p2), .second, .val (.ref a_BUY), .val (.int md), .val (.long b0), .second, .unset, .unset, .unset] [(.long b0), (.long p1), (.ref a_BUY)])) rfl (by rw [hml]; rfl) (argsL := [(.long p1), (.long b0)]) (rest := []) (lenOf (show parseMethodDescriptor "(JJ)Z" = some ⟨[.long, .long], some .boolean⟩ by decide +kernel) rfl) rfl (by show 2 * 0 + _ ≤ _; exact Nat.le_of_eq rfl) (hb hby at_71)
      refine own_Fin.back (S' := T21.setTop (mkF m 74 #[.val (.int p0), .val (.long p1), .second, .val (.long p2), .second, .val (.ref a_BUY), .val (.int md), .val (.long b0), .second, .unset, .unset, .unset] [(.int (1 : Int32))])) k21 ?_
      refine own_Fin.back (S' := T21.setTop (mkF m 76 #[.val (.int p0), .val (.long p1), .second, .val (.long p2), .second, .val (.ref a_BUY), .val (.int md), .val (.long b0), .second, .val (.int (1 : Int32)), .unset, .unset] [])) (fun t k => XS.istore X21.here hx rfl (hb hby at_74) rfl (l' := #[.val (.int p0), .val (.long p1), .second, .val (.long p2), .second, .val (.ref a_BUY), .val (.int md), .val (.long b0), .second, .val (.int (1 : Int32)), .unset, .unset]) rfl k) ?_
      refine own_Fin.back (S' := T21.setTop (mkF m 78 #[.val (.int p0), .val (.long p1), .second, .val (.long p2), .second, .val (.ref a_BUY), .val (.int md), .val (.long b0), .second, .val (.int (1 : Int32)), .unset, .unset] [(.ref a_BUY)])) (fun t k => XS.aload X21.here hx rfl (hb hby at_76) rfl rfl k) ?_
      obtain ⟨T22, X22, e22, k22⟩ := getS X21 hx hZ hown (host := "") (hw _ (List.mem_of_getElem? (i := 10) rfl)) Via.refl e21 S_BUY (g := (mkF m 78 #[.val (.int p0), .val (.long p1), .second, .val (.long p2), .second, .val (.ref a_BUY), .val (.int md), .val (.long b0), .second, .val (.int (1 : Int32)), .unset, .unset] [(.ref a_BUY)])) rfl (hb hby at_78)
      refine own_Fin.back (S' := T22.setTop (mkF m 81 #[.val (.int p0), .val (.long p1), .second, .val (.long p2), .second, .val (.ref a_BUY), .val (.int md), .val (.long b0), .second, .val (.int (1 : Int32)), .unset, .unset] [(.ref a_BUY), (.ref a_BUY)])) k22 ?_
      refine own_Fin.back (S' := T22.setTop (mkF m 84 #[.val (.int p0), .val (.long p1), .second, .val (.long p2), .second, .val (.ref a_BUY), .val (.int md), .val (.long b0), .second, .val (.int (1 : Int32)), .unset, .unset] [])) (fun t k => XT.acmpNo X22.here hx rfl (hb hby at_81) rfl rfl rfl own_acmp_same.2 k) ?_
      refine own_Fin.back (S' := T22.setTop (mkF m 85 #[.val (.int p0), .val (.long p1), .second, .val (.long p2), .second, .val (.ref a_BUY), .val (.int md), .val (.long b0), .second, .val (.int (1 : Int32)), .unset, .unset] [(.long p1)])) (fun t k => XT.lloadN X22.here hx rfl (hb hby at_84) rfl k) ?_
      refine own_Fin.back (S' := T22.setTop (mkF m 87 #[.val (.int p0), .val (.long p1), .second, .val (.long p2), .second, .val (.ref a_BUY), .val (.int md), .val (.long b0), .second, .val (.int (1 : Int32)), .unset, .unset] [(.long b0), (.long p1)])) (fun t k => XT.lload X22.here hx rfl (hb hby at_85) rfl k) ?_
      obtain ⟨T23, X23, e23, k23⟩ := own_callS X22 hx hZ (y := (⟨"java/lang/Math", "max", "(JJ)J"⟩ : MethodName)) (W := 0) hown (hw _ (List.mem_of_getElem? (i := 20) rfl)) (hw _ (List.mem_of_getElem? (i := 21) rfl)) (hw _ (List.mem_of_getElem? (i := 13) rfl)) (hw _ (List.mem_of_getElem? (i := 22) rfl)) (by decide) (own_max_p l Z a0 hw h0 H p1 b0 ca) e22 (by decide) (by decide) (g := (mkF m 87 #[.val (.int p0), .val (.long p1), .second, .val (.long p2), .second, .val (.ref a_BUY), .val (.int md), .val (.long b0), .second, .val (.int (1 : Int32)), .unset, .unset] [(.long b0), (.long p1)])) rfl (by rw [hml]; rfl) (argsL := [(.long p1), (.long b0)]) (rest := []) (lenOf (show parseMethodDescriptor "(JJ)J" = some ⟨[.long, .long], some .long⟩ by decide +kernel) rfl) rfl (by show 2 * 0 + _ ≤ _; exact Nat.le_of_eq rfl) (hb hby at_87)
      refine own_Fin.back (S' := T23.setTop (mkF m 90 #[.val (.int p0), .val (.long p1), .second, .val (.long p2), .second, .val (.ref a_BUY), .val (.int md), .val (.long b0), .second, .val (.int (1 : Int32)), .unset, .unset] [(.long p1)])) k23 ?_
      refine own_Fin.back (S' := T23.setTop (mkF m 91 #[.val (.int p0), .val (.long p1), .second, .val (.long p2), .second, .val (.ref a_BUY), .val (.int md), .val (.long b0), .second, .val (.int (1 : Int32)), .unset, .unset] [(.long p1), (.long p1)])) (fun t k => XT.lloadN X23.here hx rfl (hb hby at_90) rfl k) ?_
      refine own_Fin.back (S' := T23.setTop (mkF m 92 #[.val (.int p0), .val (.long p1), .second, .val (.long p2), .second, .val (.ref a_BUY), .val (.int md), .val (.long b0), .second, .val (.int (1 : Int32)), .unset, .unset] [(.int (XT.cmpL p1 p1))])) (fun t k => XT.lcmp X23.here hx rfl (hb hby at_91) rfl k) ?_
      refine own_Fin.back (S' := T23.setTop (mkF m 95 #[.val (.int p0), .val (.long p1), .second, .val (.long p2), .second, .val (.ref a_BUY), .val (.int md), .val (.long b0), .second, .val (.int (1 : Int32)), .unset, .unset] [])) (fun t k => XS.ifNo X23.here hx rfl (hb hby at_92) rfl (by rw [own_cmp_self p1]; first | done | decide) k) ?_
      refine own_Fin.back (S' := T23.setTop (mkF m 96 #[.val (.int p0), .val (.long p1), .second, .val (.long p2), .second, .val (.ref a_BUY), .val (.int md), .val (.long b0), .second, .val (.int (1 : Int32)), .unset, .unset] [(.int (1 : Int32))])) (fun t k => XS.iconst X23.here hx rfl (hb hby at_95) k) ?_
      refine own_Fin.back (S' := T23.setTop (mkF m 100 #[.val (.int p0), .val (.long p1), .second, .val (.long p2), .second, .val (.ref a_BUY), .val (.int md), .val (.long b0), .second, .val (.int (1 : Int32)), .unset, .unset] [(.int (1 : Int32))])) (fun t k => XS.goto X23.here hx rfl (pc0 := 96) (pc' := 100) rfl (hb hby at_96) (by decide) (by decide) k) ?_
      refine own_Fin.back (S' := T23.setTop (mkF m 102 #[.val (.int p0), .val (.long p1), .second, .val (.long p2), .second, .val (.ref a_BUY), .val (.int md), .val (.long b0), .second, .val (.int (1 : Int32)), .val (.int (1 : Int32)), .unset] [])) (fun t k => XS.istore X23.here hx rfl (hb hby at_100) rfl (l' := #[.val (.int p0), .val (.long p1), .second, .val (.long p2), .second, .val (.ref a_BUY), .val (.int md), .val (.long b0), .second, .val (.int (1 : Int32)), .val (.int (1 : Int32)), .unset]) rfl k) ?_
      refine own_Fin.back (S' := T23.setTop (mkF m 123 #[.val (.int p0), .val (.long p1), .second, .val (.long p2), .second, .val (.ref a_BUY), .val (.int md), .val (.long b0), .second, .val (.int (1 : Int32)), .val (.int (1 : Int32)), .unset] [])) (fun t k => XS.goto X23.here hx rfl (pc0 := 102) (pc' := 123) rfl (hb hby at_102) (by decide) (by decide) k) ?_
      refine own_Fin.back (S' := T23.setTop (mkF m 125 #[.val (.int p0), .val (.long p1), .second, .val (.long p2), .second, .val (.ref a_BUY), .val (.int md), .val (.long b0), .second, .val (.int (1 : Int32)), .val (.int (1 : Int32)), .unset] [(.ref a_BUY)])) (fun t k => XS.aload X23.here hx rfl (hb hby at_123) rfl rfl k) ?_
      obtain ⟨T24, X24, e24, k24⟩ := own_callV X23 hx hZ (C := "com/example/sevan_exchange/sevanexchange/engine/Side") (y := (⟨"com/example/sevan_exchange/sevanexchange/engine/Side", "opposite", "()Lcom/example/sevan_exchange/sevanexchange/engine/Side;"⟩ : MethodName)) (W := 0) hown (hw _ (List.mem_of_getElem? (i := 15) rfl)) (hw _ (List.mem_of_getElem? (i := 16) rfl)) (hw _ (List.mem_of_getElem? (i := 18) rfl)) (hw _ (List.mem_of_getElem? (i := 17) rfl)) (hw _ (List.mem_of_getElem? (i := 19) rfl)) (hw _ (List.mem_of_getElem? (i := 1) rfl)) (by decide) (own_opp_a_BUY l Z a0 hw h0 H) e23 X_BUY (by decide) (by decide) (g := (mkF m 125 #[.val (.int p0), .val (.long p1), .second, .val (.long p2), .second, .val (.ref a_BUY), .val (.int md), .val (.long b0), .second, .val (.int (1 : Int32)), .val (.int (1 : Int32)), .unset] [(.ref a_BUY)])) rfl (by rw [hml]; rfl) (argsL := []) (rest := []) (lenOf (show parseMethodDescriptor "()Lcom/example/sevan_exchange/sevanexchange/engine/Side;" = some ⟨[], some (.object "com/example/sevan_exchange/sevanexchange/engine/Side")⟩ by decide +kernel) rfl) rfl (by show 2 * 0 + _ ≤ _; exact Nat.le_of_eq rfl) (hb hby at_125)
      refine own_Fin.back (S' := T24.setTop (mkF m 128 #[.val (.int p0), .val (.long p1), .second, .val (.long p2), .second, .val (.ref a_BUY), .val (.int md), .val (.long b0), .second, .val (.int (1 : Int32)), .val (.int (1 : Int32)), .unset] [(.ref a_SELL)])) k24 ?_
      refine own_Fin.back (S' := T24.setTop (mkF m 130 #[.val (.int p0), .val (.long p1), .second, .val (.long p2), .second, .val (.ref a_BUY), .val (.int md), .val (.long b0), .second, .val (.int (1 : Int32)), .val (.int (1 : Int32)), .unset] [(.long b0), (.ref a_SELL)])) (fun t k => XT.lload X24.here hx rfl (hb hby at_128) rfl k) ?_
      refine own_Fin.back (S' := T24.setTop (mkF m 131 #[.val (.int p0), .val (.long p1), .second, .val (.long p2), .second, .val (.ref a_BUY), .val (.int md), .val (.long b0), .second, .val (.int (1 : Int32)), .val (.int (1 : Int32)), .unset] [(.long p1), (.long b0), (.ref a_SELL)])) (fun t k => XT.lloadN X24.here hx rfl (hb hby at_130) rfl k) ?_
      obtain ⟨T25, X25, e25, k25⟩ := own_callV X24 hx hZ (C := "com/example/sevan_exchange/sevanexchange/engine/Side") (y := (⟨"com/example/sevan_exchange/sevanexchange/engine/Side", "crosses", "(JJ)Z"⟩ : MethodName)) (W := 0) hown (hw _ (List.mem_of_getElem? (i := 3) rfl)) (hw _ (List.mem_of_getElem? (i := 4) rfl)) (hw _ (List.mem_of_getElem? (i := 6) rfl)) (hw _ (List.mem_of_getElem? (i := 5) rfl)) (hw _ (List.mem_of_getElem? (i := 7) rfl)) (hw _ (List.mem_of_getElem? (i := 1) rfl)) (by decide) (own_cr_a_SELL_p l Z a0 hw h0 H b0 p1 ca) e24 X_SELL (by decide) (by decide) (g := (mkF m 131 #[.val (.int p0), .val (.long p1), .second, .val (.long p2), .second, .val (.ref a_BUY), .val (.int md), .val (.long b0), .second, .val (.int (1 : Int32)), .val (.int (1 : Int32)), .unset] [(.long p1), (.long b0), (.ref a_SELL)])) rfl (by rw [hml]; rfl) (argsL := [(.long b0), (.long p1)]) (rest := []) (lenOf (show parseMethodDescriptor "(JJ)Z" = some ⟨[.long, .long], some .boolean⟩ by decide +kernel) rfl) rfl (by show 2 * 0 + _ ≤ _; exact Nat.le_of_eq rfl) (hb hby at_131)
      refine own_Fin.back (S' := T25.setTop (mkF m 134 #[.val (.int p0), .val (.long p1), .second, .val (.long p2), .second, .val (.ref a_BUY), .val (.int md), .val (.long b0), .second, .val (.int (1 : Int32)), .val (.int (1 : Int32)), .unset] [(.int (1 : Int32))])) k25 ?_
      refine own_Fin.back (S' := T25.setTop (mkF m 136 #[.val (.int p0), .val (.long p1), .second, .val (.long p2), .second, .val (.ref a_BUY), .val (.int md), .val (.long b0), .second, .val (.int (1 : Int32)), .val (.int (1 : Int32)), .val (.int (1 : Int32))] [])) (fun t k => XS.istore X25.here hx rfl (hb hby at_134) rfl (l' := #[.val (.int p0), .val (.long p1), .second, .val (.long p2), .second, .val (.ref a_BUY), .val (.int md), .val (.long b0), .second, .val (.int (1 : Int32)), .val (.int (1 : Int32)), .val (.int (1 : Int32))]) rfl k) ?_
      refine own_Fin.back (S' := T25.setTop (mkF m 138 #[.val (.int p0), .val (.long p1), .second, .val (.long p2), .second, .val (.ref a_BUY), .val (.int md), .val (.long b0), .second, .val (.int (1 : Int32)), .val (.int (1 : Int32)), .val (.int (1 : Int32))] [(.int (1 : Int32))])) (fun t k => XS.iload X25.here hx rfl (hb hby at_136) rfl k) ?_
      refine own_Fin.back (S' := T25.setTop (mkF m 140 #[.val (.int p0), .val (.long p1), .second, .val (.long p2), .second, .val (.ref a_BUY), .val (.int md), .val (.long b0), .second, .val (.int (1 : Int32)), .val (.int (1 : Int32)), .val (.int (1 : Int32))] [(.int (1 : Int32)), (.int (1 : Int32))])) (fun t k => XS.iload X25.here hx rfl (hb hby at_138) rfl k) ?_
      refine own_Fin.back (S' := T25.setTop (mkF m 143 #[.val (.int p0), .val (.long p1), .second, .val (.long p2), .second, .val (.ref a_BUY), .val (.int md), .val (.long b0), .second, .val (.int (1 : Int32)), .val (.int (1 : Int32)), .val (.int (1 : Int32))] [])) (fun t k => XS.icmpNo X25.here hx rfl (hb hby at_140) rfl (by decide) k) ?_
      refine own_Fin.back (S' := T25.setTop (mkF m 145 #[.val (.int p0), .val (.long p1), .second, .val (.long p2), .second, .val (.ref a_BUY), .val (.int md), .val (.long b0), .second, .val (.int (1 : Int32)), .val (.int (1 : Int32)), .val (.int (1 : Int32))] [(.int (1 : Int32))])) (fun t k => XS.iload X25.here hx rfl (hb hby at_143) rfl k) ?_
      refine own_Fin.back (S' := T25.setTop (mkF m 147 #[.val (.int p0), .val (.long p1), .second, .val (.long p2), .second, .val (.ref a_BUY), .val (.int md), .val (.long b0), .second, .val (.int (1 : Int32)), .val (.int (1 : Int32)), .val (.int (1 : Int32))] [(.int (1 : Int32)), (.int (1 : Int32))])) (fun t k => XS.iload X25.here hx rfl (hb hby at_145) rfl k) ?_
      refine own_Fin.back (S' := T25.setTop (mkF m 150 #[.val (.int p0), .val (.long p1), .second, .val (.long p2), .second, .val (.ref a_BUY), .val (.int md), .val (.long b0), .second, .val (.int (1 : Int32)), .val (.int (1 : Int32)), .val (.int (1 : Int32))] [])) (fun t k => XS.icmpNo X25.here hx rfl (hb hby at_147) rfl (by decide) k) ?_
      refine own_Fin.back (S' := T25.setTop (mkF m 151 #[.val (.int p0), .val (.long p1), .second, .val (.long p2), .second, .val (.ref a_BUY), .val (.int md), .val (.long b0), .second, .val (.int (1 : Int32)), .val (.int (1 : Int32)), .val (.int (1 : Int32))] [(.int (1 : Int32))])) (fun t k => XS.iconst X25.here hx rfl (hb hby at_150) k) ?_
      refine own_Fin.back (S' := T25.setTop (mkF m 155 #[.val (.int p0), .val (.long p1), .second, .val (.long p2), .second, .val (.ref a_BUY), .val (.int md), .val (.long b0), .second, .val (.int (1 : Int32)), .val (.int (1 : Int32)), .val (.int (1 : Int32))] [(.int (1 : Int32))])) (fun t k => XS.goto X25.here hx rfl (pc0 := 151) (pc' := 155) rfl (hb hby at_151) (by decide) (by decide) k) ?_
      exact ⟨T25, X25, e25, fun fs hr => retOut X25 hx (w := (.int (1 : Int32))) (t := .boolean) hret (by first | rfl | decide) (Or.inl ⟨rfl, Or.inr (Or.inl rfl), _, rfl⟩) (hb hby at_155) hr⟩
  have sufS : ∀ (T : State), Stand p l e ({ frames := 4, cells := 0, slots := 0, locals := 112 } : Room) s m #[(.int p0), (.long p1), (.long p2)] below meth c T [] 0 0 → T.heap = h0 → ∀ (md : Int32) (b0 : Int64), own_Fin p l e ({ frames := 4, cells := 0, slots := 0, locals := 112 } : Room) s m #[(.int p0), (.long p1), (.long p2)] below meth c h0 (some (.int (1 : Int32))) (T.setTop (mkF m 66 #[.val (.int p0), .val (.long p1), .second, .val (.long p2), .second, .val (.ref a_SELL), .val (.int md), .val (.long b0), .second, .unset, .unset, .unset] [])) := by
    intro T1000 X1000 e1000 md b0
    rcases own_tri p1 b0 with ⟨ca, cb⟩ | ⟨ca, cb⟩ | ⟨ca, cb⟩
    · refine own_Fin.back (S' := T1000.setTop (mkF m 68 #[.val (.int p0), .val (.long p1), .second, .val (.long p2), .second, .val (.ref a_SELL), .val (.int md), .val (.long b0), .second, .unset, .unset, .unset] [(.ref a_SELL)])) (fun t k => XS.aload X1000.here hx rfl (hb hby at_66) rfl rfl k) ?_
      refine own_Fin.back (S' := T1000.setTop (mkF m 69 #[.val (.int p0), .val (.long p1), .second, .val (.long p2), .second, .val (.ref a_SELL), .val (.int md), .val (.long b0), .second, .unset, .unset, .unset] [(.long p1), (.ref a_SELL)])) (fun t k => XT.lloadN X1000.here hx rfl (hb hby at_68) rfl k) ?_
      refine own_Fin.back (S' := T1000.setTop (mkF m 71 #[.val (.int p0), .val (.long p1), .second, .val (.long p2), .second, .val (.ref a_SELL), .val (.int md), .val (.long b0), .second, .unset, .unset, .unset] [(.long b0), (.long p1), (.ref a_SELL)])) (fun t k => XT.lload X1000.here hx rfl (hb hby at_69) rfl k) ?_
      obtain ⟨T26, X26, e26, k26⟩ := own_callV X1000 hx hZ (C := "com/example/sevan_exchange/sevanexchange/engine/Side") (y := (⟨"com/example/sevan_exchange/sevanexchange/engine/Side", "crosses", "(JJ)Z"⟩ : MethodName)) (W := 0) hown (hw _ (List.mem_of_getElem? (i := 3) rfl)) (hw _ (List.mem_of_getElem? (i := 4) rfl)) (hw _ (List.mem_of_getElem? (i := 6) rfl)) (hw _ (List.mem_of_getElem? (i := 5) rfl)) (hw _ (List.mem_of_getElem? (i := 7) rfl)) (hw _ (List.mem_of_getElem? (i := 1) rfl)) (by decide) (own_cr_a_SELL_p l Z a0 hw h0 H p1 b0 cb) e1000 X_SELL (by decide) (by decide) (g := (mkF m 71 #[.val (.int p0), .val (.long p1), .second, .val (.long p2), .second, .val (.ref a_SELL), .val (.int md), .val (.long b0), .second, .unset, .unset, .unset] [(.long b0), (.long p1), (.ref a_SELL)])) rfl (by rw [hml]; rfl) (argsL := [(.long p1), (.long b0)]) (rest := []) (lenOf (show parseMethodDescriptor "(JJ)Z" = some ⟨[.long, .long], some .boolean⟩ by decide +kernel) rfl) rfl (by show 2 * 0 + _ ≤ _; exact Nat.le_of_eq rfl) (hb hby at_71)
      refine own_Fin.back (S' := T26.setTop (mkF m 74 #[.val (.int p0), .val (.long p1), .second, .val (.long p2), .second, .val (.ref a_SELL), .val (.int md), .val (.long b0), .second, .unset, .unset, .unset] [(.int (1 : Int32))])) k26 ?_
      refine own_Fin.back (S' := T26.setTop (mkF m 76 #[.val (.int p0), .val (.long p1), .second, .val (.long p2), .second, .val (.ref a_SELL), .val (.int md), .val (.long b0), .second, .val (.int (1 : Int32)), .unset, .unset] [])) (fun t k => XS.istore X26.here hx rfl (hb hby at_74) rfl (l' := #[.val (.int p0), .val (.long p1), .second, .val (.long p2), .second, .val (.ref a_SELL), .val (.int md), .val (.long b0), .second, .val (.int (1 : Int32)), .unset, .unset]) rfl k) ?_
      refine own_Fin.back (S' := T26.setTop (mkF m 78 #[.val (.int p0), .val (.long p1), .second, .val (.long p2), .second, .val (.ref a_SELL), .val (.int md), .val (.long b0), .second, .val (.int (1 : Int32)), .unset, .unset] [(.ref a_SELL)])) (fun t k => XS.aload X26.here hx rfl (hb hby at_76) rfl rfl k) ?_
      obtain ⟨T27, X27, e27, k27⟩ := getS X26 hx hZ hown (host := "") (hw _ (List.mem_of_getElem? (i := 10) rfl)) Via.refl e26 S_BUY (g := (mkF m 78 #[.val (.int p0), .val (.long p1), .second, .val (.long p2), .second, .val (.ref a_SELL), .val (.int md), .val (.long b0), .second, .val (.int (1 : Int32)), .unset, .unset] [(.ref a_SELL)])) rfl (hb hby at_78)
      refine own_Fin.back (S' := T27.setTop (mkF m 81 #[.val (.int p0), .val (.long p1), .second, .val (.long p2), .second, .val (.ref a_SELL), .val (.int md), .val (.long b0), .second, .val (.int (1 : Int32)), .unset, .unset] [(.ref a_BUY), (.ref a_SELL)])) k27 ?_
      refine own_Fin.back (S' := T27.setTop (mkF m 105 #[.val (.int p0), .val (.long p1), .second, .val (.long p2), .second, .val (.ref a_SELL), .val (.int md), .val (.long b0), .second, .val (.int (1 : Int32)), .unset, .unset] [])) (fun t k => XT.acmpYes X27.here hx rfl (pc0 := 81) (pc' := 105) rfl (hb hby at_81) rfl rfl rfl (own_acmp_diff D_SELL_BUY).2 (by decide) (by decide) k) ?_
      refine own_Fin.back (S' := T27.setTop (mkF m 106 #[.val (.int p0), .val (.long p1), .second, .val (.long p2), .second, .val (.ref a_SELL), .val (.int md), .val (.long b0), .second, .val (.int (1 : Int32)), .unset, .unset] [(.long p1)])) (fun t k => XT.lloadN X27.here hx rfl (hb hby at_105) rfl k) ?_
      refine own_Fin.back (S' := T27.setTop (mkF m 108 #[.val (.int p0), .val (.long p1), .second, .val (.long p2), .second, .val (.ref a_SELL), .val (.int md), .val (.long b0), .second, .val (.int (1 : Int32)), .unset, .unset] [(.long b0), (.long p1)])) (fun t k => XT.lload X27.here hx rfl (hb hby at_106) rfl k) ?_
      obtain ⟨T28, X28, e28, k28⟩ := own_callS X27 hx hZ (y := (⟨"java/lang/Math", "min", "(JJ)J"⟩ : MethodName)) (W := 0) hown (hw _ (List.mem_of_getElem? (i := 11) rfl)) (hw _ (List.mem_of_getElem? (i := 12) rfl)) (hw _ (List.mem_of_getElem? (i := 13) rfl)) (hw _ (List.mem_of_getElem? (i := 14) rfl)) (by decide) (own_min_m l Z a0 hw h0 H p1 b0 ca) e27 (by decide) (by decide) (g := (mkF m 108 #[.val (.int p0), .val (.long p1), .second, .val (.long p2), .second, .val (.ref a_SELL), .val (.int md), .val (.long b0), .second, .val (.int (1 : Int32)), .unset, .unset] [(.long b0), (.long p1)])) rfl (by rw [hml]; rfl) (argsL := [(.long p1), (.long b0)]) (rest := []) (lenOf (show parseMethodDescriptor "(JJ)J" = some ⟨[.long, .long], some .long⟩ by decide +kernel) rfl) rfl (by show 2 * 0 + _ ≤ _; exact Nat.le_of_eq rfl) (hb hby at_108)
      refine own_Fin.back (S' := T28.setTop (mkF m 111 #[.val (.int p0), .val (.long p1), .second, .val (.long p2), .second, .val (.ref a_SELL), .val (.int md), .val (.long b0), .second, .val (.int (1 : Int32)), .unset, .unset] [(.long p1)])) k28 ?_
      refine own_Fin.back (S' := T28.setTop (mkF m 112 #[.val (.int p0), .val (.long p1), .second, .val (.long p2), .second, .val (.ref a_SELL), .val (.int md), .val (.long b0), .second, .val (.int (1 : Int32)), .unset, .unset] [(.long p1), (.long p1)])) (fun t k => XT.lloadN X28.here hx rfl (hb hby at_111) rfl k) ?_
      refine own_Fin.back (S' := T28.setTop (mkF m 113 #[.val (.int p0), .val (.long p1), .second, .val (.long p2), .second, .val (.ref a_SELL), .val (.int md), .val (.long b0), .second, .val (.int (1 : Int32)), .unset, .unset] [(.int (XT.cmpL p1 p1))])) (fun t k => XT.lcmp X28.here hx rfl (hb hby at_112) rfl k) ?_
      refine own_Fin.back (S' := T28.setTop (mkF m 116 #[.val (.int p0), .val (.long p1), .second, .val (.long p2), .second, .val (.ref a_SELL), .val (.int md), .val (.long b0), .second, .val (.int (1 : Int32)), .unset, .unset] [])) (fun t k => XS.ifNo X28.here hx rfl (hb hby at_113) rfl (by rw [own_cmp_self p1]; first | done | decide) k) ?_
      refine own_Fin.back (S' := T28.setTop (mkF m 117 #[.val (.int p0), .val (.long p1), .second, .val (.long p2), .second, .val (.ref a_SELL), .val (.int md), .val (.long b0), .second, .val (.int (1 : Int32)), .unset, .unset] [(.int (1 : Int32))])) (fun t k => XS.iconst X28.here hx rfl (hb hby at_116) k) ?_
      refine own_Fin.back (S' := T28.setTop (mkF m 121 #[.val (.int p0), .val (.long p1), .second, .val (.long p2), .second, .val (.ref a_SELL), .val (.int md), .val (.long b0), .second, .val (.int (1 : Int32)), .unset, .unset] [(.int (1 : Int32))])) (fun t k => XS.goto X28.here hx rfl (pc0 := 117) (pc' := 121) rfl (hb hby at_117) (by decide) (by decide) k) ?_
      refine own_Fin.back (S' := T28.setTop (mkF m 123 #[.val (.int p0), .val (.long p1), .second, .val (.long p2), .second, .val (.ref a_SELL), .val (.int md), .val (.long b0), .second, .val (.int (1 : Int32)), .val (.int (1 : Int32)), .unset] [])) (fun t k => XS.istore X28.here hx rfl (hb hby at_121) rfl (l' := #[.val (.int p0), .val (.long p1), .second, .val (.long p2), .second, .val (.ref a_SELL), .val (.int md), .val (.long b0), .second, .val (.int (1 : Int32)), .val (.int (1 : Int32)), .unset]) rfl k) ?_
      refine own_Fin.back (S' := T28.setTop (mkF m 125 #[.val (.int p0), .val (.long p1), .second, .val (.long p2), .second, .val (.ref a_SELL), .val (.int md), .val (.long b0), .second, .val (.int (1 : Int32)), .val (.int (1 : Int32)), .unset] [(.ref a_SELL)])) (fun t k => XS.aload X28.here hx rfl (hb hby at_123) rfl rfl k) ?_
      obtain ⟨T29, X29, e29, k29⟩ := own_callV X28 hx hZ (C := "com/example/sevan_exchange/sevanexchange/engine/Side") (y := (⟨"com/example/sevan_exchange/sevanexchange/engine/Side", "opposite", "()Lcom/example/sevan_exchange/sevanexchange/engine/Side;"⟩ : MethodName)) (W := 0) hown (hw _ (List.mem_of_getElem? (i := 15) rfl)) (hw _ (List.mem_of_getElem? (i := 16) rfl)) (hw _ (List.mem_of_getElem? (i := 18) rfl)) (hw _ (List.mem_of_getElem? (i := 17) rfl)) (hw _ (List.mem_of_getElem? (i := 19) rfl)) (hw _ (List.mem_of_getElem? (i := 1) rfl)) (by decide) (own_opp_a_SELL l Z a0 hw h0 H) e28 X_SELL (by decide) (by decide) (g := (mkF m 125 #[.val (.int p0), .val (.long p1), .second, .val (.long p2), .second, .val (.ref a_SELL), .val (.int md), .val (.long b0), .second, .val (.int (1 : Int32)), .val (.int (1 : Int32)), .unset] [(.ref a_SELL)])) rfl (by rw [hml]; rfl) (argsL := []) (rest := []) (lenOf (show parseMethodDescriptor "()Lcom/example/sevan_exchange/sevanexchange/engine/Side;" = some ⟨[], some (.object "com/example/sevan_exchange/sevanexchange/engine/Side")⟩ by decide +kernel) rfl) rfl (by show 2 * 0 + _ ≤ _; exact Nat.le_of_eq rfl) (hb hby at_125)
      refine own_Fin.back (S' := T29.setTop (mkF m 128 #[.val (.int p0), .val (.long p1), .second, .val (.long p2), .second, .val (.ref a_SELL), .val (.int md), .val (.long b0), .second, .val (.int (1 : Int32)), .val (.int (1 : Int32)), .unset] [(.ref a_BUY)])) k29 ?_
      refine own_Fin.back (S' := T29.setTop (mkF m 130 #[.val (.int p0), .val (.long p1), .second, .val (.long p2), .second, .val (.ref a_SELL), .val (.int md), .val (.long b0), .second, .val (.int (1 : Int32)), .val (.int (1 : Int32)), .unset] [(.long b0), (.ref a_BUY)])) (fun t k => XT.lload X29.here hx rfl (hb hby at_128) rfl k) ?_
      refine own_Fin.back (S' := T29.setTop (mkF m 131 #[.val (.int p0), .val (.long p1), .second, .val (.long p2), .second, .val (.ref a_SELL), .val (.int md), .val (.long b0), .second, .val (.int (1 : Int32)), .val (.int (1 : Int32)), .unset] [(.long p1), (.long b0), (.ref a_BUY)])) (fun t k => XT.lloadN X29.here hx rfl (hb hby at_130) rfl k) ?_
      obtain ⟨T30, X30, e30, k30⟩ := own_callV X29 hx hZ (C := "com/example/sevan_exchange/sevanexchange/engine/Side") (y := (⟨"com/example/sevan_exchange/sevanexchange/engine/Side", "crosses", "(JJ)Z"⟩ : MethodName)) (W := 0) hown (hw _ (List.mem_of_getElem? (i := 3) rfl)) (hw _ (List.mem_of_getElem? (i := 4) rfl)) (hw _ (List.mem_of_getElem? (i := 6) rfl)) (hw _ (List.mem_of_getElem? (i := 5) rfl)) (hw _ (List.mem_of_getElem? (i := 7) rfl)) (hw _ (List.mem_of_getElem? (i := 1) rfl)) (by decide) (own_cr_a_BUY_m l Z a0 hw h0 H b0 p1 ca) e29 X_BUY (by decide) (by decide) (g := (mkF m 131 #[.val (.int p0), .val (.long p1), .second, .val (.long p2), .second, .val (.ref a_SELL), .val (.int md), .val (.long b0), .second, .val (.int (1 : Int32)), .val (.int (1 : Int32)), .unset] [(.long p1), (.long b0), (.ref a_BUY)])) rfl (by rw [hml]; rfl) (argsL := [(.long b0), (.long p1)]) (rest := []) (lenOf (show parseMethodDescriptor "(JJ)Z" = some ⟨[.long, .long], some .boolean⟩ by decide +kernel) rfl) rfl (by show 2 * 0 + _ ≤ _; exact Nat.le_of_eq rfl) (hb hby at_131)
      refine own_Fin.back (S' := T30.setTop (mkF m 134 #[.val (.int p0), .val (.long p1), .second, .val (.long p2), .second, .val (.ref a_SELL), .val (.int md), .val (.long b0), .second, .val (.int (1 : Int32)), .val (.int (1 : Int32)), .unset] [(.int (1 : Int32))])) k30 ?_
      refine own_Fin.back (S' := T30.setTop (mkF m 136 #[.val (.int p0), .val (.long p1), .second, .val (.long p2), .second, .val (.ref a_SELL), .val (.int md), .val (.long b0), .second, .val (.int (1 : Int32)), .val (.int (1 : Int32)), .val (.int (1 : Int32))] [])) (fun t k => XS.istore X30.here hx rfl (hb hby at_134) rfl (l' := #[.val (.int p0), .val (.long p1), .second, .val (.long p2), .second, .val (.ref a_SELL), .val (.int md), .val (.long b0), .second, .val (.int (1 : Int32)), .val (.int (1 : Int32)), .val (.int (1 : Int32))]) rfl k) ?_
      refine own_Fin.back (S' := T30.setTop (mkF m 138 #[.val (.int p0), .val (.long p1), .second, .val (.long p2), .second, .val (.ref a_SELL), .val (.int md), .val (.long b0), .second, .val (.int (1 : Int32)), .val (.int (1 : Int32)), .val (.int (1 : Int32))] [(.int (1 : Int32))])) (fun t k => XS.iload X30.here hx rfl (hb hby at_136) rfl k) ?_
      refine own_Fin.back (S' := T30.setTop (mkF m 140 #[.val (.int p0), .val (.long p1), .second, .val (.long p2), .second, .val (.ref a_SELL), .val (.int md), .val (.long b0), .second, .val (.int (1 : Int32)), .val (.int (1 : Int32)), .val (.int (1 : Int32))] [(.int (1 : Int32)), (.int (1 : Int32))])) (fun t k => XS.iload X30.here hx rfl (hb hby at_138) rfl k) ?_
      refine own_Fin.back (S' := T30.setTop (mkF m 143 #[.val (.int p0), .val (.long p1), .second, .val (.long p2), .second, .val (.ref a_SELL), .val (.int md), .val (.long b0), .second, .val (.int (1 : Int32)), .val (.int (1 : Int32)), .val (.int (1 : Int32))] [])) (fun t k => XS.icmpNo X30.here hx rfl (hb hby at_140) rfl (by decide) k) ?_
      refine own_Fin.back (S' := T30.setTop (mkF m 145 #[.val (.int p0), .val (.long p1), .second, .val (.long p2), .second, .val (.ref a_SELL), .val (.int md), .val (.long b0), .second, .val (.int (1 : Int32)), .val (.int (1 : Int32)), .val (.int (1 : Int32))] [(.int (1 : Int32))])) (fun t k => XS.iload X30.here hx rfl (hb hby at_143) rfl k) ?_
      refine own_Fin.back (S' := T30.setTop (mkF m 147 #[.val (.int p0), .val (.long p1), .second, .val (.long p2), .second, .val (.ref a_SELL), .val (.int md), .val (.long b0), .second, .val (.int (1 : Int32)), .val (.int (1 : Int32)), .val (.int (1 : Int32))] [(.int (1 : Int32)), (.int (1 : Int32))])) (fun t k => XS.iload X30.here hx rfl (hb hby at_145) rfl k) ?_
      refine own_Fin.back (S' := T30.setTop (mkF m 150 #[.val (.int p0), .val (.long p1), .second, .val (.long p2), .second, .val (.ref a_SELL), .val (.int md), .val (.long b0), .second, .val (.int (1 : Int32)), .val (.int (1 : Int32)), .val (.int (1 : Int32))] [])) (fun t k => XS.icmpNo X30.here hx rfl (hb hby at_147) rfl (by decide) k) ?_
      refine own_Fin.back (S' := T30.setTop (mkF m 151 #[.val (.int p0), .val (.long p1), .second, .val (.long p2), .second, .val (.ref a_SELL), .val (.int md), .val (.long b0), .second, .val (.int (1 : Int32)), .val (.int (1 : Int32)), .val (.int (1 : Int32))] [(.int (1 : Int32))])) (fun t k => XS.iconst X30.here hx rfl (hb hby at_150) k) ?_
      refine own_Fin.back (S' := T30.setTop (mkF m 155 #[.val (.int p0), .val (.long p1), .second, .val (.long p2), .second, .val (.ref a_SELL), .val (.int md), .val (.long b0), .second, .val (.int (1 : Int32)), .val (.int (1 : Int32)), .val (.int (1 : Int32))] [(.int (1 : Int32))])) (fun t k => XS.goto X30.here hx rfl (pc0 := 151) (pc' := 155) rfl (hb hby at_151) (by decide) (by decide) k) ?_
      exact ⟨T30, X30, e30, fun fs hr => retOut X30 hx (w := (.int (1 : Int32))) (t := .boolean) hret (by first | rfl | decide) (Or.inl ⟨rfl, Or.inr (Or.inl rfl), _, rfl⟩) (hb hby at_155) hr⟩
    · refine own_Fin.back (S' := T1000.setTop (mkF m 68 #[.val (.int p0), .val (.long p1), .second, .val (.long p2), .second, .val (.ref a_SELL), .val (.int md), .val (.long b0), .second, .unset, .unset, .unset] [(.ref a_SELL)])) (fun t k => XS.aload X1000.here hx rfl (hb hby at_66) rfl rfl k) ?_
      refine own_Fin.back (S' := T1000.setTop (mkF m 69 #[.val (.int p0), .val (.long p1), .second, .val (.long p2), .second, .val (.ref a_SELL), .val (.int md), .val (.long b0), .second, .unset, .unset, .unset] [(.long p1), (.ref a_SELL)])) (fun t k => XT.lloadN X1000.here hx rfl (hb hby at_68) rfl k) ?_
      refine own_Fin.back (S' := T1000.setTop (mkF m 71 #[.val (.int p0), .val (.long p1), .second, .val (.long p2), .second, .val (.ref a_SELL), .val (.int md), .val (.long b0), .second, .unset, .unset, .unset] [(.long b0), (.long p1), (.ref a_SELL)])) (fun t k => XT.lload X1000.here hx rfl (hb hby at_69) rfl k) ?_
      obtain ⟨T31, X31, e31, k31⟩ := own_callV X1000 hx hZ (C := "com/example/sevan_exchange/sevanexchange/engine/Side") (y := (⟨"com/example/sevan_exchange/sevanexchange/engine/Side", "crosses", "(JJ)Z"⟩ : MethodName)) (W := 0) hown (hw _ (List.mem_of_getElem? (i := 3) rfl)) (hw _ (List.mem_of_getElem? (i := 4) rfl)) (hw _ (List.mem_of_getElem? (i := 6) rfl)) (hw _ (List.mem_of_getElem? (i := 5) rfl)) (hw _ (List.mem_of_getElem? (i := 7) rfl)) (hw _ (List.mem_of_getElem? (i := 1) rfl)) (by decide) (own_cr_a_SELL_z l Z a0 hw h0 H p1 b0 cb) e1000 X_SELL (by decide) (by decide) (g := (mkF m 71 #[.val (.int p0), .val (.long p1), .second, .val (.long p2), .second, .val (.ref a_SELL), .val (.int md), .val (.long b0), .second, .unset, .unset, .unset] [(.long b0), (.long p1), (.ref a_SELL)])) rfl (by rw [hml]; rfl) (argsL := [(.long p1), (.long b0)]) (rest := []) (lenOf (show parseMethodDescriptor "(JJ)Z" = some ⟨[.long, .long], some .boolean⟩ by decide +kernel) rfl) rfl (by show 2 * 0 + _ ≤ _; exact Nat.le_of_eq rfl) (hb hby at_71)
      refine own_Fin.back (S' := T31.setTop (mkF m 74 #[.val (.int p0), .val (.long p1), .second, .val (.long p2), .second, .val (.ref a_SELL), .val (.int md), .val (.long b0), .second, .unset, .unset, .unset] [(.int (1 : Int32))])) k31 ?_
      refine own_Fin.back (S' := T31.setTop (mkF m 76 #[.val (.int p0), .val (.long p1), .second, .val (.long p2), .second, .val (.ref a_SELL), .val (.int md), .val (.long b0), .second, .val (.int (1 : Int32)), .unset, .unset] [])) (fun t k => XS.istore X31.here hx rfl (hb hby at_74) rfl (l' := #[.val (.int p0), .val (.long p1), .second, .val (.long p2), .second, .val (.ref a_SELL), .val (.int md), .val (.long b0), .second, .val (.int (1 : Int32)), .unset, .unset]) rfl k) ?_
      refine own_Fin.back (S' := T31.setTop (mkF m 78 #[.val (.int p0), .val (.long p1), .second, .val (.long p2), .second, .val (.ref a_SELL), .val (.int md), .val (.long b0), .second, .val (.int (1 : Int32)), .unset, .unset] [(.ref a_SELL)])) (fun t k => XS.aload X31.here hx rfl (hb hby at_76) rfl rfl k) ?_
      obtain ⟨T32, X32, e32, k32⟩ := getS X31 hx hZ hown (host := "") (hw _ (List.mem_of_getElem? (i := 10) rfl)) Via.refl e31 S_BUY (g := (mkF m 78 #[.val (.int p0), .val (.long p1), .second, .val (.long p2), .second, .val (.ref a_SELL), .val (.int md), .val (.long b0), .second, .val (.int (1 : Int32)), .unset, .unset] [(.ref a_SELL)])) rfl (hb hby at_78)
      refine own_Fin.back (S' := T32.setTop (mkF m 81 #[.val (.int p0), .val (.long p1), .second, .val (.long p2), .second, .val (.ref a_SELL), .val (.int md), .val (.long b0), .second, .val (.int (1 : Int32)), .unset, .unset] [(.ref a_BUY), (.ref a_SELL)])) k32 ?_
      refine own_Fin.back (S' := T32.setTop (mkF m 105 #[.val (.int p0), .val (.long p1), .second, .val (.long p2), .second, .val (.ref a_SELL), .val (.int md), .val (.long b0), .second, .val (.int (1 : Int32)), .unset, .unset] [])) (fun t k => XT.acmpYes X32.here hx rfl (pc0 := 81) (pc' := 105) rfl (hb hby at_81) rfl rfl rfl (own_acmp_diff D_SELL_BUY).2 (by decide) (by decide) k) ?_
      refine own_Fin.back (S' := T32.setTop (mkF m 106 #[.val (.int p0), .val (.long p1), .second, .val (.long p2), .second, .val (.ref a_SELL), .val (.int md), .val (.long b0), .second, .val (.int (1 : Int32)), .unset, .unset] [(.long p1)])) (fun t k => XT.lloadN X32.here hx rfl (hb hby at_105) rfl k) ?_
      refine own_Fin.back (S' := T32.setTop (mkF m 108 #[.val (.int p0), .val (.long p1), .second, .val (.long p2), .second, .val (.ref a_SELL), .val (.int md), .val (.long b0), .second, .val (.int (1 : Int32)), .unset, .unset] [(.long b0), (.long p1)])) (fun t k => XT.lload X32.here hx rfl (hb hby at_106) rfl k) ?_
      obtain ⟨T33, X33, e33, k33⟩ := own_callS X32 hx hZ (y := (⟨"java/lang/Math", "min", "(JJ)J"⟩ : MethodName)) (W := 0) hown (hw _ (List.mem_of_getElem? (i := 11) rfl)) (hw _ (List.mem_of_getElem? (i := 12) rfl)) (hw _ (List.mem_of_getElem? (i := 13) rfl)) (hw _ (List.mem_of_getElem? (i := 14) rfl)) (by decide) (own_min_z l Z a0 hw h0 H p1 b0 ca) e32 (by decide) (by decide) (g := (mkF m 108 #[.val (.int p0), .val (.long p1), .second, .val (.long p2), .second, .val (.ref a_SELL), .val (.int md), .val (.long b0), .second, .val (.int (1 : Int32)), .unset, .unset] [(.long b0), (.long p1)])) rfl (by rw [hml]; rfl) (argsL := [(.long p1), (.long b0)]) (rest := []) (lenOf (show parseMethodDescriptor "(JJ)J" = some ⟨[.long, .long], some .long⟩ by decide +kernel) rfl) rfl (by show 2 * 0 + _ ≤ _; exact Nat.le_of_eq rfl) (hb hby at_108)
      refine own_Fin.back (S' := T33.setTop (mkF m 111 #[.val (.int p0), .val (.long p1), .second, .val (.long p2), .second, .val (.ref a_SELL), .val (.int md), .val (.long b0), .second, .val (.int (1 : Int32)), .unset, .unset] [(.long p1)])) k33 ?_
      refine own_Fin.back (S' := T33.setTop (mkF m 112 #[.val (.int p0), .val (.long p1), .second, .val (.long p2), .second, .val (.ref a_SELL), .val (.int md), .val (.long b0), .second, .val (.int (1 : Int32)), .unset, .unset] [(.long p1), (.long p1)])) (fun t k => XT.lloadN X33.here hx rfl (hb hby at_111) rfl k) ?_
      refine own_Fin.back (S' := T33.setTop (mkF m 113 #[.val (.int p0), .val (.long p1), .second, .val (.long p2), .second, .val (.ref a_SELL), .val (.int md), .val (.long b0), .second, .val (.int (1 : Int32)), .unset, .unset] [(.int (XT.cmpL p1 p1))])) (fun t k => XT.lcmp X33.here hx rfl (hb hby at_112) rfl k) ?_
      refine own_Fin.back (S' := T33.setTop (mkF m 116 #[.val (.int p0), .val (.long p1), .second, .val (.long p2), .second, .val (.ref a_SELL), .val (.int md), .val (.long b0), .second, .val (.int (1 : Int32)), .unset, .unset] [])) (fun t k => XS.ifNo X33.here hx rfl (hb hby at_113) rfl (by rw [own_cmp_self p1]; first | done | decide) k) ?_
      refine own_Fin.back (S' := T33.setTop (mkF m 117 #[.val (.int p0), .val (.long p1), .second, .val (.long p2), .second, .val (.ref a_SELL), .val (.int md), .val (.long b0), .second, .val (.int (1 : Int32)), .unset, .unset] [(.int (1 : Int32))])) (fun t k => XS.iconst X33.here hx rfl (hb hby at_116) k) ?_
      refine own_Fin.back (S' := T33.setTop (mkF m 121 #[.val (.int p0), .val (.long p1), .second, .val (.long p2), .second, .val (.ref a_SELL), .val (.int md), .val (.long b0), .second, .val (.int (1 : Int32)), .unset, .unset] [(.int (1 : Int32))])) (fun t k => XS.goto X33.here hx rfl (pc0 := 117) (pc' := 121) rfl (hb hby at_117) (by decide) (by decide) k) ?_
      refine own_Fin.back (S' := T33.setTop (mkF m 123 #[.val (.int p0), .val (.long p1), .second, .val (.long p2), .second, .val (.ref a_SELL), .val (.int md), .val (.long b0), .second, .val (.int (1 : Int32)), .val (.int (1 : Int32)), .unset] [])) (fun t k => XS.istore X33.here hx rfl (hb hby at_121) rfl (l' := #[.val (.int p0), .val (.long p1), .second, .val (.long p2), .second, .val (.ref a_SELL), .val (.int md), .val (.long b0), .second, .val (.int (1 : Int32)), .val (.int (1 : Int32)), .unset]) rfl k) ?_
      refine own_Fin.back (S' := T33.setTop (mkF m 125 #[.val (.int p0), .val (.long p1), .second, .val (.long p2), .second, .val (.ref a_SELL), .val (.int md), .val (.long b0), .second, .val (.int (1 : Int32)), .val (.int (1 : Int32)), .unset] [(.ref a_SELL)])) (fun t k => XS.aload X33.here hx rfl (hb hby at_123) rfl rfl k) ?_
      obtain ⟨T34, X34, e34, k34⟩ := own_callV X33 hx hZ (C := "com/example/sevan_exchange/sevanexchange/engine/Side") (y := (⟨"com/example/sevan_exchange/sevanexchange/engine/Side", "opposite", "()Lcom/example/sevan_exchange/sevanexchange/engine/Side;"⟩ : MethodName)) (W := 0) hown (hw _ (List.mem_of_getElem? (i := 15) rfl)) (hw _ (List.mem_of_getElem? (i := 16) rfl)) (hw _ (List.mem_of_getElem? (i := 18) rfl)) (hw _ (List.mem_of_getElem? (i := 17) rfl)) (hw _ (List.mem_of_getElem? (i := 19) rfl)) (hw _ (List.mem_of_getElem? (i := 1) rfl)) (by decide) (own_opp_a_SELL l Z a0 hw h0 H) e33 X_SELL (by decide) (by decide) (g := (mkF m 125 #[.val (.int p0), .val (.long p1), .second, .val (.long p2), .second, .val (.ref a_SELL), .val (.int md), .val (.long b0), .second, .val (.int (1 : Int32)), .val (.int (1 : Int32)), .unset] [(.ref a_SELL)])) rfl (by rw [hml]; rfl) (argsL := []) (rest := []) (lenOf (show parseMethodDescriptor "()Lcom/example/sevan_exchange/sevanexchange/engine/Side;" = some ⟨[], some (.object "com/example/sevan_exchange/sevanexchange/engine/Side")⟩ by decide +kernel) rfl) rfl (by show 2 * 0 + _ ≤ _; exact Nat.le_of_eq rfl) (hb hby at_125)
      refine own_Fin.back (S' := T34.setTop (mkF m 128 #[.val (.int p0), .val (.long p1), .second, .val (.long p2), .second, .val (.ref a_SELL), .val (.int md), .val (.long b0), .second, .val (.int (1 : Int32)), .val (.int (1 : Int32)), .unset] [(.ref a_BUY)])) k34 ?_
      refine own_Fin.back (S' := T34.setTop (mkF m 130 #[.val (.int p0), .val (.long p1), .second, .val (.long p2), .second, .val (.ref a_SELL), .val (.int md), .val (.long b0), .second, .val (.int (1 : Int32)), .val (.int (1 : Int32)), .unset] [(.long b0), (.ref a_BUY)])) (fun t k => XT.lload X34.here hx rfl (hb hby at_128) rfl k) ?_
      refine own_Fin.back (S' := T34.setTop (mkF m 131 #[.val (.int p0), .val (.long p1), .second, .val (.long p2), .second, .val (.ref a_SELL), .val (.int md), .val (.long b0), .second, .val (.int (1 : Int32)), .val (.int (1 : Int32)), .unset] [(.long p1), (.long b0), (.ref a_BUY)])) (fun t k => XT.lloadN X34.here hx rfl (hb hby at_130) rfl k) ?_
      obtain ⟨T35, X35, e35, k35⟩ := own_callV X34 hx hZ (C := "com/example/sevan_exchange/sevanexchange/engine/Side") (y := (⟨"com/example/sevan_exchange/sevanexchange/engine/Side", "crosses", "(JJ)Z"⟩ : MethodName)) (W := 0) hown (hw _ (List.mem_of_getElem? (i := 3) rfl)) (hw _ (List.mem_of_getElem? (i := 4) rfl)) (hw _ (List.mem_of_getElem? (i := 6) rfl)) (hw _ (List.mem_of_getElem? (i := 5) rfl)) (hw _ (List.mem_of_getElem? (i := 7) rfl)) (hw _ (List.mem_of_getElem? (i := 1) rfl)) (by decide) (own_cr_a_BUY_z l Z a0 hw h0 H b0 p1 ca) e34 X_BUY (by decide) (by decide) (g := (mkF m 131 #[.val (.int p0), .val (.long p1), .second, .val (.long p2), .second, .val (.ref a_SELL), .val (.int md), .val (.long b0), .second, .val (.int (1 : Int32)), .val (.int (1 : Int32)), .unset] [(.long p1), (.long b0), (.ref a_BUY)])) rfl (by rw [hml]; rfl) (argsL := [(.long b0), (.long p1)]) (rest := []) (lenOf (show parseMethodDescriptor "(JJ)Z" = some ⟨[.long, .long], some .boolean⟩ by decide +kernel) rfl) rfl (by show 2 * 0 + _ ≤ _; exact Nat.le_of_eq rfl) (hb hby at_131)
      refine own_Fin.back (S' := T35.setTop (mkF m 134 #[.val (.int p0), .val (.long p1), .second, .val (.long p2), .second, .val (.ref a_SELL), .val (.int md), .val (.long b0), .second, .val (.int (1 : Int32)), .val (.int (1 : Int32)), .unset] [(.int (1 : Int32))])) k35 ?_
      refine own_Fin.back (S' := T35.setTop (mkF m 136 #[.val (.int p0), .val (.long p1), .second, .val (.long p2), .second, .val (.ref a_SELL), .val (.int md), .val (.long b0), .second, .val (.int (1 : Int32)), .val (.int (1 : Int32)), .val (.int (1 : Int32))] [])) (fun t k => XS.istore X35.here hx rfl (hb hby at_134) rfl (l' := #[.val (.int p0), .val (.long p1), .second, .val (.long p2), .second, .val (.ref a_SELL), .val (.int md), .val (.long b0), .second, .val (.int (1 : Int32)), .val (.int (1 : Int32)), .val (.int (1 : Int32))]) rfl k) ?_
      refine own_Fin.back (S' := T35.setTop (mkF m 138 #[.val (.int p0), .val (.long p1), .second, .val (.long p2), .second, .val (.ref a_SELL), .val (.int md), .val (.long b0), .second, .val (.int (1 : Int32)), .val (.int (1 : Int32)), .val (.int (1 : Int32))] [(.int (1 : Int32))])) (fun t k => XS.iload X35.here hx rfl (hb hby at_136) rfl k) ?_
      refine own_Fin.back (S' := T35.setTop (mkF m 140 #[.val (.int p0), .val (.long p1), .second, .val (.long p2), .second, .val (.ref a_SELL), .val (.int md), .val (.long b0), .second, .val (.int (1 : Int32)), .val (.int (1 : Int32)), .val (.int (1 : Int32))] [(.int (1 : Int32)), (.int (1 : Int32))])) (fun t k => XS.iload X35.here hx rfl (hb hby at_138) rfl k) ?_
      refine own_Fin.back (S' := T35.setTop (mkF m 143 #[.val (.int p0), .val (.long p1), .second, .val (.long p2), .second, .val (.ref a_SELL), .val (.int md), .val (.long b0), .second, .val (.int (1 : Int32)), .val (.int (1 : Int32)), .val (.int (1 : Int32))] [])) (fun t k => XS.icmpNo X35.here hx rfl (hb hby at_140) rfl (by decide) k) ?_
      refine own_Fin.back (S' := T35.setTop (mkF m 145 #[.val (.int p0), .val (.long p1), .second, .val (.long p2), .second, .val (.ref a_SELL), .val (.int md), .val (.long b0), .second, .val (.int (1 : Int32)), .val (.int (1 : Int32)), .val (.int (1 : Int32))] [(.int (1 : Int32))])) (fun t k => XS.iload X35.here hx rfl (hb hby at_143) rfl k) ?_
      refine own_Fin.back (S' := T35.setTop (mkF m 147 #[.val (.int p0), .val (.long p1), .second, .val (.long p2), .second, .val (.ref a_SELL), .val (.int md), .val (.long b0), .second, .val (.int (1 : Int32)), .val (.int (1 : Int32)), .val (.int (1 : Int32))] [(.int (1 : Int32)), (.int (1 : Int32))])) (fun t k => XS.iload X35.here hx rfl (hb hby at_145) rfl k) ?_
      refine own_Fin.back (S' := T35.setTop (mkF m 150 #[.val (.int p0), .val (.long p1), .second, .val (.long p2), .second, .val (.ref a_SELL), .val (.int md), .val (.long b0), .second, .val (.int (1 : Int32)), .val (.int (1 : Int32)), .val (.int (1 : Int32))] [])) (fun t k => XS.icmpNo X35.here hx rfl (hb hby at_147) rfl (by decide) k) ?_
      refine own_Fin.back (S' := T35.setTop (mkF m 151 #[.val (.int p0), .val (.long p1), .second, .val (.long p2), .second, .val (.ref a_SELL), .val (.int md), .val (.long b0), .second, .val (.int (1 : Int32)), .val (.int (1 : Int32)), .val (.int (1 : Int32))] [(.int (1 : Int32))])) (fun t k => XS.iconst X35.here hx rfl (hb hby at_150) k) ?_
      refine own_Fin.back (S' := T35.setTop (mkF m 155 #[.val (.int p0), .val (.long p1), .second, .val (.long p2), .second, .val (.ref a_SELL), .val (.int md), .val (.long b0), .second, .val (.int (1 : Int32)), .val (.int (1 : Int32)), .val (.int (1 : Int32))] [(.int (1 : Int32))])) (fun t k => XS.goto X35.here hx rfl (pc0 := 151) (pc' := 155) rfl (hb hby at_151) (by decide) (by decide) k) ?_
      exact ⟨T35, X35, e35, fun fs hr => retOut X35 hx (w := (.int (1 : Int32))) (t := .boolean) hret (by first | rfl | decide) (Or.inl ⟨rfl, Or.inr (Or.inl rfl), _, rfl⟩) (hb hby at_155) hr⟩
    · refine own_Fin.back (S' := T1000.setTop (mkF m 68 #[.val (.int p0), .val (.long p1), .second, .val (.long p2), .second, .val (.ref a_SELL), .val (.int md), .val (.long b0), .second, .unset, .unset, .unset] [(.ref a_SELL)])) (fun t k => XS.aload X1000.here hx rfl (hb hby at_66) rfl rfl k) ?_
      refine own_Fin.back (S' := T1000.setTop (mkF m 69 #[.val (.int p0), .val (.long p1), .second, .val (.long p2), .second, .val (.ref a_SELL), .val (.int md), .val (.long b0), .second, .unset, .unset, .unset] [(.long p1), (.ref a_SELL)])) (fun t k => XT.lloadN X1000.here hx rfl (hb hby at_68) rfl k) ?_
      refine own_Fin.back (S' := T1000.setTop (mkF m 71 #[.val (.int p0), .val (.long p1), .second, .val (.long p2), .second, .val (.ref a_SELL), .val (.int md), .val (.long b0), .second, .unset, .unset, .unset] [(.long b0), (.long p1), (.ref a_SELL)])) (fun t k => XT.lload X1000.here hx rfl (hb hby at_69) rfl k) ?_
      obtain ⟨T36, X36, e36, k36⟩ := own_callV X1000 hx hZ (C := "com/example/sevan_exchange/sevanexchange/engine/Side") (y := (⟨"com/example/sevan_exchange/sevanexchange/engine/Side", "crosses", "(JJ)Z"⟩ : MethodName)) (W := 0) hown (hw _ (List.mem_of_getElem? (i := 3) rfl)) (hw _ (List.mem_of_getElem? (i := 4) rfl)) (hw _ (List.mem_of_getElem? (i := 6) rfl)) (hw _ (List.mem_of_getElem? (i := 5) rfl)) (hw _ (List.mem_of_getElem? (i := 7) rfl)) (hw _ (List.mem_of_getElem? (i := 1) rfl)) (by decide) (own_cr_a_SELL_m l Z a0 hw h0 H p1 b0 cb) e1000 X_SELL (by decide) (by decide) (g := (mkF m 71 #[.val (.int p0), .val (.long p1), .second, .val (.long p2), .second, .val (.ref a_SELL), .val (.int md), .val (.long b0), .second, .unset, .unset, .unset] [(.long b0), (.long p1), (.ref a_SELL)])) rfl (by rw [hml]; rfl) (argsL := [(.long p1), (.long b0)]) (rest := []) (lenOf (show parseMethodDescriptor "(JJ)Z" = some ⟨[.long, .long], some .boolean⟩ by decide +kernel) rfl) rfl (by show 2 * 0 + _ ≤ _; exact Nat.le_of_eq rfl) (hb hby at_71)
      refine own_Fin.back (S' := T36.setTop (mkF m 74 #[.val (.int p0), .val (.long p1), .second, .val (.long p2), .second, .val (.ref a_SELL), .val (.int md), .val (.long b0), .second, .unset, .unset, .unset] [(.int (0 : Int32))])) k36 ?_
      refine own_Fin.back (S' := T36.setTop (mkF m 76 #[.val (.int p0), .val (.long p1), .second, .val (.long p2), .second, .val (.ref a_SELL), .val (.int md), .val (.long b0), .second, .val (.int (0 : Int32)), .unset, .unset] [])) (fun t k => XS.istore X36.here hx rfl (hb hby at_74) rfl (l' := #[.val (.int p0), .val (.long p1), .second, .val (.long p2), .second, .val (.ref a_SELL), .val (.int md), .val (.long b0), .second, .val (.int (0 : Int32)), .unset, .unset]) rfl k) ?_
      refine own_Fin.back (S' := T36.setTop (mkF m 78 #[.val (.int p0), .val (.long p1), .second, .val (.long p2), .second, .val (.ref a_SELL), .val (.int md), .val (.long b0), .second, .val (.int (0 : Int32)), .unset, .unset] [(.ref a_SELL)])) (fun t k => XS.aload X36.here hx rfl (hb hby at_76) rfl rfl k) ?_
      obtain ⟨T37, X37, e37, k37⟩ := getS X36 hx hZ hown (host := "") (hw _ (List.mem_of_getElem? (i := 10) rfl)) Via.refl e36 S_BUY (g := (mkF m 78 #[.val (.int p0), .val (.long p1), .second, .val (.long p2), .second, .val (.ref a_SELL), .val (.int md), .val (.long b0), .second, .val (.int (0 : Int32)), .unset, .unset] [(.ref a_SELL)])) rfl (hb hby at_78)
      refine own_Fin.back (S' := T37.setTop (mkF m 81 #[.val (.int p0), .val (.long p1), .second, .val (.long p2), .second, .val (.ref a_SELL), .val (.int md), .val (.long b0), .second, .val (.int (0 : Int32)), .unset, .unset] [(.ref a_BUY), (.ref a_SELL)])) k37 ?_
      refine own_Fin.back (S' := T37.setTop (mkF m 105 #[.val (.int p0), .val (.long p1), .second, .val (.long p2), .second, .val (.ref a_SELL), .val (.int md), .val (.long b0), .second, .val (.int (0 : Int32)), .unset, .unset] [])) (fun t k => XT.acmpYes X37.here hx rfl (pc0 := 81) (pc' := 105) rfl (hb hby at_81) rfl rfl rfl (own_acmp_diff D_SELL_BUY).2 (by decide) (by decide) k) ?_
      refine own_Fin.back (S' := T37.setTop (mkF m 106 #[.val (.int p0), .val (.long p1), .second, .val (.long p2), .second, .val (.ref a_SELL), .val (.int md), .val (.long b0), .second, .val (.int (0 : Int32)), .unset, .unset] [(.long p1)])) (fun t k => XT.lloadN X37.here hx rfl (hb hby at_105) rfl k) ?_
      refine own_Fin.back (S' := T37.setTop (mkF m 108 #[.val (.int p0), .val (.long p1), .second, .val (.long p2), .second, .val (.ref a_SELL), .val (.int md), .val (.long b0), .second, .val (.int (0 : Int32)), .unset, .unset] [(.long b0), (.long p1)])) (fun t k => XT.lload X37.here hx rfl (hb hby at_106) rfl k) ?_
      obtain ⟨T38, X38, e38, k38⟩ := own_callS X37 hx hZ (y := (⟨"java/lang/Math", "min", "(JJ)J"⟩ : MethodName)) (W := 0) hown (hw _ (List.mem_of_getElem? (i := 11) rfl)) (hw _ (List.mem_of_getElem? (i := 12) rfl)) (hw _ (List.mem_of_getElem? (i := 13) rfl)) (hw _ (List.mem_of_getElem? (i := 14) rfl)) (by decide) (own_min_p l Z a0 hw h0 H p1 b0 ca) e37 (by decide) (by decide) (g := (mkF m 108 #[.val (.int p0), .val (.long p1), .second, .val (.long p2), .second, .val (.ref a_SELL), .val (.int md), .val (.long b0), .second, .val (.int (0 : Int32)), .unset, .unset] [(.long b0), (.long p1)])) rfl (by rw [hml]; rfl) (argsL := [(.long p1), (.long b0)]) (rest := []) (lenOf (show parseMethodDescriptor "(JJ)J" = some ⟨[.long, .long], some .long⟩ by decide +kernel) rfl) rfl (by show 2 * 0 + _ ≤ _; exact Nat.le_of_eq rfl) (hb hby at_108)
      refine own_Fin.back (S' := T38.setTop (mkF m 111 #[.val (.int p0), .val (.long p1), .second, .val (.long p2), .second, .val (.ref a_SELL), .val (.int md), .val (.long b0), .second, .val (.int (0 : Int32)), .unset, .unset] [(.long b0)])) k38 ?_
      refine own_Fin.back (S' := T38.setTop (mkF m 112 #[.val (.int p0), .val (.long p1), .second, .val (.long p2), .second, .val (.ref a_SELL), .val (.int md), .val (.long b0), .second, .val (.int (0 : Int32)), .unset, .unset] [(.long p1), (.long b0)])) (fun t k => XT.lloadN X38.here hx rfl (hb hby at_111) rfl k) ?_
      refine own_Fin.back (S' := T38.setTop (mkF m 113 #[.val (.int p0), .val (.long p1), .second, .val (.long p2), .second, .val (.ref a_SELL), .val (.int md), .val (.long b0), .second, .val (.int (0 : Int32)), .unset, .unset] [(.int (XT.cmpL b0 p1))])) (fun t k => XT.lcmp X38.here hx rfl (hb hby at_112) rfl k) ?_
      refine own_Fin.back (S' := T38.setTop (mkF m 120 #[.val (.int p0), .val (.long p1), .second, .val (.long p2), .second, .val (.ref a_SELL), .val (.int md), .val (.long b0), .second, .val (.int (0 : Int32)), .unset, .unset] [])) (fun t k => XS.ifYes X38.here hx rfl (pc0 := 113) (pc' := 120) rfl (hb hby at_113) rfl (by rw [cb]; first | done | decide) (by decide) (by decide) k) ?_
      refine own_Fin.back (S' := T38.setTop (mkF m 121 #[.val (.int p0), .val (.long p1), .second, .val (.long p2), .second, .val (.ref a_SELL), .val (.int md), .val (.long b0), .second, .val (.int (0 : Int32)), .unset, .unset] [(.int (0 : Int32))])) (fun t k => XS.iconst X38.here hx rfl (hb hby at_120) k) ?_
      refine own_Fin.back (S' := T38.setTop (mkF m 123 #[.val (.int p0), .val (.long p1), .second, .val (.long p2), .second, .val (.ref a_SELL), .val (.int md), .val (.long b0), .second, .val (.int (0 : Int32)), .val (.int (0 : Int32)), .unset] [])) (fun t k => XS.istore X38.here hx rfl (hb hby at_121) rfl (l' := #[.val (.int p0), .val (.long p1), .second, .val (.long p2), .second, .val (.ref a_SELL), .val (.int md), .val (.long b0), .second, .val (.int (0 : Int32)), .val (.int (0 : Int32)), .unset]) rfl k) ?_
      refine own_Fin.back (S' := T38.setTop (mkF m 125 #[.val (.int p0), .val (.long p1), .second, .val (.long p2), .second, .val (.ref a_SELL), .val (.int md), .val (.long b0), .second, .val (.int (0 : Int32)), .val (.int (0 : Int32)), .unset] [(.ref a_SELL)])) (fun t k => XS.aload X38.here hx rfl (hb hby at_123) rfl rfl k) ?_
      obtain ⟨T39, X39, e39, k39⟩ := own_callV X38 hx hZ (C := "com/example/sevan_exchange/sevanexchange/engine/Side") (y := (⟨"com/example/sevan_exchange/sevanexchange/engine/Side", "opposite", "()Lcom/example/sevan_exchange/sevanexchange/engine/Side;"⟩ : MethodName)) (W := 0) hown (hw _ (List.mem_of_getElem? (i := 15) rfl)) (hw _ (List.mem_of_getElem? (i := 16) rfl)) (hw _ (List.mem_of_getElem? (i := 18) rfl)) (hw _ (List.mem_of_getElem? (i := 17) rfl)) (hw _ (List.mem_of_getElem? (i := 19) rfl)) (hw _ (List.mem_of_getElem? (i := 1) rfl)) (by decide) (own_opp_a_SELL l Z a0 hw h0 H) e38 X_SELL (by decide) (by decide) (g := (mkF m 125 #[.val (.int p0), .val (.long p1), .second, .val (.long p2), .second, .val (.ref a_SELL), .val (.int md), .val (.long b0), .second, .val (.int (0 : Int32)), .val (.int (0 : Int32)), .unset] [(.ref a_SELL)])) rfl (by rw [hml]; rfl) (argsL := []) (rest := []) (lenOf (show parseMethodDescriptor "()Lcom/example/sevan_exchange/sevanexchange/engine/Side;" = some ⟨[], some (.object "com/example/sevan_exchange/sevanexchange/engine/Side")⟩ by decide +kernel) rfl) rfl (by show 2 * 0 + _ ≤ _; exact Nat.le_of_eq rfl) (hb hby at_125)
      refine own_Fin.back (S' := T39.setTop (mkF m 128 #[.val (.int p0), .val (.long p1), .second, .val (.long p2), .second, .val (.ref a_SELL), .val (.int md), .val (.long b0), .second, .val (.int (0 : Int32)), .val (.int (0 : Int32)), .unset] [(.ref a_BUY)])) k39 ?_
      refine own_Fin.back (S' := T39.setTop (mkF m 130 #[.val (.int p0), .val (.long p1), .second, .val (.long p2), .second, .val (.ref a_SELL), .val (.int md), .val (.long b0), .second, .val (.int (0 : Int32)), .val (.int (0 : Int32)), .unset] [(.long b0), (.ref a_BUY)])) (fun t k => XT.lload X39.here hx rfl (hb hby at_128) rfl k) ?_
      refine own_Fin.back (S' := T39.setTop (mkF m 131 #[.val (.int p0), .val (.long p1), .second, .val (.long p2), .second, .val (.ref a_SELL), .val (.int md), .val (.long b0), .second, .val (.int (0 : Int32)), .val (.int (0 : Int32)), .unset] [(.long p1), (.long b0), (.ref a_BUY)])) (fun t k => XT.lloadN X39.here hx rfl (hb hby at_130) rfl k) ?_
      obtain ⟨T40, X40, e40, k40⟩ := own_callV X39 hx hZ (C := "com/example/sevan_exchange/sevanexchange/engine/Side") (y := (⟨"com/example/sevan_exchange/sevanexchange/engine/Side", "crosses", "(JJ)Z"⟩ : MethodName)) (W := 0) hown (hw _ (List.mem_of_getElem? (i := 3) rfl)) (hw _ (List.mem_of_getElem? (i := 4) rfl)) (hw _ (List.mem_of_getElem? (i := 6) rfl)) (hw _ (List.mem_of_getElem? (i := 5) rfl)) (hw _ (List.mem_of_getElem? (i := 7) rfl)) (hw _ (List.mem_of_getElem? (i := 1) rfl)) (by decide) (own_cr_a_BUY_p l Z a0 hw h0 H b0 p1 ca) e39 X_BUY (by decide) (by decide) (g := (mkF m 131 #[.val (.int p0), .val (.long p1), .second, .val (.long p2), .second, .val (.ref a_SELL), .val (.int md), .val (.long b0), .second, .val (.int (0 : Int32)), .val (.int (0 : Int32)), .unset] [(.long p1), (.long b0), (.ref a_BUY)])) rfl (by rw [hml]; rfl) (argsL := [(.long b0), (.long p1)]) (rest := []) (lenOf (show parseMethodDescriptor "(JJ)Z" = some ⟨[.long, .long], some .boolean⟩ by decide +kernel) rfl) rfl (by show 2 * 0 + _ ≤ _; exact Nat.le_of_eq rfl) (hb hby at_131)
      refine own_Fin.back (S' := T40.setTop (mkF m 134 #[.val (.int p0), .val (.long p1), .second, .val (.long p2), .second, .val (.ref a_SELL), .val (.int md), .val (.long b0), .second, .val (.int (0 : Int32)), .val (.int (0 : Int32)), .unset] [(.int (0 : Int32))])) k40 ?_
      refine own_Fin.back (S' := T40.setTop (mkF m 136 #[.val (.int p0), .val (.long p1), .second, .val (.long p2), .second, .val (.ref a_SELL), .val (.int md), .val (.long b0), .second, .val (.int (0 : Int32)), .val (.int (0 : Int32)), .val (.int (0 : Int32))] [])) (fun t k => XS.istore X40.here hx rfl (hb hby at_134) rfl (l' := #[.val (.int p0), .val (.long p1), .second, .val (.long p2), .second, .val (.ref a_SELL), .val (.int md), .val (.long b0), .second, .val (.int (0 : Int32)), .val (.int (0 : Int32)), .val (.int (0 : Int32))]) rfl k) ?_
      refine own_Fin.back (S' := T40.setTop (mkF m 138 #[.val (.int p0), .val (.long p1), .second, .val (.long p2), .second, .val (.ref a_SELL), .val (.int md), .val (.long b0), .second, .val (.int (0 : Int32)), .val (.int (0 : Int32)), .val (.int (0 : Int32))] [(.int (0 : Int32))])) (fun t k => XS.iload X40.here hx rfl (hb hby at_136) rfl k) ?_
      refine own_Fin.back (S' := T40.setTop (mkF m 140 #[.val (.int p0), .val (.long p1), .second, .val (.long p2), .second, .val (.ref a_SELL), .val (.int md), .val (.long b0), .second, .val (.int (0 : Int32)), .val (.int (0 : Int32)), .val (.int (0 : Int32))] [(.int (0 : Int32)), (.int (0 : Int32))])) (fun t k => XS.iload X40.here hx rfl (hb hby at_138) rfl k) ?_
      refine own_Fin.back (S' := T40.setTop (mkF m 143 #[.val (.int p0), .val (.long p1), .second, .val (.long p2), .second, .val (.ref a_SELL), .val (.int md), .val (.long b0), .second, .val (.int (0 : Int32)), .val (.int (0 : Int32)), .val (.int (0 : Int32))] [])) (fun t k => XS.icmpNo X40.here hx rfl (hb hby at_140) rfl (by decide) k) ?_
      refine own_Fin.back (S' := T40.setTop (mkF m 145 #[.val (.int p0), .val (.long p1), .second, .val (.long p2), .second, .val (.ref a_SELL), .val (.int md), .val (.long b0), .second, .val (.int (0 : Int32)), .val (.int (0 : Int32)), .val (.int (0 : Int32))] [(.int (0 : Int32))])) (fun t k => XS.iload X40.here hx rfl (hb hby at_143) rfl k) ?_
      refine own_Fin.back (S' := T40.setTop (mkF m 147 #[.val (.int p0), .val (.long p1), .second, .val (.long p2), .second, .val (.ref a_SELL), .val (.int md), .val (.long b0), .second, .val (.int (0 : Int32)), .val (.int (0 : Int32)), .val (.int (0 : Int32))] [(.int (0 : Int32)), (.int (0 : Int32))])) (fun t k => XS.iload X40.here hx rfl (hb hby at_145) rfl k) ?_
      refine own_Fin.back (S' := T40.setTop (mkF m 150 #[.val (.int p0), .val (.long p1), .second, .val (.long p2), .second, .val (.ref a_SELL), .val (.int md), .val (.long b0), .second, .val (.int (0 : Int32)), .val (.int (0 : Int32)), .val (.int (0 : Int32))] [])) (fun t k => XS.icmpNo X40.here hx rfl (hb hby at_147) rfl (by decide) k) ?_
      refine own_Fin.back (S' := T40.setTop (mkF m 151 #[.val (.int p0), .val (.long p1), .second, .val (.long p2), .second, .val (.ref a_SELL), .val (.int md), .val (.long b0), .second, .val (.int (0 : Int32)), .val (.int (0 : Int32)), .val (.int (0 : Int32))] [(.int (1 : Int32))])) (fun t k => XS.iconst X40.here hx rfl (hb hby at_150) k) ?_
      refine own_Fin.back (S' := T40.setTop (mkF m 155 #[.val (.int p0), .val (.long p1), .second, .val (.long p2), .second, .val (.ref a_SELL), .val (.int md), .val (.long b0), .second, .val (.int (0 : Int32)), .val (.int (0 : Int32)), .val (.int (0 : Int32))] [(.int (1 : Int32))])) (fun t k => XS.goto X40.here hx rfl (pc0 := 151) (pc' := 155) rfl (hb hby at_151) (by decide) (by decide) k) ?_
      exact ⟨T40, X40, e40, fun fs hr => retOut X40 hx (w := (.int (1 : Int32))) (t := .boolean) hret (by first | rfl | decide) (Or.inl ⟨rfl, Or.inr (Or.inl rfl), _, rfl⟩) (hb hby at_155) hr⟩
  refine own_Fin.back (S' := T0.setTop (mkF m 1 #[.val (.int p0), .val (.long p1), .second, .val (.long p2), .second, .unset, .unset, .unset, .unset, .unset, .unset, .unset] [(.int p0)])) (fun t k => XS.iloadN X0.here hx rfl (hb hby at_0) rfl k) ?_
  refine own_Fin.back (S' := T0.setTop (mkF m 2 #[.val (.int p0), .val (.long p1), .second, .val (.long p2), .second, .unset, .unset, .unset, .unset, .unset, .unset, .unset] [(.int (1 : Int32)), (.int p0)])) (fun t k => XS.iconst X0.here hx rfl (hb hby at_1) k) ?_
  refine own_Fin.back (S' := T0.setTop (mkF m 3 #[.val (.int p0), .val (.long p1), .second, .val (.long p2), .second, .unset, .unset, .unset, .unset, .unset, .unset, .unset] [(.int (p0 &&& (1 : Int32)))])) (fun t k => XS.iand X0.here hx rfl (hb hby at_2) rfl k) ?_
  rcases hc41 : ifCond.holds .eq (p0 &&& (1 : Int32)) with _ | _
  · refine own_Fin.back (S' := T0.setTop (mkF m 6 #[.val (.int p0), .val (.long p1), .second, .val (.long p2), .second, .unset, .unset, .unset, .unset, .unset, .unset, .unset] [])) (fun t k => XS.ifNo X0.here hx rfl (hb hby at_3) rfl hc41 k) ?_
    obtain ⟨T42, X42, e42, k42⟩ := getS X0 hx hZ hown (host := "") (hw _ (List.mem_of_getElem? (i := 10) rfl)) Via.refl e0 S_BUY (g := (mkF m 6 #[.val (.int p0), .val (.long p1), .second, .val (.long p2), .second, .unset, .unset, .unset, .unset, .unset, .unset, .unset] [])) rfl (hb hby at_6)
    refine own_Fin.back (S' := T42.setTop (mkF m 9 #[.val (.int p0), .val (.long p1), .second, .val (.long p2), .second, .unset, .unset, .unset, .unset, .unset, .unset, .unset] [(.ref a_BUY)])) k42 ?_
    refine own_Fin.back (S' := T42.setTop (mkF m 15 #[.val (.int p0), .val (.long p1), .second, .val (.long p2), .second, .unset, .unset, .unset, .unset, .unset, .unset, .unset] [(.ref a_BUY)])) (fun t k => XS.goto X42.here hx rfl (pc0 := 9) (pc' := 15) rfl (hb hby at_9) (by decide) (by decide) k) ?_
    refine own_Fin.back (S' := T42.setTop (mkF m 17 #[.val (.int p0), .val (.long p1), .second, .val (.long p2), .second, .val (.ref a_BUY), .unset, .unset, .unset, .unset, .unset, .unset] [])) (fun t k => XS.astore X42.here hx rfl (hb hby at_15) rfl rfl (l' := #[.val (.int p0), .val (.long p1), .second, .val (.long p2), .second, .val (.ref a_BUY), .unset, .unset, .unset, .unset, .unset, .unset]) rfl k) ?_
    refine own_Fin.back (S' := T42.setTop (mkF m 18 #[.val (.int p0), .val (.long p1), .second, .val (.long p2), .second, .val (.ref a_BUY), .unset, .unset, .unset, .unset, .unset, .unset] [(.int p0)])) (fun t k => XS.iloadN X42.here hx rfl (hb hby at_17) rfl k) ?_
    refine own_Fin.back (S' := T42.setTop (mkF m 19 #[.val (.int p0), .val (.long p1), .second, .val (.long p2), .second, .val (.ref a_BUY), .unset, .unset, .unset, .unset, .unset, .unset] [(.int (1 : Int32)), (.int p0)])) (fun t k => XS.iconst X42.here hx rfl (hb hby at_18) k) ?_
    refine own_Fin.back (S' := T42.setTop (mkF m 20 #[.val (.int p0), .val (.long p1), .second, .val (.long p2), .second, .val (.ref a_BUY), .unset, .unset, .unset, .unset, .unset, .unset] [(.int (XT.ushr p0 (1 : Int32)))])) (fun t k => XT.iushr X42.here hx rfl (hb hby at_19) rfl k) ?_
    refine own_Fin.back (S' := T42.setTop (mkF m 21 #[.val (.int p0), .val (.long p1), .second, .val (.long p2), .second, .val (.ref a_BUY), .unset, .unset, .unset, .unset, .unset, .unset] [(.int (3 : Int32)), (.int (XT.ushr p0 (1 : Int32)))])) (fun t k => XS.iconst X42.here hx rfl (hb hby at_20) k) ?_
    refine own_Fin.back (S' := T42.setTop (mkF m 22 #[.val (.int p0), .val (.long p1), .second, .val (.long p2), .second, .val (.ref a_BUY), .unset, .unset, .unset, .unset, .unset, .unset] [(.int ((XT.ushr p0 (1 : Int32)) &&& (3 : Int32)))])) (fun t k => XS.iand X42.here hx rfl (hb hby at_21) rfl k) ?_
    refine own_Fin.back (S' := T42.setTop (mkF m 24 #[.val (.int p0), .val (.long p1), .second, .val (.long p2), .second, .val (.ref a_BUY), .val (.int ((XT.ushr p0 (1 : Int32)) &&& (3 : Int32))), .unset, .unset, .unset, .unset, .unset] [])) (fun t k => XS.istore X42.here hx rfl (hb hby at_22) rfl (l' := #[.val (.int p0), .val (.long p1), .second, .val (.long p2), .second, .val (.ref a_BUY), .val (.int ((XT.ushr p0 (1 : Int32)) &&& (3 : Int32))), .unset, .unset, .unset, .unset, .unset]) rfl k) ?_
    refine own_Fin.back (S' := T42.setTop (mkF m 26 #[.val (.int p0), .val (.long p1), .second, .val (.long p2), .second, .val (.ref a_BUY), .val (.int ((XT.ushr p0 (1 : Int32)) &&& (3 : Int32))), .unset, .unset, .unset, .unset, .unset] [(.int ((XT.ushr p0 (1 : Int32)) &&& (3 : Int32)))])) (fun t k => XS.iload X42.here hx rfl (hb hby at_24) rfl k) ?_
    rcases hc43 : ifCond.holds .ne ((XT.ushr p0 (1 : Int32)) &&& (3 : Int32)) with _ | _
    · refine own_Fin.back (S' := T42.setTop (mkF m 29 #[.val (.int p0), .val (.long p1), .second, .val (.long p2), .second, .val (.ref a_BUY), .val (.int ((XT.ushr p0 (1 : Int32)) &&& (3 : Int32))), .unset, .unset, .unset, .unset, .unset] [])) (fun t k => XS.ifNo X42.here hx rfl (hb hby at_26) rfl hc43 k) ?_
      refine own_Fin.back (S' := T42.setTop (mkF m 30 #[.val (.int p0), .val (.long p1), .second, .val (.long p2), .second, .val (.ref a_BUY), .val (.int ((XT.ushr p0 (1 : Int32)) &&& (3 : Int32))), .unset, .unset, .unset, .unset, .unset] [(.long p2)])) (fun t k => XT.lloadN X42.here hx rfl (hb hby at_29) rfl k) ?_
      refine own_Fin.back (S' := T42.setTop (mkF m 32 #[.val (.int p0), .val (.long p1), .second, .val (.long p2), .second, .val (.ref a_BUY), .val (.int ((XT.ushr p0 (1 : Int32)) &&& (3 : Int32))), .val (.long p2), .second, .unset, .unset, .unset] [])) (fun t k => XT.lstore X42.here hx rfl (hb hby at_30) rfl (l' := #[.val (.int p0), .val (.long p1), .second, .val (.long p2), .second, .val (.ref a_BUY), .val (.int ((XT.ushr p0 (1 : Int32)) &&& (3 : Int32))), .val (.long p2), .second, .unset, .unset, .unset]) rfl k) ?_
      refine own_Fin.back (S' := T42.setTop (mkF m 66 #[.val (.int p0), .val (.long p1), .second, .val (.long p2), .second, .val (.ref a_BUY), .val (.int ((XT.ushr p0 (1 : Int32)) &&& (3 : Int32))), .val (.long p2), .second, .unset, .unset, .unset] [])) (fun t k => XS.goto X42.here hx rfl (pc0 := 32) (pc' := 66) rfl (hb hby at_32) (by decide) (by decide) k) ?_
      exact sufB T42 X42 e42 _ _
    · refine own_Fin.back (S' := T42.setTop (mkF m 35 #[.val (.int p0), .val (.long p1), .second, .val (.long p2), .second, .val (.ref a_BUY), .val (.int ((XT.ushr p0 (1 : Int32)) &&& (3 : Int32))), .unset, .unset, .unset, .unset, .unset] [])) (fun t k => XS.ifYes X42.here hx rfl (pc0 := 26) (pc' := 35) rfl (hb hby at_26) rfl hc43 (by decide) (by decide) k) ?_
      refine own_Fin.back (S' := T42.setTop (mkF m 37 #[.val (.int p0), .val (.long p1), .second, .val (.long p2), .second, .val (.ref a_BUY), .val (.int ((XT.ushr p0 (1 : Int32)) &&& (3 : Int32))), .unset, .unset, .unset, .unset, .unset] [(.int ((XT.ushr p0 (1 : Int32)) &&& (3 : Int32)))])) (fun t k => XS.iload X42.here hx rfl (hb hby at_35) rfl k) ?_
      refine own_Fin.back (S' := T42.setTop (mkF m 38 #[.val (.int p0), .val (.long p1), .second, .val (.long p2), .second, .val (.ref a_BUY), .val (.int ((XT.ushr p0 (1 : Int32)) &&& (3 : Int32))), .unset, .unset, .unset, .unset, .unset] [(.int (1 : Int32)), (.int ((XT.ushr p0 (1 : Int32)) &&& (3 : Int32)))])) (fun t k => XS.iconst X42.here hx rfl (hb hby at_37) k) ?_
      rcases hc44 : if_icmp.holds .ne ((XT.ushr p0 (1 : Int32)) &&& (3 : Int32)) (1 : Int32) with _ | _
      · refine own_Fin.back (S' := T42.setTop (mkF m 41 #[.val (.int p0), .val (.long p1), .second, .val (.long p2), .second, .val (.ref a_BUY), .val (.int ((XT.ushr p0 (1 : Int32)) &&& (3 : Int32))), .unset, .unset, .unset, .unset, .unset] [])) (fun t k => XS.icmpNo X42.here hx rfl (hb hby at_38) rfl hc44 k) ?_
        refine own_Fin.back (S' := T42.setTop (mkF m 42 #[.val (.int p0), .val (.long p1), .second, .val (.long p2), .second, .val (.ref a_BUY), .val (.int ((XT.ushr p0 (1 : Int32)) &&& (3 : Int32))), .unset, .unset, .unset, .unset, .unset] [(.long p1)])) (fun t k => XT.lloadN X42.here hx rfl (hb hby at_41) rfl k) ?_
        refine own_Fin.back (S' := T42.setTop (mkF m 44 #[.val (.int p0), .val (.long p1), .second, .val (.long p2), .second, .val (.ref a_BUY), .val (.int ((XT.ushr p0 (1 : Int32)) &&& (3 : Int32))), .val (.long p1), .second, .unset, .unset, .unset] [])) (fun t k => XT.lstore X42.here hx rfl (hb hby at_42) rfl (l' := #[.val (.int p0), .val (.long p1), .second, .val (.long p2), .second, .val (.ref a_BUY), .val (.int ((XT.ushr p0 (1 : Int32)) &&& (3 : Int32))), .val (.long p1), .second, .unset, .unset, .unset]) rfl k) ?_
        refine own_Fin.back (S' := T42.setTop (mkF m 66 #[.val (.int p0), .val (.long p1), .second, .val (.long p2), .second, .val (.ref a_BUY), .val (.int ((XT.ushr p0 (1 : Int32)) &&& (3 : Int32))), .val (.long p1), .second, .unset, .unset, .unset] [])) (fun t k => XS.goto X42.here hx rfl (pc0 := 44) (pc' := 66) rfl (hb hby at_44) (by decide) (by decide) k) ?_
        exact sufB T42 X42 e42 _ _
      · refine own_Fin.back (S' := T42.setTop (mkF m 47 #[.val (.int p0), .val (.long p1), .second, .val (.long p2), .second, .val (.ref a_BUY), .val (.int ((XT.ushr p0 (1 : Int32)) &&& (3 : Int32))), .unset, .unset, .unset, .unset, .unset] [])) (fun t k => XS.icmpYes X42.here hx rfl (pc0 := 38) (pc' := 47) rfl (hb hby at_38) rfl hc44 (by decide) (by decide) k) ?_
        refine own_Fin.back (S' := T42.setTop (mkF m 49 #[.val (.int p0), .val (.long p1), .second, .val (.long p2), .second, .val (.ref a_BUY), .val (.int ((XT.ushr p0 (1 : Int32)) &&& (3 : Int32))), .unset, .unset, .unset, .unset, .unset] [(.int ((XT.ushr p0 (1 : Int32)) &&& (3 : Int32)))])) (fun t k => XS.iload X42.here hx rfl (hb hby at_47) rfl k) ?_
        refine own_Fin.back (S' := T42.setTop (mkF m 50 #[.val (.int p0), .val (.long p1), .second, .val (.long p2), .second, .val (.ref a_BUY), .val (.int ((XT.ushr p0 (1 : Int32)) &&& (3 : Int32))), .unset, .unset, .unset, .unset, .unset] [(.int (2 : Int32)), (.int ((XT.ushr p0 (1 : Int32)) &&& (3 : Int32)))])) (fun t k => XS.iconst X42.here hx rfl (hb hby at_49) k) ?_
        rcases hc45 : if_icmp.holds .ne ((XT.ushr p0 (1 : Int32)) &&& (3 : Int32)) (2 : Int32) with _ | _
        · refine own_Fin.back (S' := T42.setTop (mkF m 53 #[.val (.int p0), .val (.long p1), .second, .val (.long p2), .second, .val (.ref a_BUY), .val (.int ((XT.ushr p0 (1 : Int32)) &&& (3 : Int32))), .unset, .unset, .unset, .unset, .unset] [])) (fun t k => XS.icmpNo X42.here hx rfl (hb hby at_50) rfl hc45 k) ?_
          refine own_Fin.back (S' := T42.setTop (mkF m 54 #[.val (.int p0), .val (.long p1), .second, .val (.long p2), .second, .val (.ref a_BUY), .val (.int ((XT.ushr p0 (1 : Int32)) &&& (3 : Int32))), .unset, .unset, .unset, .unset, .unset] [(.long p1)])) (fun t k => XT.lloadN X42.here hx rfl (hb hby at_53) rfl k) ?_
          refine own_Fin.back (S' := T42.setTop (mkF m 55 #[.val (.int p0), .val (.long p1), .second, .val (.long p2), .second, .val (.ref a_BUY), .val (.int ((XT.ushr p0 (1 : Int32)) &&& (3 : Int32))), .unset, .unset, .unset, .unset, .unset] [(.long (1 : Int64)), (.long p1)])) (fun t k => XT.lconstV X42.here hx rfl ((1 : Int64)) (hb hby at_54) (by decide) k) ?_
          refine own_Fin.back (S' := T42.setTop (mkF m 56 #[.val (.int p0), .val (.long p1), .second, .val (.long p2), .second, .val (.ref a_BUY), .val (.int ((XT.ushr p0 (1 : Int32)) &&& (3 : Int32))), .unset, .unset, .unset, .unset, .unset] [(.long (p1 + (1 : Int64)))])) (fun t k => XT.ladd X42.here hx rfl (hb hby at_55) rfl k) ?_
          refine own_Fin.back (S' := T42.setTop (mkF m 58 #[.val (.int p0), .val (.long p1), .second, .val (.long p2), .second, .val (.ref a_BUY), .val (.int ((XT.ushr p0 (1 : Int32)) &&& (3 : Int32))), .val (.long (p1 + (1 : Int64))), .second, .unset, .unset, .unset] [])) (fun t k => XT.lstore X42.here hx rfl (hb hby at_56) rfl (l' := #[.val (.int p0), .val (.long p1), .second, .val (.long p2), .second, .val (.ref a_BUY), .val (.int ((XT.ushr p0 (1 : Int32)) &&& (3 : Int32))), .val (.long (p1 + (1 : Int64))), .second, .unset, .unset, .unset]) rfl k) ?_
          refine own_Fin.back (S' := T42.setTop (mkF m 66 #[.val (.int p0), .val (.long p1), .second, .val (.long p2), .second, .val (.ref a_BUY), .val (.int ((XT.ushr p0 (1 : Int32)) &&& (3 : Int32))), .val (.long (p1 + (1 : Int64))), .second, .unset, .unset, .unset] [])) (fun t k => XS.goto X42.here hx rfl (pc0 := 58) (pc' := 66) rfl (hb hby at_58) (by decide) (by decide) k) ?_
          exact sufB T42 X42 e42 _ _
        · refine own_Fin.back (S' := T42.setTop (mkF m 61 #[.val (.int p0), .val (.long p1), .second, .val (.long p2), .second, .val (.ref a_BUY), .val (.int ((XT.ushr p0 (1 : Int32)) &&& (3 : Int32))), .unset, .unset, .unset, .unset, .unset] [])) (fun t k => XS.icmpYes X42.here hx rfl (pc0 := 50) (pc' := 61) rfl (hb hby at_50) rfl hc45 (by decide) (by decide) k) ?_
          refine own_Fin.back (S' := T42.setTop (mkF m 62 #[.val (.int p0), .val (.long p1), .second, .val (.long p2), .second, .val (.ref a_BUY), .val (.int ((XT.ushr p0 (1 : Int32)) &&& (3 : Int32))), .unset, .unset, .unset, .unset, .unset] [(.long p1)])) (fun t k => XT.lloadN X42.here hx rfl (hb hby at_61) rfl k) ?_
          refine own_Fin.back (S' := T42.setTop (mkF m 63 #[.val (.int p0), .val (.long p1), .second, .val (.long p2), .second, .val (.ref a_BUY), .val (.int ((XT.ushr p0 (1 : Int32)) &&& (3 : Int32))), .unset, .unset, .unset, .unset, .unset] [(.long (1 : Int64)), (.long p1)])) (fun t k => XT.lconstV X42.here hx rfl ((1 : Int64)) (hb hby at_62) (by decide) k) ?_
          refine own_Fin.back (S' := T42.setTop (mkF m 64 #[.val (.int p0), .val (.long p1), .second, .val (.long p2), .second, .val (.ref a_BUY), .val (.int ((XT.ushr p0 (1 : Int32)) &&& (3 : Int32))), .unset, .unset, .unset, .unset, .unset] [(.long (p1 - (1 : Int64)))])) (fun t k => XT.lsub X42.here hx rfl (hb hby at_63) rfl k) ?_
          refine own_Fin.back (S' := T42.setTop (mkF m 66 #[.val (.int p0), .val (.long p1), .second, .val (.long p2), .second, .val (.ref a_BUY), .val (.int ((XT.ushr p0 (1 : Int32)) &&& (3 : Int32))), .val (.long (p1 - (1 : Int64))), .second, .unset, .unset, .unset] [])) (fun t k => XT.lstore X42.here hx rfl (hb hby at_64) rfl (l' := #[.val (.int p0), .val (.long p1), .second, .val (.long p2), .second, .val (.ref a_BUY), .val (.int ((XT.ushr p0 (1 : Int32)) &&& (3 : Int32))), .val (.long (p1 - (1 : Int64))), .second, .unset, .unset, .unset]) rfl k) ?_
          exact sufB T42 X42 e42 _ _
  · refine own_Fin.back (S' := T0.setTop (mkF m 12 #[.val (.int p0), .val (.long p1), .second, .val (.long p2), .second, .unset, .unset, .unset, .unset, .unset, .unset, .unset] [])) (fun t k => XS.ifYes X0.here hx rfl (pc0 := 3) (pc' := 12) rfl (hb hby at_3) rfl hc41 (by decide) (by decide) k) ?_
    obtain ⟨T46, X46, e46, k46⟩ := getS X0 hx hZ hown (host := "") (hw _ (List.mem_of_getElem? (i := 0) rfl)) Via.refl e0 S_SELL (g := (mkF m 12 #[.val (.int p0), .val (.long p1), .second, .val (.long p2), .second, .unset, .unset, .unset, .unset, .unset, .unset, .unset] [])) rfl (hb hby at_12)
    refine own_Fin.back (S' := T46.setTop (mkF m 15 #[.val (.int p0), .val (.long p1), .second, .val (.long p2), .second, .unset, .unset, .unset, .unset, .unset, .unset, .unset] [(.ref a_SELL)])) k46 ?_
    refine own_Fin.back (S' := T46.setTop (mkF m 17 #[.val (.int p0), .val (.long p1), .second, .val (.long p2), .second, .val (.ref a_SELL), .unset, .unset, .unset, .unset, .unset, .unset] [])) (fun t k => XS.astore X46.here hx rfl (hb hby at_15) rfl rfl (l' := #[.val (.int p0), .val (.long p1), .second, .val (.long p2), .second, .val (.ref a_SELL), .unset, .unset, .unset, .unset, .unset, .unset]) rfl k) ?_
    refine own_Fin.back (S' := T46.setTop (mkF m 18 #[.val (.int p0), .val (.long p1), .second, .val (.long p2), .second, .val (.ref a_SELL), .unset, .unset, .unset, .unset, .unset, .unset] [(.int p0)])) (fun t k => XS.iloadN X46.here hx rfl (hb hby at_17) rfl k) ?_
    refine own_Fin.back (S' := T46.setTop (mkF m 19 #[.val (.int p0), .val (.long p1), .second, .val (.long p2), .second, .val (.ref a_SELL), .unset, .unset, .unset, .unset, .unset, .unset] [(.int (1 : Int32)), (.int p0)])) (fun t k => XS.iconst X46.here hx rfl (hb hby at_18) k) ?_
    refine own_Fin.back (S' := T46.setTop (mkF m 20 #[.val (.int p0), .val (.long p1), .second, .val (.long p2), .second, .val (.ref a_SELL), .unset, .unset, .unset, .unset, .unset, .unset] [(.int (XT.ushr p0 (1 : Int32)))])) (fun t k => XT.iushr X46.here hx rfl (hb hby at_19) rfl k) ?_
    refine own_Fin.back (S' := T46.setTop (mkF m 21 #[.val (.int p0), .val (.long p1), .second, .val (.long p2), .second, .val (.ref a_SELL), .unset, .unset, .unset, .unset, .unset, .unset] [(.int (3 : Int32)), (.int (XT.ushr p0 (1 : Int32)))])) (fun t k => XS.iconst X46.here hx rfl (hb hby at_20) k) ?_
    refine own_Fin.back (S' := T46.setTop (mkF m 22 #[.val (.int p0), .val (.long p1), .second, .val (.long p2), .second, .val (.ref a_SELL), .unset, .unset, .unset, .unset, .unset, .unset] [(.int ((XT.ushr p0 (1 : Int32)) &&& (3 : Int32)))])) (fun t k => XS.iand X46.here hx rfl (hb hby at_21) rfl k) ?_
    refine own_Fin.back (S' := T46.setTop (mkF m 24 #[.val (.int p0), .val (.long p1), .second, .val (.long p2), .second, .val (.ref a_SELL), .val (.int ((XT.ushr p0 (1 : Int32)) &&& (3 : Int32))), .unset, .unset, .unset, .unset, .unset] [])) (fun t k => XS.istore X46.here hx rfl (hb hby at_22) rfl (l' := #[.val (.int p0), .val (.long p1), .second, .val (.long p2), .second, .val (.ref a_SELL), .val (.int ((XT.ushr p0 (1 : Int32)) &&& (3 : Int32))), .unset, .unset, .unset, .unset, .unset]) rfl k) ?_
    refine own_Fin.back (S' := T46.setTop (mkF m 26 #[.val (.int p0), .val (.long p1), .second, .val (.long p2), .second, .val (.ref a_SELL), .val (.int ((XT.ushr p0 (1 : Int32)) &&& (3 : Int32))), .unset, .unset, .unset, .unset, .unset] [(.int ((XT.ushr p0 (1 : Int32)) &&& (3 : Int32)))])) (fun t k => XS.iload X46.here hx rfl (hb hby at_24) rfl k) ?_
    rcases hc47 : ifCond.holds .ne ((XT.ushr p0 (1 : Int32)) &&& (3 : Int32)) with _ | _
    · refine own_Fin.back (S' := T46.setTop (mkF m 29 #[.val (.int p0), .val (.long p1), .second, .val (.long p2), .second, .val (.ref a_SELL), .val (.int ((XT.ushr p0 (1 : Int32)) &&& (3 : Int32))), .unset, .unset, .unset, .unset, .unset] [])) (fun t k => XS.ifNo X46.here hx rfl (hb hby at_26) rfl hc47 k) ?_
      refine own_Fin.back (S' := T46.setTop (mkF m 30 #[.val (.int p0), .val (.long p1), .second, .val (.long p2), .second, .val (.ref a_SELL), .val (.int ((XT.ushr p0 (1 : Int32)) &&& (3 : Int32))), .unset, .unset, .unset, .unset, .unset] [(.long p2)])) (fun t k => XT.lloadN X46.here hx rfl (hb hby at_29) rfl k) ?_
      refine own_Fin.back (S' := T46.setTop (mkF m 32 #[.val (.int p0), .val (.long p1), .second, .val (.long p2), .second, .val (.ref a_SELL), .val (.int ((XT.ushr p0 (1 : Int32)) &&& (3 : Int32))), .val (.long p2), .second, .unset, .unset, .unset] [])) (fun t k => XT.lstore X46.here hx rfl (hb hby at_30) rfl (l' := #[.val (.int p0), .val (.long p1), .second, .val (.long p2), .second, .val (.ref a_SELL), .val (.int ((XT.ushr p0 (1 : Int32)) &&& (3 : Int32))), .val (.long p2), .second, .unset, .unset, .unset]) rfl k) ?_
      refine own_Fin.back (S' := T46.setTop (mkF m 66 #[.val (.int p0), .val (.long p1), .second, .val (.long p2), .second, .val (.ref a_SELL), .val (.int ((XT.ushr p0 (1 : Int32)) &&& (3 : Int32))), .val (.long p2), .second, .unset, .unset, .unset] [])) (fun t k => XS.goto X46.here hx rfl (pc0 := 32) (pc' := 66) rfl (hb hby at_32) (by decide) (by decide) k) ?_
      exact sufS T46 X46 e46 _ _
    · refine own_Fin.back (S' := T46.setTop (mkF m 35 #[.val (.int p0), .val (.long p1), .second, .val (.long p2), .second, .val (.ref a_SELL), .val (.int ((XT.ushr p0 (1 : Int32)) &&& (3 : Int32))), .unset, .unset, .unset, .unset, .unset] [])) (fun t k => XS.ifYes X46.here hx rfl (pc0 := 26) (pc' := 35) rfl (hb hby at_26) rfl hc47 (by decide) (by decide) k) ?_
      refine own_Fin.back (S' := T46.setTop (mkF m 37 #[.val (.int p0), .val (.long p1), .second, .val (.long p2), .second, .val (.ref a_SELL), .val (.int ((XT.ushr p0 (1 : Int32)) &&& (3 : Int32))), .unset, .unset, .unset, .unset, .unset] [(.int ((XT.ushr p0 (1 : Int32)) &&& (3 : Int32)))])) (fun t k => XS.iload X46.here hx rfl (hb hby at_35) rfl k) ?_
      refine own_Fin.back (S' := T46.setTop (mkF m 38 #[.val (.int p0), .val (.long p1), .second, .val (.long p2), .second, .val (.ref a_SELL), .val (.int ((XT.ushr p0 (1 : Int32)) &&& (3 : Int32))), .unset, .unset, .unset, .unset, .unset] [(.int (1 : Int32)), (.int ((XT.ushr p0 (1 : Int32)) &&& (3 : Int32)))])) (fun t k => XS.iconst X46.here hx rfl (hb hby at_37) k) ?_
      rcases hc48 : if_icmp.holds .ne ((XT.ushr p0 (1 : Int32)) &&& (3 : Int32)) (1 : Int32) with _ | _
      · refine own_Fin.back (S' := T46.setTop (mkF m 41 #[.val (.int p0), .val (.long p1), .second, .val (.long p2), .second, .val (.ref a_SELL), .val (.int ((XT.ushr p0 (1 : Int32)) &&& (3 : Int32))), .unset, .unset, .unset, .unset, .unset] [])) (fun t k => XS.icmpNo X46.here hx rfl (hb hby at_38) rfl hc48 k) ?_
        refine own_Fin.back (S' := T46.setTop (mkF m 42 #[.val (.int p0), .val (.long p1), .second, .val (.long p2), .second, .val (.ref a_SELL), .val (.int ((XT.ushr p0 (1 : Int32)) &&& (3 : Int32))), .unset, .unset, .unset, .unset, .unset] [(.long p1)])) (fun t k => XT.lloadN X46.here hx rfl (hb hby at_41) rfl k) ?_
        refine own_Fin.back (S' := T46.setTop (mkF m 44 #[.val (.int p0), .val (.long p1), .second, .val (.long p2), .second, .val (.ref a_SELL), .val (.int ((XT.ushr p0 (1 : Int32)) &&& (3 : Int32))), .val (.long p1), .second, .unset, .unset, .unset] [])) (fun t k => XT.lstore X46.here hx rfl (hb hby at_42) rfl (l' := #[.val (.int p0), .val (.long p1), .second, .val (.long p2), .second, .val (.ref a_SELL), .val (.int ((XT.ushr p0 (1 : Int32)) &&& (3 : Int32))), .val (.long p1), .second, .unset, .unset, .unset]) rfl k) ?_
        refine own_Fin.back (S' := T46.setTop (mkF m 66 #[.val (.int p0), .val (.long p1), .second, .val (.long p2), .second, .val (.ref a_SELL), .val (.int ((XT.ushr p0 (1 : Int32)) &&& (3 : Int32))), .val (.long p1), .second, .unset, .unset, .unset] [])) (fun t k => XS.goto X46.here hx rfl (pc0 := 44) (pc' := 66) rfl (hb hby at_44) (by decide) (by decide) k) ?_
        exact sufS T46 X46 e46 _ _
      · refine own_Fin.back (S' := T46.setTop (mkF m 47 #[.val (.int p0), .val (.long p1), .second, .val (.long p2), .second, .val (.ref a_SELL), .val (.int ((XT.ushr p0 (1 : Int32)) &&& (3 : Int32))), .unset, .unset, .unset, .unset, .unset] [])) (fun t k => XS.icmpYes X46.here hx rfl (pc0 := 38) (pc' := 47) rfl (hb hby at_38) rfl hc48 (by decide) (by decide) k) ?_
        refine own_Fin.back (S' := T46.setTop (mkF m 49 #[.val (.int p0), .val (.long p1), .second, .val (.long p2), .second, .val (.ref a_SELL), .val (.int ((XT.ushr p0 (1 : Int32)) &&& (3 : Int32))), .unset, .unset, .unset, .unset, .unset] [(.int ((XT.ushr p0 (1 : Int32)) &&& (3 : Int32)))])) (fun t k => XS.iload X46.here hx rfl (hb hby at_47) rfl k) ?_
        refine own_Fin.back (S' := T46.setTop (mkF m 50 #[.val (.int p0), .val (.long p1), .second, .val (.long p2), .second, .val (.ref a_SELL), .val (.int ((XT.ushr p0 (1 : Int32)) &&& (3 : Int32))), .unset, .unset, .unset, .unset, .unset] [(.int (2 : Int32)), (.int ((XT.ushr p0 (1 : Int32)) &&& (3 : Int32)))])) (fun t k => XS.iconst X46.here hx rfl (hb hby at_49) k) ?_
        rcases hc49 : if_icmp.holds .ne ((XT.ushr p0 (1 : Int32)) &&& (3 : Int32)) (2 : Int32) with _ | _
        · refine own_Fin.back (S' := T46.setTop (mkF m 53 #[.val (.int p0), .val (.long p1), .second, .val (.long p2), .second, .val (.ref a_SELL), .val (.int ((XT.ushr p0 (1 : Int32)) &&& (3 : Int32))), .unset, .unset, .unset, .unset, .unset] [])) (fun t k => XS.icmpNo X46.here hx rfl (hb hby at_50) rfl hc49 k) ?_
          refine own_Fin.back (S' := T46.setTop (mkF m 54 #[.val (.int p0), .val (.long p1), .second, .val (.long p2), .second, .val (.ref a_SELL), .val (.int ((XT.ushr p0 (1 : Int32)) &&& (3 : Int32))), .unset, .unset, .unset, .unset, .unset] [(.long p1)])) (fun t k => XT.lloadN X46.here hx rfl (hb hby at_53) rfl k) ?_
          refine own_Fin.back (S' := T46.setTop (mkF m 55 #[.val (.int p0), .val (.long p1), .second, .val (.long p2), .second, .val (.ref a_SELL), .val (.int ((XT.ushr p0 (1 : Int32)) &&& (3 : Int32))), .unset, .unset, .unset, .unset, .unset] [(.long (1 : Int64)), (.long p1)])) (fun t k => XT.lconstV X46.here hx rfl ((1 : Int64)) (hb hby at_54) (by decide) k) ?_
          refine own_Fin.back (S' := T46.setTop (mkF m 56 #[.val (.int p0), .val (.long p1), .second, .val (.long p2), .second, .val (.ref a_SELL), .val (.int ((XT.ushr p0 (1 : Int32)) &&& (3 : Int32))), .unset, .unset, .unset, .unset, .unset] [(.long (p1 + (1 : Int64)))])) (fun t k => XT.ladd X46.here hx rfl (hb hby at_55) rfl k) ?_
          refine own_Fin.back (S' := T46.setTop (mkF m 58 #[.val (.int p0), .val (.long p1), .second, .val (.long p2), .second, .val (.ref a_SELL), .val (.int ((XT.ushr p0 (1 : Int32)) &&& (3 : Int32))), .val (.long (p1 + (1 : Int64))), .second, .unset, .unset, .unset] [])) (fun t k => XT.lstore X46.here hx rfl (hb hby at_56) rfl (l' := #[.val (.int p0), .val (.long p1), .second, .val (.long p2), .second, .val (.ref a_SELL), .val (.int ((XT.ushr p0 (1 : Int32)) &&& (3 : Int32))), .val (.long (p1 + (1 : Int64))), .second, .unset, .unset, .unset]) rfl k) ?_
          refine own_Fin.back (S' := T46.setTop (mkF m 66 #[.val (.int p0), .val (.long p1), .second, .val (.long p2), .second, .val (.ref a_SELL), .val (.int ((XT.ushr p0 (1 : Int32)) &&& (3 : Int32))), .val (.long (p1 + (1 : Int64))), .second, .unset, .unset, .unset] [])) (fun t k => XS.goto X46.here hx rfl (pc0 := 58) (pc' := 66) rfl (hb hby at_58) (by decide) (by decide) k) ?_
          exact sufS T46 X46 e46 _ _
        · refine own_Fin.back (S' := T46.setTop (mkF m 61 #[.val (.int p0), .val (.long p1), .second, .val (.long p2), .second, .val (.ref a_SELL), .val (.int ((XT.ushr p0 (1 : Int32)) &&& (3 : Int32))), .unset, .unset, .unset, .unset, .unset] [])) (fun t k => XS.icmpYes X46.here hx rfl (pc0 := 50) (pc' := 61) rfl (hb hby at_50) rfl hc49 (by decide) (by decide) k) ?_
          refine own_Fin.back (S' := T46.setTop (mkF m 62 #[.val (.int p0), .val (.long p1), .second, .val (.long p2), .second, .val (.ref a_SELL), .val (.int ((XT.ushr p0 (1 : Int32)) &&& (3 : Int32))), .unset, .unset, .unset, .unset, .unset] [(.long p1)])) (fun t k => XT.lloadN X46.here hx rfl (hb hby at_61) rfl k) ?_
          refine own_Fin.back (S' := T46.setTop (mkF m 63 #[.val (.int p0), .val (.long p1), .second, .val (.long p2), .second, .val (.ref a_SELL), .val (.int ((XT.ushr p0 (1 : Int32)) &&& (3 : Int32))), .unset, .unset, .unset, .unset, .unset] [(.long (1 : Int64)), (.long p1)])) (fun t k => XT.lconstV X46.here hx rfl ((1 : Int64)) (hb hby at_62) (by decide) k) ?_
          refine own_Fin.back (S' := T46.setTop (mkF m 64 #[.val (.int p0), .val (.long p1), .second, .val (.long p2), .second, .val (.ref a_SELL), .val (.int ((XT.ushr p0 (1 : Int32)) &&& (3 : Int32))), .unset, .unset, .unset, .unset, .unset] [(.long (p1 - (1 : Int64)))])) (fun t k => XT.lsub X46.here hx rfl (hb hby at_63) rfl k) ?_
          refine own_Fin.back (S' := T46.setTop (mkF m 66 #[.val (.int p0), .val (.long p1), .second, .val (.long p2), .second, .val (.ref a_SELL), .val (.int ((XT.ushr p0 (1 : Int32)) &&& (3 : Int32))), .val (.long (p1 - (1 : Int64))), .second, .unset, .unset, .unset] [])) (fun t k => XT.lstore X46.here hx rfl (hb hby at_64) rfl (l' := #[.val (.int p0), .val (.long p1), .second, .val (.long p2), .second, .val (.ref a_SELL), .val (.int ((XT.ushr p0 (1 : Int32)) &&& (3 : Int32))), .val (.long (p1 - (1 : Int64))), .second, .unset, .unset, .unset]) rfl k) ?_
          exact sufS T46 X46 e46 _ _
set_option maxRecDepth 65536 in
set_option maxHeartbeats 40000000 in
theorem own_comes {Post : Tables → Env → Array Value → State → Outcome → State → Prop} (hpost : ∀ tb e args s v u, (limb_1_1.after args s (.returned v) u = true ∧ limb_1_2.after args s (.returned v) u = true ∧ True) → FrameEnd s (.returned v) u (Jvm.fieldLocs frame_1_writes args s ++ Jvm.arrayLocs frame_1_arrays args s ++ Jvm.staticLocs frame_1_statics s) 0 0 → Post tb e args s (.returned v) u) :
    ArmFor flags0 classFile x code maxLocals ret World_1 tables_1 room_1 Calls_1 rest_1 Pre_1 Post := by
  intro l hfl _ _ p e ha hc hk s m args below hf hA hF happ hP
  obtain ⟨hcalls, hrest, hpre⟩ := hP
  obtain ⟨-, -, -, hnamed, -, -, -, hat⟩ := (Spec.applies_iff hf).mp happ
  obtain ⟨hg, hn⟩ := and_e (Cond.before_iff.mp (show (Jvm.Cond.and given_1 narrow_1).before args s = true from hpre))
  obtain ⟨hcount, g0⟩ := and_e hg
  obtain ⟨w0, w1, w2, rfl⟩ : ∃ w0 w1 w2 : Value, args = #[w0, w1, w2] := by
    have hs : args.size = 3 := by simpa [Cond.value, given_1] using hcount
    obtain ⟨L⟩ := args
    match L, hs with
    | [w0, w1, w2], _ => exact ⟨w0, w1, w2, rfl⟩
  have hw := fun d (hd : d ∈ tables_1) => atoms_spec (ws := Jvm.Cond.code x code maxLocals ret :: tables_1) hat d (List.mem_cons_of_mem _ hd)
  obtain ⟨q0, g1⟩ := and_e g0
  obtain ⟨i0, j0⟩ := is_v q0
  obtain rfl : w0 = (.int i0) := Option.some.inj j0
  obtain ⟨q1, g2⟩ := and_e g1
  obtain ⟨i1, j1⟩ := isL_v q1
  obtain rfl : w1 = (.long i1) := Option.some.inj j1
  obtain ⟨i2, j2⟩ := isL_v g2
  obtain rfl : w2 = (.long i2) := Option.some.inj j2
  obtain ⟨hN0, hR0⟩ := and_e hn
  obtain ⟨hN1, hR1⟩ := and_e hR0
  obtain ⟨hN2, hR2⟩ := and_e hR1
  have hN3 := hR2
  obtain ⟨a_SELL, E_SELL⟩ := exa_v hN0
  have S_SELL := own_sta E_SELL (hw _ (List.mem_of_getElem? (i := 1) rfl)) (hw _ (List.mem_of_getElem? (i := 2) rfl))
  have X_SELL := Exa.start E_SELL hN0
  obtain ⟨a_BUY, E_BUY⟩ := exa_v hN1
  have S_BUY := own_sta E_BUY (hw _ (List.mem_of_getElem? (i := 1) rfl)) (hw _ (List.mem_of_getElem? (i := 9) rfl))
  have X_BUY := Exa.start E_BUY hN1
  have F_SELL_ordinal := own_fldI E_SELL hN2
  have F_BUY_ordinal := own_fldI E_BUY hN3
  have D_SELL_BUY := own_ne F_SELL_ordinal F_BUY_ordinal (by decide)
  have H : own_Facts s s.heap a_SELL a_BUY := ⟨S_SELL, X_SELL, S_BUY, X_BUY, F_SELL_ordinal, F_BUY_ordinal, D_SELL_BUY⟩
  obtain ⟨n, o, h1, h2, h3, _, L, rfl, ⟨rfl, rfl, -⟩, hq⟩ := own_law l s _ hw s.heap H i0 i1 i2 tables_1 p e ha hc hk s m _ below hf ((Spec.applies_iff_loose hf).mp happ).1 ⟨rfl, State.Warmed39.refl s, rfl⟩ trivial
  exact ⟨n, _, h1, h2, h3, hpost _ _ _ _ _ _ ⟨Cond.after_iff.mpr rfl, Cond.after_iff.mpr (eq_i res_at (Term.int_eval (1)) rfl), trivial⟩ ⟨hq.1, hq.2.1, hq.2.2.sift fun y hy => (nomatch hy)⟩⟩
theorem main_1_1 : Claimed_1_1 := own_comes fun _ _ _ _ _ _ h hF => ⟨h.1, hF⟩
theorem main_1_2 : Claimed_1_2 := own_comes fun _ _ _ _ _ _ h hF => ⟨h.2.1, hF⟩
end Jvm.Pilot.@@N@@
namespace Jvm.Pilot.@@N@@
open Jvm Jvm.ClassFile Sem Op Lib Jvm.Free Jvm.Stand Jvm.Pilot.@@N@@.Jvm.D
/-! MADE BY PROGRAM (witnessworld.py) out of the Statement's table words and the real class files: 13 classes; the members and pool entries that the words name. The judged class is class 1, her method 1. -/
namespace start1
open Jvm.ClassFile
def u (s : String) : CpInfo := .utf8 (stringToUtf16 s)
/-- a pool by its gaps: so many unusable entries, then the entry; so many at the end -/
def gap : Nat → List CpInfo → List CpInfo
  | 0, r => r
  | n + 1, r => .unusable :: gap n r
def poolList (es : List (Nat × CpInfo)) (last : Nat) : List CpInfo := es.foldr (fun e r => gap e.1 (e.2 :: r)) (gap last [])
def pool (es : List (Nat × CpInfo)) (last : Nat) : Array CpInfo := ⟨poolList es last⟩
def fileOf (pool : Array CpInfo) (this : Nat) (attrs : Array Attribute := #[]) (ms : Array MethodInfo := #[]) (fl : Nat := 33) (sup : Nat := 0) (ifs : Array Nat := #[]) (fds : Array FieldInfo := #[]) : ClassFile where
  minorVersion := 0
  majorVersion := 65
  constantPool := pool
  accessFlags := fl
  thisClass := this
  superClass := sup
  interfaces := ifs
  fields := fds
  methods := ms
  attributes := attrs
def plain (name : String) (sup : Option ClassId) : Class where
  name := name
  kind := .ordinary
  loader := none
  accessFlags := 33
  super := sup
  interfaces := #[]
  cf := none
  fields := #[]
  methods := #[]
  instanceTypes := #[]
  staticTypes := #[]
  resolved := #[]
  callSites := []
  init := .initialized
  statics := none
  mirror := none

def pool0 : Array CpInfo := pool [(5, u "<init>"), (0, u "()V"), (1, .class_ 10), (1, u "java/lang/Object")] 113

def k0m0 : Method := { name := "<init>", desc := "()V", sig := { parameters := [], returnType := none }, accessFlags := 1, code := none }
/-- java/lang/Object -/
def k0 : Class := { plain "java/lang/Object" none with
  accessFlags := 33
  interfaces := #[]
  cf := some (fileOf pool0 8 #[] #[{ accessFlags := 1, nameIndex := 5, descriptorIndex := 6, attributes := #[] }] 33 0 #[] #[])
  fields := #[]
  methods := #[k0m0]
  instanceTypes := #[]
  staticTypes := #[]
  resolved := Array.replicate 124 none
  statics := none }

def pool1 : Array CpInfo := pool [(2, .class_ 4), (1, u "java/lang/Object"), (0, u "<init>"), (0, u "()V"), (0, .fieldref 8 9), (0, .class_ 10), (0, .nameAndType 11 12), (0, u "com/example/sevan_exchange/sevanexchange/engine/Side"), (0, u "BUY"), (0, u "Lcom/example/sevan_exchange/sevanexchange/engine/Side;"), (0, .fieldref 8 14), (0, .nameAndType 15 12), (0, u "SELL"), (0, .methodref 8 17), (0, .nameAndType 18 19), (0, u "crosses"), (0, u "(JJ)Z"), (0, .methodref 21 22), (0, .class_ 23), (0, .nameAndType 24 25), (0, u "java/lang/Math"), (0, u "max"), (0, u "(JJ)J"), (0, .methodref 21 27), (0, .nameAndType 28 25), (0, u "min"), (0, .methodref 8 30), (0, .nameAndType 31 32), (0, u "opposite"), (0, u "()Lcom/example/sevan_exchange/sevanexchange/engine/Side;"), (0, .class_ 34), (0, u "com/example/sevan_exchange/sevanexchange/engine/SideCrossesPinLaw"), (2, u "law"), (0, u "(IJJ)Z")] 3

def k1m0 : Method := { name := "<init>", desc := "()V", sig := { parameters := [], returnType := none }, accessFlags := 1, code := none }
def k1c1 : Code := { maxStack := 5, maxLocals := 12, code := code, exceptionTable := #[], attributes := #[] }
def k1m1 : Method := { name := "law", desc := "(IJJ)Z", sig := { parameters := [.int, .long, .long], returnType := some .boolean }, accessFlags := 9, code := some k1c1 }
/-- com/example/sevan_exchange/sevanexchange/engine/SideCrossesPinLaw -/
def k1 : Class := { plain "com/example/sevan_exchange/sevanexchange/engine/SideCrossesPinLaw" (some 0) with
  accessFlags := 49
  interfaces := #[]
  cf := some (fileOf pool1 33 #[] #[{ accessFlags := 1, nameIndex := 5, descriptorIndex := 6, attributes := #[] }, { accessFlags := 9, nameIndex := 37, descriptorIndex := 38, attributes := #[] }] 49 2 #[] #[])
  fields := #[]
  methods := #[k1m0, k1m1]
  instanceTypes := #[]
  staticTypes := #[]
  resolved := Array.replicate 42 none
  statics := none }

def pool2 : Array CpInfo := pool [(1, .class_ 2), (0, u "java/lang/constant/Constable"), (0, .class_ 4), (0, u "java/lang/Object")] 6

/-- java/lang/constant/Constable -/
def k2 : Class := { plain "java/lang/constant/Constable" (some 0) with
  accessFlags := 1537
  interfaces := #[]
  cf := some (fileOf pool2 1 #[] #[] 1537 3 #[] #[])
  fields := #[]
  methods := #[]
  instanceTypes := #[]
  staticTypes := #[]
  resolved := Array.replicate 11 none
  statics := none }

def pool3 : Array CpInfo := pool [(1, .class_ 2), (0, u "java/lang/Comparable"), (0, .class_ 4), (0, u "java/lang/Object")] 7

/-- java/lang/Comparable -/
def k3 : Class := { plain "java/lang/Comparable" (some 0) with
  accessFlags := 1537
  interfaces := #[]
  cf := some (fileOf pool3 1 #[] #[] 1537 3 #[] #[])
  fields := #[]
  methods := #[]
  instanceTypes := #[]
  staticTypes := #[]
  resolved := Array.replicate 12 none
  statics := none }

def pool4 : Array CpInfo := pool [(1, .class_ 2), (0, u "java/io/Serializable"), (0, .class_ 4), (0, u "java/lang/Object")] 2

/-- java/io/Serializable -/
def k4 : Class := { plain "java/io/Serializable" (some 0) with
  accessFlags := 1537
  interfaces := #[]
  cf := some (fileOf pool4 1 #[] #[] 1537 3 #[] #[])
  fields := #[]
  methods := #[]
  instanceTypes := #[]
  staticTypes := #[]
  resolved := Array.replicate 7 none
  statics := none }

def pool5 : Array CpInfo := pool [(2, .class_ 4), (1, u "java/lang/Enum"), (0, u "name"), (0, u "Ljava/lang/String;"), (2, u "ordinal"), (0, u "I"), (1, .class_ 14), (1, u "java/lang/Object"), (4, u "hash"), (86, .class_ 108), (1, u "java/lang/Enum$EnumDesc"), (2, .class_ 112), (0, u "java/lang/constant/Constable"), (0, .class_ 114), (0, u "java/lang/Comparable"), (0, .class_ 116), (0, u "java/io/Serializable")] 87

/-- java/lang/Enum -/
def k5 : Class := { plain "java/lang/Enum" (some 0) with
  accessFlags := 1057
  interfaces := #[2, 3, 4]
  cf := some (fileOf pool5 2 #[.nestMembers #[106]] #[] 1057 12 #[111, 113, 115] #[{ accessFlags := 18, nameIndex := 5, descriptorIndex := 6, attributes := #[] }, { accessFlags := 18, nameIndex := 9, descriptorIndex := 10, attributes := #[] }, { accessFlags := 2, nameIndex := 19, descriptorIndex := 10, attributes := #[] }])
  fields := #[{ name := "name", type := (.object "java/lang/String"), accessFlags := 18, slot := 0, constantValue := 0 }, { name := "ordinal", type := .int, accessFlags := 18, slot := 1, constantValue := 0 }, { name := "hash", type := .int, accessFlags := 2, slot := 2, constantValue := 0 }]
  methods := #[]
  instanceTypes := #[(.object "java/lang/String"), .int, .int]
  staticTypes := #[]
  resolved := Array.replicate 204 none
  statics := none }

def pool6 : Array CpInfo := pool [(1, .class_ 2), (0, u "com/example/sevan_exchange/sevanexchange/engine/Side"), (0, .fieldref 1 4), (0, .nameAndType 5 6), (0, u "BUY"), (0, u "Lcom/example/sevan_exchange/sevanexchange/engine/Side;"), (0, .fieldref 1 8), (0, .nameAndType 9 6), (0, u "SELL"), (2, u "$VALUES"), (0, u "[Lcom/example/sevan_exchange/sevanexchange/engine/Side;"), (6, .class_ 22), (1, u "java/lang/Enum"), (20, u "opposite"), (0, u "()Lcom/example/sevan_exchange/sevanexchange/engine/Side;"), (1, u "crosses"), (0, u "(JJ)Z")] 4

def k6c0 : Code := { maxStack := 2, maxLocals := 1, code := prog_39_method_4_code, exceptionTable := #[], attributes := #[] }
def k6m0 : Method := { name := "opposite", desc := "()Lcom/example/sevan_exchange/sevanexchange/engine/Side;", sig := { parameters := [], returnType := some (.object "com/example/sevan_exchange/sevanexchange/engine/Side") }, accessFlags := 1, code := some k6c0 }
def k6c1 : Code := { maxStack := 4, maxLocals := 5, code := prog_39_method_5_code, exceptionTable := #[], attributes := #[] }
def k6m1 : Method := { name := "crosses", desc := "(JJ)Z", sig := { parameters := [.long, .long], returnType := some .boolean }, accessFlags := 1, code := some k6c1 }
/-- com/example/sevan_exchange/sevanexchange/engine/Side -/
def k6 : Class := { plain "com/example/sevan_exchange/sevanexchange/engine/Side" (some 5) with
  accessFlags := 16433
  interfaces := #[]
  cf := some (fileOf pool6 1 #[] #[{ accessFlags := 1, nameIndex := 43, descriptorIndex := 44, attributes := #[] }, { accessFlags := 1, nameIndex := 46, descriptorIndex := 47, attributes := #[] }] 16433 20 #[] #[{ accessFlags := 16409, nameIndex := 5, descriptorIndex := 6, attributes := #[] }, { accessFlags := 16409, nameIndex := 9, descriptorIndex := 6, attributes := #[] }, { accessFlags := 4122, nameIndex := 12, descriptorIndex := 13, attributes := #[] }])
  fields := #[{ name := "BUY", type := (.object "com/example/sevan_exchange/sevanexchange/engine/Side"), accessFlags := 16409, slot := 0, constantValue := 0 }, { name := "SELL", type := (.object "com/example/sevan_exchange/sevanexchange/engine/Side"), accessFlags := 16409, slot := 1, constantValue := 0 }, { name := "$VALUES", type := (.array (.object "com/example/sevan_exchange/sevanexchange/engine/Side")), accessFlags := 4122, slot := 2, constantValue := 0 }]
  methods := #[k6m0, k6m1]
  instanceTypes := #[(.object "java/lang/String"), .int, .int]
  staticTypes := #[(.object "com/example/sevan_exchange/sevanexchange/engine/Side"), (.object "com/example/sevan_exchange/sevanexchange/engine/Side"), (.array (.object "com/example/sevan_exchange/sevanexchange/engine/Side"))]
  resolved := Array.replicate 52 none
  statics := some 0 }

def pool7 : Array CpInfo := pool [(1, .class_ 2), (0, u "java/lang/Math"), (1, .class_ 6), (1, u "java/lang/Object"), (0, u "<init>"), (0, u "()V"), (89, .class_ 100), (1, u "java/lang/Math$RandomNumberGeneratorHolder"), (20, u "(JJ)J"), (50, u "negativeZeroFloatBits"), (0, u "J"), (2, u "negativeZeroDoubleBits"), (21, u "max"), (2, u "min"), (43, u "$assertionsDisabled"), (0, u "Z"), (91, u "twoToTheDoubleScaleDown"), (0, u "D"), (4, u "twoToTheDoubleScaleUp"), (9, u "E"), (3, u "PI"), (2, u "TAU"), (2, u "DEGREES_TO_RADIANS"), (0, u "RADIANS_TO_DEGREES")] 94

def k7m0 : Method := { name := "<init>", desc := "()V", sig := { parameters := [], returnType := none }, accessFlags := 2, code := none }
def k7c1 : Code := { maxStack := 4, maxLocals := 4, code := jdk_29_method_66_code, exceptionTable := #[], attributes := #[] }
def k7m1 : Method := { name := "max", desc := "(JJ)J", sig := { parameters := [.long, .long], returnType := some .long }, accessFlags := 9, code := some k7c1 }
def k7c2 : Code := { maxStack := 4, maxLocals := 4, code := jdk_29_method_70_code, exceptionTable := #[], attributes := #[] }
def k7m2 : Method := { name := "min", desc := "(JJ)J", sig := { parameters := [.long, .long], returnType := some .long }, accessFlags := 9, code := some k7c2 }
/-- java/lang/Math -/
def k7 : Class := { plain "java/lang/Math" (some 0) with
  accessFlags := 49
  interfaces := #[]
  cf := some (fileOf pool7 1 #[.nestMembers #[98]] #[{ accessFlags := 2, nameIndex := 7, descriptorIndex := 8, attributes := #[] }, { accessFlags := 9, nameIndex := 198, descriptorIndex := 121, attributes := #[] }, { accessFlags := 9, nameIndex := 201, descriptorIndex := 121, attributes := #[] }] 49 4 #[] #[{ accessFlags := 25, nameIndex := 354, descriptorIndex := 339, attributes := #[] }, { accessFlags := 25, nameIndex := 358, descriptorIndex := 339, attributes := #[] }, { accessFlags := 25, nameIndex := 361, descriptorIndex := 339, attributes := #[] }, { accessFlags := 26, nameIndex := 364, descriptorIndex := 339, attributes := #[] }, { accessFlags := 26, nameIndex := 365, descriptorIndex := 339, attributes := #[] }, { accessFlags := 26, nameIndex := 172, descriptorIndex := 173, attributes := #[] }, { accessFlags := 26, nameIndex := 176, descriptorIndex := 173, attributes := #[] }, { accessFlags := 8, nameIndex := 344, descriptorIndex := 339, attributes := #[] }, { accessFlags := 8, nameIndex := 338, descriptorIndex := 339, attributes := #[] }, { accessFlags := 4120, nameIndex := 245, descriptorIndex := 246, attributes := #[] }])
  fields := #[{ name := "E", type := .double, accessFlags := 25, slot := 0, constantValue := 0 }, { name := "PI", type := .double, accessFlags := 25, slot := 1, constantValue := 0 }, { name := "TAU", type := .double, accessFlags := 25, slot := 2, constantValue := 0 }, { name := "DEGREES_TO_RADIANS", type := .double, accessFlags := 26, slot := 3, constantValue := 0 }, { name := "RADIANS_TO_DEGREES", type := .double, accessFlags := 26, slot := 4, constantValue := 0 }, { name := "negativeZeroFloatBits", type := .long, accessFlags := 26, slot := 5, constantValue := 0 }, { name := "negativeZeroDoubleBits", type := .long, accessFlags := 26, slot := 6, constantValue := 0 }, { name := "twoToTheDoubleScaleUp", type := .double, accessFlags := 8, slot := 7, constantValue := 0 }, { name := "twoToTheDoubleScaleDown", type := .double, accessFlags := 8, slot := 8, constantValue := 0 }, { name := "$assertionsDisabled", type := .boolean, accessFlags := 4120, slot := 9, constantValue := 0 }]
  methods := #[k7m0, k7m1, k7m2]
  instanceTypes := #[]
  staticTypes := #[.double, .double, .double, .double, .double, .long, .long, .double, .double, .boolean]
  resolved := Array.replicate 460 none
  statics := none }

def pool8 : Array CpInfo := pool [(1, u "java/lang/Cloneable"), (0, .class_ 1), (0, u "java/lang/Object"), (0, .class_ 3)] 3

/-- java/lang/Cloneable -/
def k8 : Class := { plain "java/lang/Cloneable" (some 0) with
  accessFlags := 1537
  interfaces := #[]
  cf := some (fileOf pool8 2 #[] #[] 1537 4 #[] #[])
  fields := #[]
  methods := #[]
  instanceTypes := #[]
  staticTypes := #[]
  resolved := Array.replicate 8 none
  statics := none }

/-- the primitive byte -/
def k9 : Class := { plain "byte" none with kind := .primitive 'B', accessFlags := 0x411 }
/-- [B -/
def k10 : Class := { plain "[B" (some 0) with kind := .array 9 .byte, interfaces := #[8, 4], accessFlags := 1041 }

/-- the primitive int -/
def k11 : Class := { plain "int" none with kind := .primitive 'I', accessFlags := 0x411 }
/-- [I -/
def k12 : Class := { plain "[I" (some 0) with kind := .array 11 .int, interfaces := #[8, 4], accessFlags := 1041 }

def heap : Heap := #[{ cls := 6, slots := #[.ref 1, .ref 2, .null], vm := .statics 6 },
  { cls := 6, slots := #[.null, .int 0, .int 0], vm := .none },
  { cls := 6, slots := #[.null, .int 1, .int 0], vm := .none }]
def classes : Array Class := #[k0, k1, k2, k3, k4, k5, k6, k7, k8, k9, k10, k11, k12]
def interned : List (Array UInt16 × Addr) := []
def slotsUsed : Nat := 9
def theMethod : MethodId := ⟨1, 1⟩
def args0 : Array Value := #[.int 5, .long 6, .long 7]
def aboutOver (below : List Frame) : State where
  vm := { classes := classes, interned := interned.toArray }
  heap := heap
  slotsUsed := slotsUsed
  threads := #[{ frames := .invoking theMethod args0 :: below }]
def below0 : List Frame := [.native { method := ⟨0, 0⟩, args := #[] }]
def about1 : State := aboutOver below0
def p0 : Program := .bare "" "" ""
def e0 : Env := launch0.env 0 0 0
theorem w_frames : about1.frames = Frame.invoking theMethod args0 :: below0 := rfl
set_option maxRecDepth 65536 in
theorem w_args : argsFit about1.vm theMethod args0 = true := by decide +kernel
set_option maxRecDepth 65536 in
theorem w_heap : heapFits about1 = true := by decide +kernel
set_option maxRecDepth 65536 in
theorem w_runnable : about1.curStatus? = some .runnable := by decide +kernel
set_option maxRecDepth 65536 in
theorem w_alone : about1.alone = true := by decide +kernel
set_option maxRecDepth 65536 in
theorem w_named : about1.methodNamed? x = some theMethod := by decide +kernel
set_option maxRecDepth 65536 in
theorem w_hears : about1.hears theMethod below0 = true := by decide +kernel
set_option maxRecDepth 65536 in
theorem w_ripe : about1.ripe theMethod args0 below0 = true := by decide +kernel
theorem w_running : about1.status = .running := rfl
set_option maxRecDepth 65536 in
theorem w_room : about1.hasRoom e0.platform room_1 = true :=
  launch0.hasRoom_least _ room_1 (by decide +kernel) (by decide +kernel) (by decide +kernel) (by decide +kernel) (by decide +kernel) (by decide +kernel)
theorem allAtoms_all (ts : List Jvm.Cond) (a : Array Jvm.Value) (st : Jvm.State) : (allAtoms ts).before a st = ts.all (fun c => c.before a st) := by
  induction ts with
  | nil => rfl
  | cons c t ih =>
    show (Jvm.Cond.and c (allAtoms t)).before a st = _
    rw [Jvm.Cond.before_and, ih, List.all_cons]
def words1 : List Jvm.Cond := Jvm.Cond.code x code maxLocals ret :: tables_1
/-- a 'code' word, met by the world's own term for the bytes: nothing is compared byte by byte -/
theorem code_word {y : MethodName} {bytes : ByteArray} {mx : Nat} {rt : Option FieldType} {a : Array Value} {s : State} {m : MethodId} {meth : Method} {c : Code} (h1 : s.methodNamed? y = some m) (h2 : s.vm.method? m = some meth) (h3 : meth.code = some c) (h4 : c.code = bytes)
    (h5 : (c.maxLocals == mx && c.exceptionTable.isEmpty && decide (c.maxStack ≤ mostOperands) && decide (meth.sig.returnType = rt) && !meth.locks && decide (parseMethodDescriptor y.desc = some meth.sig)) = true) : (Jvm.Cond.code y bytes mx rt).before a s = true := by
  simp only [Bool.and_eq_true, beq_iff_eq, Bool.not_eq_true', decide_eq_true_eq] at h5
  obtain ⟨⟨⟨⟨⟨g1, g2⟩, g3⟩, g4⟩, g5⟩, g6⟩ := h5
  simp [Cond.before, Cond.holds, Cond.value, h1, h2, h3, h4, g1, g2, g3, g4, g5, g6]
def isCode : Jvm.Cond → Bool
  | .code _ _ _ _ => true
  | _ => false
theorem all_split {L : List Jvm.Cond} {P : Jvm.Cond → Bool} (h1 : L.all (fun c => isCode c || P c) = true) (h2 : ∀ c ∈ L.filter isCode, P c = true) : L.all P = true := by
  refine List.all_eq_true.mpr fun c hc => ?_
  have h := List.all_eq_true.mp h1 c hc
  rcases Bool.eq_false_or_eq_true (isCode c) with hi | hi
  · exact h2 c (List.mem_filter.mpr ⟨hc, hi⟩)
  · simpa [hi] using h
set_option maxRecDepth 65536 in
theorem w_c0 : (Jvm.Cond.code x code maxLocals ret).before args0 about1 = true := code_word (m := ⟨1, 1⟩) (meth := k1m1) (c := k1c1) (by decide +kernel) rfl rfl rfl (by decide +kernel)
set_option maxRecDepth 65536 in
theorem w_c1 : (Jvm.Cond.code ({ cls := "com/example/sevan_exchange/sevanexchange/engine/Side", name := "crosses", desc := "(JJ)Z" } : Jvm.MethodName) prog_39_method_5_code (5 : Nat) (Option.some Jvm.ClassFile.FieldType.boolean)).before args0 about1 = true := code_word (m := ⟨6, 1⟩) (meth := k6m1) (c := k6c1) (by decide +kernel) rfl rfl rfl (by decide +kernel)
set_option maxRecDepth 65536 in
theorem w_c2 : (Jvm.Cond.code ({ cls := "java/lang/Math", name := "min", desc := "(JJ)J" } : Jvm.MethodName) jdk_29_method_70_code (4 : Nat) (Option.some Jvm.ClassFile.FieldType.long)).before args0 about1 = true := code_word (m := ⟨7, 2⟩) (meth := k7m2) (c := k7c2) (by decide +kernel) rfl rfl rfl (by decide +kernel)
set_option maxRecDepth 65536 in
theorem w_c3 : (Jvm.Cond.code ({ cls := "com/example/sevan_exchange/sevanexchange/engine/Side", name := "opposite", desc := "()Lcom/example/sevan_exchange/sevanexchange/engine/Side;" } : Jvm.MethodName) prog_39_method_4_code (1 : Nat) (Option.some (Jvm.ClassFile.FieldType.object "com/example/sevan_exchange/sevanexchange/engine/Side"))).before args0 about1 = true := code_word (m := ⟨6, 0⟩) (meth := k6m0) (c := k6c0) (by decide +kernel) rfl rfl rfl (by decide +kernel)
set_option maxRecDepth 65536 in
theorem w_c4 : (Jvm.Cond.code ({ cls := "java/lang/Math", name := "max", desc := "(JJ)J" } : Jvm.MethodName) jdk_29_method_66_code (4 : Nat) (Option.some Jvm.ClassFile.FieldType.long)).before args0 about1 = true := code_word (m := ⟨7, 1⟩) (meth := k7m1) (c := k7c1) (by decide +kernel) rfl rfl rfl (by decide +kernel)
def codes1 : List Jvm.Cond := [Jvm.Cond.code x code maxLocals ret, Jvm.Cond.code ({ cls := "com/example/sevan_exchange/sevanexchange/engine/Side", name := "crosses", desc := "(JJ)Z" } : Jvm.MethodName) prog_39_method_5_code (5 : Nat) (Option.some Jvm.ClassFile.FieldType.boolean), Jvm.Cond.code ({ cls := "java/lang/Math", name := "min", desc := "(JJ)J" } : Jvm.MethodName) jdk_29_method_70_code (4 : Nat) (Option.some Jvm.ClassFile.FieldType.long), Jvm.Cond.code ({ cls := "com/example/sevan_exchange/sevanexchange/engine/Side", name := "opposite", desc := "()Lcom/example/sevan_exchange/sevanexchange/engine/Side;" } : Jvm.MethodName) prog_39_method_4_code (1 : Nat) (Option.some (Jvm.ClassFile.FieldType.object "com/example/sevan_exchange/sevanexchange/engine/Side")), Jvm.Cond.code ({ cls := "java/lang/Math", name := "max", desc := "(JJ)J" } : Jvm.MethodName) jdk_29_method_66_code (4 : Nat) (Option.some Jvm.ClassFile.FieldType.long)]
set_option maxRecDepth 65536 in
theorem codes_eq : words1.filter isCode = codes1 := rfl
theorem w_codes : ∀ c ∈ words1.filter isCode, c.before args0 about1 = true := by
  rw [codes_eq]
  intro c hc
  simp only [codes1, List.mem_cons, List.not_mem_nil, or_false] at hc
  rcases hc with rfl | rfl | rfl | rfl | rfl
  · exact w_c0
  · exact w_c1
  · exact w_c2
  · exact w_c3
  · exact w_c4
set_option maxRecDepth 65536 in
theorem w_t1 : (words1.take 24).all (fun c => isCode c || c.before args0 about1) = true := by decide +kernel
set_option maxRecDepth 65536 in
theorem w_t2 : (words1.drop 24).all (fun c => isCode c || c.before args0 about1) = true := by decide +kernel
theorem w_tables : (allAtoms (Jvm.Cond.code x code maxLocals ret :: tables_1)).before args0 about1 = true := by
  rw [allAtoms_all]
  show words1.all (fun c => c.before args0 about1) = true
  refine all_split ?_ w_codes
  rw [← List.take_append_drop 24 words1, List.all_append, w_t1, w_t2]
  rfl
set_option maxRecDepth 65536 in
theorem w_case : (Jvm.Cond.and given_1 narrow_1).before args0 about1 = true := by decide +kernel
theorem w_applies : (headSpec (Jvm.Cond.code x code maxLocals ret :: tables_1) room_1).applies x e0.platform about1 = true :=
  (Spec.applies_iff w_frames).mpr ⟨w_running, w_runnable, w_alone, w_named, w_hears, w_ripe, w_room, w_tables⟩
theorem atStart : AtStart classFile x code maxLocals ret World_1 tables_1 room_1 Calls_1 rest_1 Pre_1 launch0 p0 e0 about1 theMethod args0 below0 :=
  ⟨lists_1, trivial, launch0.admits_env _ _ _, launch0.least_env, fairChoices_fair.cas, fairChoices_fair.clock, w_frames, w_args, w_heap, w_applies, trivial, trivial, w_case⟩
end start1
theorem witness_1 : WitnessClaimed_1 := ⟨start1.p0, start1.e0, start1.about1, start1.theMethod, start1.args0, start1.below0, start1.atStart⟩
end Jvm.Pilot.@@N@@
