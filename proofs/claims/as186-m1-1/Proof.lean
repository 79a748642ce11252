import JvmDerived
import JvmDerived.Pilot.@@N@@Statement
import JvmDerived.Pilot.@@N@@Code
set_option linter.unusedVariables false
set_option linter.unusedSimpArgs false
namespace Jvm.Pilot.@@N@@
open Jvm Jvm.ClassFile Sem Op Lib Jvm.Free Jvm.Stand Jvm.LawKit Jvm.RoadKit Bundle Jvm.Pilot.@@N@@.Jvm.D

/-! 0. What a body that writes nothing leaves; a walk told forwards; the three calls -/
def own_Q (v0 : Option Value) (h0 : Heap) (v : Option Value) (h : Heap) (L : List Loc) : Prop := v = v0 ∧ L = [] ∧ h = h0
def own_Pur (l : Launch) (Z : State) (y : MethodName) (bytes : ByteArray) (maxL : Nat) (rt : Option FieldType) (fr lo : Nat) (as : Array Value) (v : Option Value) (h : Heap) : Prop :=
  ∀ ws : List Jvm.Cond, MetFree l y (head1 (Jvm.Cond.code y bytes maxL rt :: ws) ({ frames := fr, cells := 0, slots := 0, locals := lo } : Room)) (fun a U => a = as ∧ Z.Warmed39 U.vm ∧ U.heap = h) (fun _ _ _ _ _ => True)
    (fun _ U o U' => ∃ v' L, o = .returned v' ∧ own_Q v h v' U'.heap L ∧ FrameEnd U o U' L ({ frames := fr, cells := 0, slots := 0, locals := lo } : Room).cells ({ frames := fr, cells := 0, slots := 0, locals := lo } : Room).slots)
def own_Fin (p : Program) (l : Launch) (e : Env) (R : Room) (s : State) (m : MethodId) (args : Array Value) (below : List Frame) (meth : Method) (c : Code) (h : Heap) (v : Option Value) (S : State) : Prop :=
  ∃ T : State, Stand p l e R s m args below meth c T [] 0 0 ∧ T.heap = h ∧ ∀ fs : List Frame, (∀ (f : JFrame) (acts : List Action), f.method = m → f.locked = none → f.entered = [] → (doReturn e (T.setTop f) acts v).1 = T.setFrames fs) → Steps p.tables e below S (T.setFrames fs)
section Own
variable {p : Program} {l : Launch} {e : Env} {R : Room} {s : State} {m : MethodId} {args : Array Value} {below : List Frame} {meth : Method} {c : Code} {T : State} {Z : State} {a0 : Array Value} {h : Heap} {v : Option Value}
theorem own_Fin.back {S S' : State} (k : ∀ t, Steps p.tables e below S' t → Steps p.tables e below S t) (F : own_Fin p l e R s m args below meth c h v S') : own_Fin p l e R s m args below meth c h v S := by
  obtain ⟨T, X, eT, g⟩ := F
  exact ⟨T, X, eT, fun fs hr => k _ (g fs hr)⟩
theorem own_body {y : MethodName} {bytes : ByteArray} {maxL : Nat} {rt : FieldType} {fr lo : Nat} {as : Array Value} {w : Value} (hpl : plainName y.cls = true)
    (body : ∀ (p : Program) (e : Env) (s : State) (m : MethodId) (below : List Frame) (meth : Method) (c : Code) (T : State), Stand p l e ({ frames := fr, cells := 0, slots := 0, locals := lo } : Room) s m as below meth c T [] 0 0 → T.heap = h → p.tables.exec = Jvm.exec → c.code = bytes → c.maxLocals = maxL →
      s.vm.findClass y.cls = some m.cls → meth.sig.returnType = some rt → Z.Warmed39 s.vm → own_Fin p l e ({ frames := fr, cells := 0, slots := 0, locals := lo } : Room) s m as below meth c h (some w) (T.setTop (entryFrame m as maxL))) :
    own_Pur l Z y bytes maxL (some rt) fr lo as (some w) h := by
  intro ws
  refine MetFree.of_bodySF (plainFor_of_name hpl) hisR ?_
  intro p e s m args below meth c s₁ Bd hml0 hP hK
  obtain ⟨rfl, hZ, hh⟩ := hP
  have X0 : Stand p l e ({ frames := fr, cells := 0, slots := 0, locals := lo } : Room) s m args below meth c s₁ [] 0 0 := Stand.of_body Bd
  have e0 : s₁.heap = h := by rw [← hh, Bd.state]; rfl
  obtain ⟨T, X, eT, go⟩ := body p e s m below meth c s₁ X0 e0 Bd.exec Bd.bytes hml0 (findClass_of_methodNamed Bd.named) Bd.returns hZ
  obtain ⟨fs, hr, hrun, hended, hW, hsame⟩ := X.leave (v := some w) (fun h => by rw [Bd.returns] at h; cases h)
  exact ⟨_, _, go fs hr, hrun, hended, _, _, rfl, ⟨rfl, rfl, eT⟩, ⟨_, rfl⟩, hW, hsame⟩
theorem own_callS (X : Stand p l e R s m args below meth c T [] 0 0) (hx : p.tables.exec = Jvm.exec) (hZ : Z.Warmed39 s.vm) {own : String} {index : Nat} {y : MethodName} {bytes : ByteArray} {maxL : Nat} {rt : Option FieldType} {fr lo W : Nat} {argsL rest : List Value} {w : Option Value}
    (hown : s.vm.findClass own = some m.cls) (w1 : (Jvm.Cond.methodLink own index y).before a0 Z = true) (w2 : (Jvm.Cond.static y).before a0 Z = true) (w3 : (Jvm.Cond.initialized y.cls).before a0 Z = true) (w4 : (Jvm.Cond.code y bytes maxL rt).before a0 Z = true)
    (hy : y.cls ≠ "java/lang/invoke/MethodHandle" ∧ y.cls ≠ "java/lang/invoke/VarHandle")
    (hM : own_Pur l Z y bytes maxL rt fr lo argsL.toArray w h) (eT : T.heap = h) (hf : fr + 1 ≤ R.frames) (hl : W + (maxL + 11) + lo ≤ R.locals)
    {g : JFrame} (hg : g.method = m) (hsize : g.locals.size = c.maxLocals) (hlen : ∀ sig, parseMethodDescriptor y.desc = some sig → argsL.length = sig.parameters.length)
    (hstack : g.stack = argsL.reverse ++ rest) (hW : 2 * g.monitorRoom + (rest.map fun v => v.category).sum ≤ W) (hdg : decode c.code g.pc = .ok (.invokestatic index, 3)) :
    ∃ T', Stand p l e R s m args below meth c T' [] 0 0 ∧ T'.heap = h ∧ ∀ t, Steps p.tables e below (T'.setTop { g with pc := g.pc + 3, stack := w.toList ++ rest }) t → Steps p.tables e below (T.setTop g) t := by
  obtain ⟨_, _, ⟨T1, L1, k1, n1⟩, -, X1, ⟨Lc, hQ, l1, y1, z1⟩, st⟩ := Jvm.LawKit.callS X hx hown (mvT hZ w1) (mvT hZ w2) (mvT hZ w3) (mvT hZ w4) hy (backOf (W := W) (hM []) hZ w4 w3 hf hl) hg hsize hlen hstack hW hdg (fun _ _ => ⟨rfl, eT, Nat.zero_le _, Nat.zero_le _⟩)
  dsimp only [Pt.U, Pt.locs, Pt.cells, Pt.slots] at X1 l1 y1 z1 st hQ
  subst l1 y1 z1
  obtain ⟨rfl, rfl, e1⟩ := hQ
  exact ⟨T1, X1, e1, st⟩
theorem own_callV (X : Stand p l e R s m args below meth c T [] 0 0) (hx : p.tables.exec = Jvm.exec) (hZ : Z.Warmed39 s.vm) {own C : String} {index : Nat} {y : MethodName} {bytes : ByteArray} {maxL : Nat} {rt : Option FieldType} {fr lo W : Nat} {b : Addr} {argsL rest : List Value} {w : Option Value}
    (hown : s.vm.findClass own = some m.cls) (w1 : (Jvm.Cond.methodLink own index y).before a0 Z = true) (w2 : (Jvm.Cond.declares y).before a0 Z = true) (w3 : (Jvm.Cond.selects C y y).before a0 Z = true) (w4 : (Jvm.Cond.instanceMethod y).before a0 Z = true) (w5 : (Jvm.Cond.code y bytes maxL rt).before a0 Z = true) (w6 : (Jvm.Cond.initialized y.cls).before a0 Z = true)
    (hy : y.cls ≠ "java/lang/invoke/MethodHandle" ∧ y.cls ≠ "java/lang/invoke/VarHandle")
    (hM : own_Pur l Z y bytes maxL rt fr lo (Value.ref b :: argsL).toArray w h) (eT : T.heap = h) (E : Exa Z h b C) (hf : fr + 1 ≤ R.frames) (hl : W + (maxL + 11) + lo ≤ R.locals)
    {g : JFrame} (hg : g.method = m) (hsize : g.locals.size = c.maxLocals) (hlen : ∀ sig, parseMethodDescriptor y.desc = some sig → argsL.length = sig.parameters.length)
    (hstack : g.stack = argsL.reverse ++ .ref b :: rest) (hW : 2 * g.monitorRoom + (rest.map fun v => v.category).sum ≤ W) (hdg : decode c.code g.pc = .ok (.invokevirtual index, 3)) :
    ∃ T', Stand p l e R s m args below meth c T' [] 0 0 ∧ T'.heap = h ∧ ∀ t, Steps p.tables e below (T'.setTop { g with pc := g.pc + 3, stack := w.toList ++ rest }) t → Steps p.tables e below (T.setTop g) t := by
  obtain ⟨cq, kq, qa, qb, qc⟩ := isOf (T := T) hZ eT E
  obtain ⟨_, _, ⟨T1, L1, k1, n1⟩, -, X1, ⟨Lc, hQ, l1, y1, z1⟩, st⟩ := X.virtualBack hx hown (mvT hZ w1) (mvT hZ w2) (notFace_of_selects (args := #[]) (mvT hZ w3)) (mvT hZ w3) (mvT hZ w4) hy (backOf (W := W) (hM []) hZ w5 w6 hf hl) qa qc hg hsize (Steps.refl _) hlen hstack hW hdg (fun _ _ => ⟨rfl, eT, Nat.zero_le _, Nat.zero_le _⟩)
  dsimp only [Pt.U, Pt.locs, Pt.cells, Pt.slots] at X1 l1 y1 z1 st hQ
  subst l1 y1 z1
  obtain ⟨rfl, rfl, e1⟩ := hQ
  exact ⟨T1, X1, e1, fun t k => st.trans k⟩
theorem own_callU (X : Stand p l e R s m args below meth c T [] 0 0) (hx : p.tables.exec = Jvm.exec) (hZ : Z.Warmed39 s.vm) {own C owner : String} {index : Nat} {y z : MethodName} {bytes : ByteArray} {maxL : Nat} {rt : Option FieldType} {fr lo W : Nat} {b : Addr} {argsL rest : List Value} {w : Option Value}
    (hown : s.vm.findClass own = some m.cls) (w1 : (Jvm.Cond.methodLink own index y).before a0 Z = true) (w2 : (Jvm.Cond.sameMethod y.cls owner y.name y.desc).before a0 Z = true) (w3 : (Jvm.Cond.declares ⟨owner, y.name, y.desc⟩).before a0 Z = true) (w4 : (Jvm.Cond.selects C y z).before a0 Z = true) (w5 : (Jvm.Cond.instanceMethod z).before a0 Z = true) (w6 : (Jvm.Cond.code z bytes maxL rt).before a0 Z = true) (w7 : (Jvm.Cond.initialized z.cls).before a0 Z = true)
    (hy : owner ≠ "java/lang/invoke/MethodHandle" ∧ owner ≠ "java/lang/invoke/VarHandle")
    (hM : own_Pur l Z z bytes maxL rt fr lo (Value.ref b :: argsL).toArray w h) (eT : T.heap = h) (E : Exa Z h b C) (hf : fr + 1 ≤ R.frames) (hl : W + (maxL + 11) + lo ≤ R.locals)
    {g : JFrame} (hg : g.method = m) (hsize : g.locals.size = c.maxLocals) (hlen : ∀ sig, parseMethodDescriptor y.desc = some sig → argsL.length = sig.parameters.length)
    (hstack : g.stack = argsL.reverse ++ .ref b :: rest) (hW : 2 * g.monitorRoom + (rest.map fun v => v.category).sum ≤ W) (hdg : decode c.code g.pc = .ok (.invokevirtual index, 3)) :
    ∃ T', Stand p l e R s m args below meth c T' [] 0 0 ∧ T'.heap = h ∧ ∀ t, Steps p.tables e below (T'.setTop { g with pc := g.pc + 3, stack := w.toList ++ rest }) t → Steps p.tables e below (T.setTop g) t := by
  obtain ⟨cq, kq, qa, qb, qc⟩ := isOf (T := T) hZ eT E
  obtain ⟨_, _, ⟨T1, L1, k1, n1⟩, -, X1, ⟨Lc, hQ, l1, y1, z1⟩, st⟩ := X.virtualBackUp hx hown (mvT hZ w1) (mvT hZ w2) (mvT hZ w3) hy (mvT hZ w4) (mvT hZ w5) (backOf (W := W) (hM []) hZ w6 w7 hf hl) qa qc hg hsize (Steps.refl _) hlen hstack hW hdg (fun _ _ => ⟨rfl, eT, Nat.zero_le _, Nat.zero_le _⟩)
  dsimp only [Pt.U, Pt.locs, Pt.cells, Pt.slots] at X1 l1 y1 z1 st hQ
  subst l1 y1 z1
  obtain ⟨rfl, rfl, e1⟩ := hQ
  exact ⟨T1, X1, e1, fun t k => st.trans k⟩
theorem own_ne {a b : Addr} {C n d : String} {x y : Value} (F : Fld Z h a C n d x) (G : Fld Z h b C n d y) (hn : x ≠ y) : a ≠ b := fun q => by
  subst q
  obtain ⟨c1, f1, k1, i1, g1, h1, h2, -, -, -, -, h7⟩ := F
  obtain ⟨c2, f2, k2, i2, g2, j1, j2, -, -, -, -, j7⟩ := G
  cases h1.symm.trans j1
  cases h2.symm.trans j2
  exact hn (Option.some.inj (h7.symm.trans j7))
theorem own_acmp_same {b : Addr} : XT.acmp .eq (.ref b) (.ref b) = true ∧ XT.acmp .ne (.ref b) (.ref b) = false := by simp [XT.acmp]
theorem own_acmp_diff {a b : Addr} (hn : a ≠ b) : XT.acmp .eq (.ref a) (.ref b) = false ∧ XT.acmp .ne (.ref a) (.ref b) = true := by simp [XT.acmp, hn]
theorem own_sta {C n d : String} {a : Addr} (ev : (Term.static C n d).eval args Z none [] Z = some (.ref a)) (wi : (Jvm.Cond.initialized C).before args Z = true) (wl : (Jvm.Cond.laysStatic C n d).before args Z = true) : Sta Z Z.heap C n d (.ref a) := Sta.start ev (Or.inr ⟨wi, wl⟩)
theorem own_fldE {t : Term} {C n d : String} {a : Addr} {x : Value} (ev : t.eval args Z none [] Z = some (.ref a)) (e2 : (Term.field t C n d).eval args Z none [] Z = some x) : Fld Z Z.heap a C n d x := Fld.start ((fld_at ev).symm.trans e2)
theorem own_fldI {t : Term} {C n d : String} {a : Addr} {k : Int32} (ev : t.eval args Z none [] Z = some (.ref a)) (hN : (Jvm.Cond.eq (.field t C n d) (.int k)).value args Z none Z [] = some true) : Fld Z Z.heap a C n d (.int k) := by
  obtain ⟨x, y, g1, g2, k1, k2⟩ := cmp_v (Or.inl hN)
  obtain rfl : Value.int k = y := Option.some.inj ((Term.int_eval k).symm.trans g2)
  obtain ⟨z, rfl⟩ := k2
  obtain rfl : z = k := gotT (Jvm.Cond.eq_ints g1 g2) hN
  exact own_fldE ev g1
theorem own_fldL {t : Term} {C n d : String} {a : Addr} {k : Int64} (ev : t.eval args Z none [] Z = some (.ref a)) (hN : (Jvm.Cond.eq (.field t C n d) (.long k)).value args Z none Z [] = some true) : Fld Z Z.heap a C n d (.long k) := by
  obtain ⟨x, y, g1, g2, k1, k2⟩ := cmp_v (Or.inl hN)
  have g3 : (Term.long k).eval args Z none [] Z = some (.long k) := rfl
  obtain rfl : Value.long k = y := Option.some.inj (g3.symm.trans g2)
  obtain ⟨z, rfl⟩ := k2
  obtain rfl : z = k := gotT (eq_L g1 g2) hN
  exact own_fldE ev g1
theorem own_fldR {t u : Term} {C n d : String} {a b : Addr} (ev : t.eval args Z none [] Z = some (.ref a)) (eu : u.eval args Z none [] Z = some (.ref b)) (hN : (Jvm.Cond.eq (.field t C n d) u).value args Z none Z [] = some true) : Fld Z Z.heap a C n d (.ref b) := by
  obtain ⟨x, y, g1, g2, k1, k2⟩ := cmp_v (Or.inl hN)
  obtain rfl : Value.ref b = y := Option.some.inj (eu.symm.trans g2)
  have hx : x.isRef = true := k2.2
  obtain rfl : x = Value.ref b := gotT (eq_R g1 eu hx rfl) hN
  exact own_fldE ev g1
end Own

/-! 1. What is known of the constants -/
def own_Facts (Z : State) (h0 : Heap) (a_FAILED a_DELIVERED a_GONE : Addr) : Prop :=
  (Sta Z h0 "com/example/acquit/acquit/webhook/AttemptOutcome" "FAILED" "Lcom/example/acquit/acquit/webhook/AttemptOutcome;" (.ref a_FAILED)) ∧
  (Exa Z h0 a_FAILED "com/example/acquit/acquit/webhook/AttemptOutcome") ∧
  (Sta Z h0 "com/example/acquit/acquit/webhook/AttemptOutcome" "DELIVERED" "Lcom/example/acquit/acquit/webhook/AttemptOutcome;" (.ref a_DELIVERED)) ∧
  (Exa Z h0 a_DELIVERED "com/example/acquit/acquit/webhook/AttemptOutcome") ∧
  (Sta Z h0 "com/example/acquit/acquit/webhook/AttemptOutcome" "GONE" "Lcom/example/acquit/acquit/webhook/AttemptOutcome;" (.ref a_GONE)) ∧
  (Exa Z h0 a_GONE "com/example/acquit/acquit/webhook/AttemptOutcome")
theorem own_div (n : Int32) : if_icmp.holds .ne (n / (100 : Int32)) (2 : Int32) = (if_icmp.holds .lt n (200 : Int32) || if_icmp.holds .gt n (299 : Int32)) := by
  have e1 : (n / (100 : Int32)).toInt = n.toInt.tdiv 100 := by
    rw [Int32.toInt_div]
    have h1 := n.toInt_lt; have h2 := n.le_toInt
    have e0 : (100 : Int32).toInt = 100 := rfl
    rw [e0]
    have h3 : n.toInt.tdiv 100 ≤ 2 ^ 31 - 1 ∧ -2 ^ 31 ≤ n.toInt.tdiv 100 := by
      rcases Int.le_total 0 n.toInt with h | h
      · rw [Int.tdiv_eq_ediv_of_nonneg h]; omega
      · have h4 : n.toInt.tdiv 100 = -((-n.toInt) / 100) := by
          rw [← Int.tdiv_eq_ediv_of_nonneg (by omega), Int.neg_tdiv, Int.neg_neg]
        rw [h4]; omega
    exact Int.bmod_eq_of_le (by omega) (by omega)
  have e2 : n / (100 : Int32) = 2 ↔ 200 ≤ n.toInt ∧ n.toInt ≤ 299 := by
    rw [← Int32.toInt_inj, e1]
    have e0 : (2 : Int32).toInt = 2 := rfl
    rw [e0]
    rcases Int.le_total 0 n.toInt with h | h
    · rw [Int.tdiv_eq_ediv_of_nonneg h]; omega
    · have h4 : n.toInt.tdiv 100 = -((-n.toInt) / 100) := by
        rw [← Int.tdiv_eq_ediv_of_nonneg (by omega), Int.neg_tdiv, Int.neg_neg]
      rw [h4]; omega
  have e3 : (n < (200 : Int32)) ↔ n.toInt < 200 := by rw [Int32.lt_iff_toInt_lt]; rfl
  have e4 : ((299 : Int32) < n) ↔ 299 < n.toInt := by rw [Int32.lt_iff_toInt_lt]; rfl
  have e5 : if_icmp.holds .ne (n / (100 : Int32)) (2 : Int32) = !decide (n / (100 : Int32) = 2) := by
    have q : (n / (100 : Int32) == 2) = decide (n / (100 : Int32) = 2) := by rw [Bool.eq_iff_iff, beq_iff_eq, decide_eq_true_eq]
    exact congrArg (fun b => !b) q
  have e6 : if_icmp.holds .lt n (200 : Int32) = decide (n < (200 : Int32)) := rfl
  have e7 : if_icmp.holds .gt n (299 : Int32) = decide ((299 : Int32) < n) := rfl
  rw [e5, e6, e7, Bool.eq_iff_iff]
  simp only [Bool.not_eq_true', decide_eq_false_iff_not, Bool.or_eq_true, decide_eq_true_eq, e2, e3, e4]
  omega
theorem own_pn0 : plainName "com/example/acquit/acquit/webhook/AttemptOutcome" = true := by first | (simp [plainName, overriddenIn]; done) | decide +kernel
theorem own_ef_d1 (m : MethodId) (x0 : Int32) : entryFrame m #[(.int x0)] 1 = mkF m 0 #[.val (.int x0)] [] := by first | (simp [entryFrame, mkF, argsToLocals, Value.category]; done) | rfl
theorem own_d1_0 : decode prog_53_method_4_code 0 = .ok (.iload_n 0, 1) := by decide +kernel
theorem own_d1_1 : decode prog_53_method_4_code 1 = .ok (.bipush 100, 2) := by decide +kernel
theorem own_d1_3 : decode prog_53_method_4_code 3 = .ok (.idiv, 1) := by decide +kernel
theorem own_d1_4 : decode prog_53_method_4_code 4 = .ok (.iconst 2, 1) := by decide +kernel
theorem own_d1_5 : decode prog_53_method_4_code 5 = .ok (.if_icmp .ne 7, 3) := by decide +kernel
theorem own_d1_8 : decode prog_53_method_4_code 8 = .ok (.getstatic 3, 3) := by decide +kernel
theorem own_d1_11 : decode prog_53_method_4_code 11 = .ok (.areturn, 1) := by decide +kernel
set_option maxRecDepth 65536 in
set_option maxHeartbeats 40000000 in
theorem own_ofD (l : Launch) (Z : State) (a0 : Array Value) (hw : ∀ d ∈ tables_1, d.before a0 Z = true) (h0 : Heap) {a_FAILED a_DELIVERED a_GONE : Addr} (H : own_Facts Z h0 a_FAILED a_DELIVERED a_GONE) (n : Int32) (hd : if_icmp.holds .ne (n / (100 : Int32)) (2 : Int32) = false) :
    own_Pur l Z (⟨"com/example/acquit/acquit/webhook/AttemptOutcome", "ofStatus", "(I)Lcom/example/acquit/acquit/webhook/AttemptOutcome;"⟩ : MethodName) prog_53_method_4_code 1 (some (.object "com/example/acquit/acquit/webhook/AttemptOutcome")) 0 0 #[(.int n)] (some (.ref a_DELIVERED)) h0 := by
  have H0 := H
  obtain ⟨S_FAILED, X_FAILED, S_DELIVERED, X_DELIVERED, S_GONE, X_GONE⟩ := H0
  refine own_body own_pn0 ?_
  intro p e s m below meth c T0 X0 e0 hx hby hml hown hret hZ
  have hown : s.vm.findClass "com/example/acquit/acquit/webhook/AttemptOutcome" = some m.cls := hown
  rw [own_ef_d1 m n]
  refine own_Fin.back (S' := T0.setTop (mkF m 1 #[.val (.int n)] [(.int n)])) (fun t k => XS.iloadN X0.here hx rfl (hb hby own_d1_0) rfl k) ?_
  refine own_Fin.back (S' := T0.setTop (mkF m 3 #[.val (.int n)] [(.int (100 : Int32)), (.int n)])) (fun t k => XT.bipushV X0.here hx rfl (100 : Int32) (hb hby own_d1_1) (by decide) k) ?_
  refine own_Fin.back (S' := T0.setTop (mkF m 4 #[.val (.int n)] [(.int (n / (100 : Int32)))])) (fun t k => XS.idiv X0.here hx rfl (hb hby own_d1_3) rfl (by decide) k) ?_
  refine own_Fin.back (S' := T0.setTop (mkF m 5 #[.val (.int n)] [(.int (2 : Int32)), (.int (n / (100 : Int32)))])) (fun t k => XS.iconst X0.here hx rfl (hb hby own_d1_4) k) ?_
  refine own_Fin.back (S' := T0.setTop (mkF m 8 #[.val (.int n)] [])) (fun t k => XS.icmpNo X0.here hx rfl (hb hby own_d1_5) rfl hd k) ?_
  obtain ⟨T1, X1, e1, k1⟩ := getS X0 hx hZ hown (host := "") (hw _ (List.mem_of_getElem? (i := 8) rfl)) Via.refl e0 S_DELIVERED (g := (mkF m 8 #[.val (.int n)] [])) rfl (hb hby own_d1_8)
  refine own_Fin.back (S' := T1.setTop (mkF m 11 #[.val (.int n)] [(.ref a_DELIVERED)])) k1 ?_
  exact ⟨T1, X1, e1, fun fs hr => retOut X1 hx (w := (.ref a_DELIVERED)) (t := (.object "com/example/acquit/acquit/webhook/AttemptOutcome")) hret rfl (Or.inr (Or.inr (Or.inr (Or.inr ⟨rfl, rfl, rfl⟩)))) (hb hby own_d1_11) hr⟩
theorem own_d1_12 : decode prog_53_method_4_code 12 = .ok (.iload_n 0, 1) := by decide +kernel
theorem own_d1_13 : decode prog_53_method_4_code 13 = .ok (.sipush 410, 3) := by decide +kernel
theorem own_d1_16 : decode prog_53_method_4_code 16 = .ok (.if_icmp .ne 9, 3) := by decide +kernel
theorem own_d1_19 : decode prog_53_method_4_code 19 = .ok (.getstatic 7, 3) := by decide +kernel
theorem own_d1_22 : decode prog_53_method_4_code 22 = .ok (.goto 6, 3) := by decide +kernel
theorem own_d1_28 : decode prog_53_method_4_code 28 = .ok (.areturn, 1) := by decide +kernel
set_option maxRecDepth 65536 in
set_option maxHeartbeats 40000000 in
theorem own_ofG (l : Launch) (Z : State) (a0 : Array Value) (hw : ∀ d ∈ tables_1, d.before a0 Z = true) (h0 : Heap) {a_FAILED a_DELIVERED a_GONE : Addr} (H : own_Facts Z h0 a_FAILED a_DELIVERED a_GONE) (n : Int32) (hd : if_icmp.holds .ne (n / (100 : Int32)) (2 : Int32) = true) (hn : if_icmp.holds .ne n (410 : Int32) = false) :
    own_Pur l Z (⟨"com/example/acquit/acquit/webhook/AttemptOutcome", "ofStatus", "(I)Lcom/example/acquit/acquit/webhook/AttemptOutcome;"⟩ : MethodName) prog_53_method_4_code 1 (some (.object "com/example/acquit/acquit/webhook/AttemptOutcome")) 0 0 #[(.int n)] (some (.ref a_GONE)) h0 := by
  have H0 := H
  obtain ⟨S_FAILED, X_FAILED, S_DELIVERED, X_DELIVERED, S_GONE, X_GONE⟩ := H0
  refine own_body own_pn0 ?_
  intro p e s m below meth c T0 X0 e0 hx hby hml hown hret hZ
  have hown : s.vm.findClass "com/example/acquit/acquit/webhook/AttemptOutcome" = some m.cls := hown
  rw [own_ef_d1 m n]
  refine own_Fin.back (S' := T0.setTop (mkF m 1 #[.val (.int n)] [(.int n)])) (fun t k => XS.iloadN X0.here hx rfl (hb hby own_d1_0) rfl k) ?_
  refine own_Fin.back (S' := T0.setTop (mkF m 3 #[.val (.int n)] [(.int (100 : Int32)), (.int n)])) (fun t k => XT.bipushV X0.here hx rfl (100 : Int32) (hb hby own_d1_1) (by decide) k) ?_
  refine own_Fin.back (S' := T0.setTop (mkF m 4 #[.val (.int n)] [(.int (n / (100 : Int32)))])) (fun t k => XS.idiv X0.here hx rfl (hb hby own_d1_3) rfl (by decide) k) ?_
  refine own_Fin.back (S' := T0.setTop (mkF m 5 #[.val (.int n)] [(.int (2 : Int32)), (.int (n / (100 : Int32)))])) (fun t k => XS.iconst X0.here hx rfl (hb hby own_d1_4) k) ?_
  refine own_Fin.back (S' := T0.setTop (mkF m 12 #[.val (.int n)] [])) (fun t k => XS.icmpYes X0.here hx rfl (pc0 := 5) (pc' := 12) rfl (hb hby own_d1_5) rfl hd (by decide) (by decide) k) ?_
  refine own_Fin.back (S' := T0.setTop (mkF m 13 #[.val (.int n)] [(.int n)])) (fun t k => XS.iloadN X0.here hx rfl (hb hby own_d1_12) rfl k) ?_
  refine own_Fin.back (S' := T0.setTop (mkF m 16 #[.val (.int n)] [(.int (410 : Int32)), (.int n)])) (fun t k => XT.sipushV X0.here hx rfl (410 : Int32) (hb hby own_d1_13) (by decide) k) ?_
  refine own_Fin.back (S' := T0.setTop (mkF m 19 #[.val (.int n)] [])) (fun t k => XS.icmpNo X0.here hx rfl (hb hby own_d1_16) rfl hn k) ?_
  obtain ⟨T2, X2, e2, k2⟩ := getS X0 hx hZ hown (host := "") (hw _ (List.mem_of_getElem? (i := 11) rfl)) Via.refl e0 S_GONE (g := (mkF m 19 #[.val (.int n)] [])) rfl (hb hby own_d1_19)
  refine own_Fin.back (S' := T2.setTop (mkF m 22 #[.val (.int n)] [(.ref a_GONE)])) k2 ?_
  refine own_Fin.back (S' := T2.setTop (mkF m 28 #[.val (.int n)] [(.ref a_GONE)])) (fun t k => XS.goto X2.here hx rfl (pc0 := 22) (pc' := 28) rfl (hb hby own_d1_22) (by decide) (by decide) k) ?_
  exact ⟨T2, X2, e2, fun fs hr => retOut X2 hx (w := (.ref a_GONE)) (t := (.object "com/example/acquit/acquit/webhook/AttemptOutcome")) hret rfl (Or.inr (Or.inr (Or.inr (Or.inr ⟨rfl, rfl, rfl⟩)))) (hb hby own_d1_28) hr⟩
theorem own_d1_25 : decode prog_53_method_4_code 25 = .ok (.getstatic 10, 3) := by decide +kernel
set_option maxRecDepth 65536 in
set_option maxHeartbeats 40000000 in
theorem own_ofF (l : Launch) (Z : State) (a0 : Array Value) (hw : ∀ d ∈ tables_1, d.before a0 Z = true) (h0 : Heap) {a_FAILED a_DELIVERED a_GONE : Addr} (H : own_Facts Z h0 a_FAILED a_DELIVERED a_GONE) (n : Int32) (hd : if_icmp.holds .ne (n / (100 : Int32)) (2 : Int32) = true) (hn : if_icmp.holds .ne n (410 : Int32) = true) :
    own_Pur l Z (⟨"com/example/acquit/acquit/webhook/AttemptOutcome", "ofStatus", "(I)Lcom/example/acquit/acquit/webhook/AttemptOutcome;"⟩ : MethodName) prog_53_method_4_code 1 (some (.object "com/example/acquit/acquit/webhook/AttemptOutcome")) 0 0 #[(.int n)] (some (.ref a_FAILED)) h0 := by
  have H0 := H
  obtain ⟨S_FAILED, X_FAILED, S_DELIVERED, X_DELIVERED, S_GONE, X_GONE⟩ := H0
  refine own_body own_pn0 ?_
  intro p e s m below meth c T0 X0 e0 hx hby hml hown hret hZ
  have hown : s.vm.findClass "com/example/acquit/acquit/webhook/AttemptOutcome" = some m.cls := hown
  rw [own_ef_d1 m n]
  refine own_Fin.back (S' := T0.setTop (mkF m 1 #[.val (.int n)] [(.int n)])) (fun t k => XS.iloadN X0.here hx rfl (hb hby own_d1_0) rfl k) ?_
  refine own_Fin.back (S' := T0.setTop (mkF m 3 #[.val (.int n)] [(.int (100 : Int32)), (.int n)])) (fun t k => XT.bipushV X0.here hx rfl (100 : Int32) (hb hby own_d1_1) (by decide) k) ?_
  refine own_Fin.back (S' := T0.setTop (mkF m 4 #[.val (.int n)] [(.int (n / (100 : Int32)))])) (fun t k => XS.idiv X0.here hx rfl (hb hby own_d1_3) rfl (by decide) k) ?_
  refine own_Fin.back (S' := T0.setTop (mkF m 5 #[.val (.int n)] [(.int (2 : Int32)), (.int (n / (100 : Int32)))])) (fun t k => XS.iconst X0.here hx rfl (hb hby own_d1_4) k) ?_
  refine own_Fin.back (S' := T0.setTop (mkF m 12 #[.val (.int n)] [])) (fun t k => XS.icmpYes X0.here hx rfl (pc0 := 5) (pc' := 12) rfl (hb hby own_d1_5) rfl hd (by decide) (by decide) k) ?_
  refine own_Fin.back (S' := T0.setTop (mkF m 13 #[.val (.int n)] [(.int n)])) (fun t k => XS.iloadN X0.here hx rfl (hb hby own_d1_12) rfl k) ?_
  refine own_Fin.back (S' := T0.setTop (mkF m 16 #[.val (.int n)] [(.int (410 : Int32)), (.int n)])) (fun t k => XT.sipushV X0.here hx rfl (410 : Int32) (hb hby own_d1_13) (by decide) k) ?_
  refine own_Fin.back (S' := T0.setTop (mkF m 25 #[.val (.int n)] [])) (fun t k => XS.icmpYes X0.here hx rfl (pc0 := 16) (pc' := 25) rfl (hb hby own_d1_16) rfl hn (by decide) (by decide) k) ?_
  obtain ⟨T3, X3, e3, k3⟩ := getS X0 hx hZ hown (host := "") (hw _ (List.mem_of_getElem? (i := 5) rfl)) Via.refl e0 S_FAILED (g := (mkF m 25 #[.val (.int n)] [])) rfl (hb hby own_d1_25)
  refine own_Fin.back (S' := T3.setTop (mkF m 28 #[.val (.int n)] [(.ref a_FAILED)])) k3 ?_
  exact ⟨T3, X3, e3, fun fs hr => retOut X3 hx (w := (.ref a_FAILED)) (t := (.object "com/example/acquit/acquit/webhook/AttemptOutcome")) hret rfl (Or.inr (Or.inr (Or.inr (Or.inr ⟨rfl, rfl, rfl⟩)))) (hb hby own_d1_28) hr⟩
theorem own_pn1 : plainName "com/example/acquit/acquit/webhook/AttemptOutcomeOfStatusPinLaw" = true := by first | (simp [plainName, overriddenIn]; done) | decide +kernel
theorem own_ef_law (m : MethodId) (x0 : Int32) (x1 : Int32) : entryFrame m #[(.int x0), (.int x1)] maxLocals = mkF m 0 #[.val (.int x0), .val (.int x1), .unset, .unset, .unset, .unset, .unset] [] := by first | (simp [entryFrame, mkF, argsToLocals, Value.category, maxLocals]; done) | rfl
set_option maxRecDepth 65536 in
set_option maxHeartbeats 40000000 in
theorem own_law (l : Launch) (Z : State) (a0 : Array Value) (hw : ∀ d ∈ tables_1, d.before a0 Z = true) (h0 : Heap) {a_FAILED a_DELIVERED a_GONE : Addr} (H : own_Facts Z h0 a_FAILED a_DELIVERED a_GONE) (p0 p1 : Int32) :
    own_Pur l Z x code maxLocals (some .boolean) 4 112 #[(.int p0), (.int p1)] (some (.int (1 : Int32))) h0 := by
  have H0 := H
  obtain ⟨S_FAILED, X_FAILED, S_DELIVERED, X_DELIVERED, S_GONE, X_GONE⟩ := H0
  refine own_body own_pn1 ?_
  intro p e s m below meth c T0 X0 e0 hx hby hml hown hret hZ
  have hown : s.vm.findClass "com/example/acquit/acquit/webhook/AttemptOutcomeOfStatusPinLaw" = some m.cls := hown
  rw [own_ef_law m p0 p1]
  have suf : ∀ (T : State), Stand p l e ({ frames := 4, cells := 0, slots := 0, locals := 112 } : Room) s m #[(.int p0), (.int p1)] below meth c T [] 0 0 → T.heap = h0 → ∀ k0 r0 n : Int32, own_Fin p l e ({ frames := 4, cells := 0, slots := 0, locals := 112 } : Room) s m #[(.int p0), (.int p1)] below meth c h0 (some (.int (1 : Int32))) (T.setTop (mkF m 60 #[.val (.int p0), .val (.int p1), .val (.int k0), .val (.int r0), .val (.int n), .unset, .unset] [])) := by
    intro T1000 X1000 e1000 k0 r0 n
    have dv := own_div n
    rcases hlt : if_icmp.holds .lt n (200 : Int32) with _ | _
    · rcases hgt : if_icmp.holds .gt n (299 : Int32) with _ | _
      · refine own_Fin.back (S' := T1000.setTop (mkF m 62 #[.val (.int p0), .val (.int p1), .val (.int k0), .val (.int r0), .val (.int n), .unset, .unset] [(.int n)])) (fun t k => XS.iload X1000.here hx rfl (hb hby at_60) rfl k) ?_
        obtain ⟨T4, X4, e4, k4⟩ := own_callS X1000 hx hZ (y := (⟨"com/example/acquit/acquit/webhook/AttemptOutcome", "ofStatus", "(I)Lcom/example/acquit/acquit/webhook/AttemptOutcome;"⟩ : MethodName)) (W := 0) hown (hw _ (List.mem_of_getElem? (i := 1) rfl)) (hw _ (List.mem_of_getElem? (i := 2) rfl)) (hw _ (List.mem_of_getElem? (i := 3) rfl)) (hw _ (List.mem_of_getElem? (i := 4) rfl)) (by decide) (own_ofD l Z a0 hw h0 H n (by rw [dv, hlt, hgt]; first | done | rfl)) e1000 (by decide) (by decide) (g := (mkF m 62 #[.val (.int p0), .val (.int p1), .val (.int k0), .val (.int r0), .val (.int n), .unset, .unset] [(.int n)])) rfl (by rw [hml]; rfl) (argsL := [(.int n)]) (rest := []) (lenOf (show parseMethodDescriptor "(I)Lcom/example/acquit/acquit/webhook/AttemptOutcome;" = some ⟨[.int], some (.object "com/example/acquit/acquit/webhook/AttemptOutcome")⟩ by decide +kernel) rfl) rfl (by show 2 * 0 + _ ≤ _; exact Nat.le_of_eq rfl) (hb hby at_62)
        refine own_Fin.back (S' := T4.setTop (mkF m 65 #[.val (.int p0), .val (.int p1), .val (.int k0), .val (.int r0), .val (.int n), .unset, .unset] [(.ref a_DELIVERED)])) k4 ?_
        refine own_Fin.back (S' := T4.setTop (mkF m 67 #[.val (.int p0), .val (.int p1), .val (.int k0), .val (.int r0), .val (.int n), .val (.ref a_DELIVERED), .unset] [])) (fun t k => XS.astore X4.here hx rfl (hb hby at_65) rfl rfl (l' := #[.val (.int p0), .val (.int p1), .val (.int k0), .val (.int r0), .val (.int n), .val (.ref a_DELIVERED), .unset]) rfl k) ?_
        refine own_Fin.back (S' := T4.setTop (mkF m 69 #[.val (.int p0), .val (.int p1), .val (.int k0), .val (.int r0), .val (.int n), .val (.ref a_DELIVERED), .unset] [(.int n)])) (fun t k => XS.iload X4.here hx rfl (hb hby at_67) rfl k) ?_
        refine own_Fin.back (S' := T4.setTop (mkF m 72 #[.val (.int p0), .val (.int p1), .val (.int k0), .val (.int r0), .val (.int n), .val (.ref a_DELIVERED), .unset] [(.int (200 : Int32)), (.int n)])) (fun t k => XT.sipushV X4.here hx rfl (200 : Int32) (hb hby at_69) (by decide) k) ?_
        refine own_Fin.back (S' := T4.setTop (mkF m 75 #[.val (.int p0), .val (.int p1), .val (.int k0), .val (.int r0), .val (.int n), .val (.ref a_DELIVERED), .unset] [])) (fun t k => XS.icmpNo X4.here hx rfl (hb hby at_72) rfl hlt k) ?_
        refine own_Fin.back (S' := T4.setTop (mkF m 77 #[.val (.int p0), .val (.int p1), .val (.int k0), .val (.int r0), .val (.int n), .val (.ref a_DELIVERED), .unset] [(.int n)])) (fun t k => XS.iload X4.here hx rfl (hb hby at_75) rfl k) ?_
        refine own_Fin.back (S' := T4.setTop (mkF m 80 #[.val (.int p0), .val (.int p1), .val (.int k0), .val (.int r0), .val (.int n), .val (.ref a_DELIVERED), .unset] [(.int (299 : Int32)), (.int n)])) (fun t k => XT.sipushV X4.here hx rfl (299 : Int32) (hb hby at_77) (by decide) k) ?_
        refine own_Fin.back (S' := T4.setTop (mkF m 83 #[.val (.int p0), .val (.int p1), .val (.int k0), .val (.int r0), .val (.int n), .val (.ref a_DELIVERED), .unset] [])) (fun t k => XS.icmpNo X4.here hx rfl (hb hby at_80) rfl hgt k) ?_
        obtain ⟨T5, X5, e5, k5⟩ := getS X4 hx hZ hown (host := "") (hw _ (List.mem_of_getElem? (i := 10) rfl)) Via.refl e4 S_DELIVERED (g := (mkF m 83 #[.val (.int p0), .val (.int p1), .val (.int k0), .val (.int r0), .val (.int n), .val (.ref a_DELIVERED), .unset] [])) rfl (hb hby at_83)
        refine own_Fin.back (S' := T5.setTop (mkF m 86 #[.val (.int p0), .val (.int p1), .val (.int k0), .val (.int r0), .val (.int n), .val (.ref a_DELIVERED), .unset] [(.ref a_DELIVERED)])) k5 ?_
        refine own_Fin.back (S' := T5.setTop (mkF m 88 #[.val (.int p0), .val (.int p1), .val (.int k0), .val (.int r0), .val (.int n), .val (.ref a_DELIVERED), .val (.ref a_DELIVERED)] [])) (fun t k => XS.astore X5.here hx rfl (hb hby at_86) rfl rfl (l' := #[.val (.int p0), .val (.int p1), .val (.int k0), .val (.int r0), .val (.int n), .val (.ref a_DELIVERED), .val (.ref a_DELIVERED)]) rfl k) ?_
        refine own_Fin.back (S' := T5.setTop (mkF m 112 #[.val (.int p0), .val (.int p1), .val (.int k0), .val (.int r0), .val (.int n), .val (.ref a_DELIVERED), .val (.ref a_DELIVERED)] [])) (fun t k => XS.goto X5.here hx rfl (pc0 := 88) (pc' := 112) rfl (hb hby at_88) (by decide) (by decide) k) ?_
        refine own_Fin.back (S' := T5.setTop (mkF m 114 #[.val (.int p0), .val (.int p1), .val (.int k0), .val (.int r0), .val (.int n), .val (.ref a_DELIVERED), .val (.ref a_DELIVERED)] [(.ref a_DELIVERED)])) (fun t k => XS.aload X5.here hx rfl (hb hby at_112) rfl rfl k) ?_
        refine own_Fin.back (S' := T5.setTop (mkF m 116 #[.val (.int p0), .val (.int p1), .val (.int k0), .val (.int r0), .val (.int n), .val (.ref a_DELIVERED), .val (.ref a_DELIVERED)] [(.ref a_DELIVERED), (.ref a_DELIVERED)])) (fun t k => XS.aload X5.here hx rfl (hb hby at_114) rfl rfl k) ?_
        refine own_Fin.back (S' := T5.setTop (mkF m 119 #[.val (.int p0), .val (.int p1), .val (.int k0), .val (.int r0), .val (.int n), .val (.ref a_DELIVERED), .val (.ref a_DELIVERED)] [])) (fun t k => XT.acmpNo X5.here hx rfl (hb hby at_116) rfl rfl rfl own_acmp_same.2 k) ?_
        refine own_Fin.back (S' := T5.setTop (mkF m 120 #[.val (.int p0), .val (.int p1), .val (.int k0), .val (.int r0), .val (.int n), .val (.ref a_DELIVERED), .val (.ref a_DELIVERED)] [(.int (1 : Int32))])) (fun t k => XS.iconst X5.here hx rfl (hb hby at_119) k) ?_
        refine own_Fin.back (S' := T5.setTop (mkF m 124 #[.val (.int p0), .val (.int p1), .val (.int k0), .val (.int r0), .val (.int n), .val (.ref a_DELIVERED), .val (.ref a_DELIVERED)] [(.int (1 : Int32))])) (fun t k => XS.goto X5.here hx rfl (pc0 := 120) (pc' := 124) rfl (hb hby at_120) (by decide) (by decide) k) ?_
        exact ⟨T5, X5, e5, fun fs hr => retOut X5 hx (w := (.int (1 : Int32))) (t := .boolean) hret (by first | rfl | decide) (Or.inl ⟨rfl, Or.inr (Or.inl rfl), _, rfl⟩) (hb hby at_124) hr⟩
      · rcases hn : if_icmp.holds .ne n (410 : Int32) with _ | _
        · refine own_Fin.back (S' := T1000.setTop (mkF m 62 #[.val (.int p0), .val (.int p1), .val (.int k0), .val (.int r0), .val (.int n), .unset, .unset] [(.int n)])) (fun t k => XS.iload X1000.here hx rfl (hb hby at_60) rfl k) ?_
          obtain ⟨T6, X6, e6, k6⟩ := own_callS X1000 hx hZ (y := (⟨"com/example/acquit/acquit/webhook/AttemptOutcome", "ofStatus", "(I)Lcom/example/acquit/acquit/webhook/AttemptOutcome;"⟩ : MethodName)) (W := 0) hown (hw _ (List.mem_of_getElem? (i := 1) rfl)) (hw _ (List.mem_of_getElem? (i := 2) rfl)) (hw _ (List.mem_of_getElem? (i := 3) rfl)) (hw _ (List.mem_of_getElem? (i := 4) rfl)) (by decide) (own_ofG l Z a0 hw h0 H n (by rw [dv, hlt, hgt]; first | done | rfl) hn) e1000 (by decide) (by decide) (g := (mkF m 62 #[.val (.int p0), .val (.int p1), .val (.int k0), .val (.int r0), .val (.int n), .unset, .unset] [(.int n)])) rfl (by rw [hml]; rfl) (argsL := [(.int n)]) (rest := []) (lenOf (show parseMethodDescriptor "(I)Lcom/example/acquit/acquit/webhook/AttemptOutcome;" = some ⟨[.int], some (.object "com/example/acquit/acquit/webhook/AttemptOutcome")⟩ by decide +kernel) rfl) rfl (by show 2 * 0 + _ ≤ _; exact Nat.le_of_eq rfl) (hb hby at_62)
          refine own_Fin.back (S' := T6.setTop (mkF m 65 #[.val (.int p0), .val (.int p1), .val (.int k0), .val (.int r0), .val (.int n), .unset, .unset] [(.ref a_GONE)])) k6 ?_
          refine own_Fin.back (S' := T6.setTop (mkF m 67 #[.val (.int p0), .val (.int p1), .val (.int k0), .val (.int r0), .val (.int n), .val (.ref a_GONE), .unset] [])) (fun t k => XS.astore X6.here hx rfl (hb hby at_65) rfl rfl (l' := #[.val (.int p0), .val (.int p1), .val (.int k0), .val (.int r0), .val (.int n), .val (.ref a_GONE), .unset]) rfl k) ?_
          refine own_Fin.back (S' := T6.setTop (mkF m 69 #[.val (.int p0), .val (.int p1), .val (.int k0), .val (.int r0), .val (.int n), .val (.ref a_GONE), .unset] [(.int n)])) (fun t k => XS.iload X6.here hx rfl (hb hby at_67) rfl k) ?_
          refine own_Fin.back (S' := T6.setTop (mkF m 72 #[.val (.int p0), .val (.int p1), .val (.int k0), .val (.int r0), .val (.int n), .val (.ref a_GONE), .unset] [(.int (200 : Int32)), (.int n)])) (fun t k => XT.sipushV X6.here hx rfl (200 : Int32) (hb hby at_69) (by decide) k) ?_
          refine own_Fin.back (S' := T6.setTop (mkF m 75 #[.val (.int p0), .val (.int p1), .val (.int k0), .val (.int r0), .val (.int n), .val (.ref a_GONE), .unset] [])) (fun t k => XS.icmpNo X6.here hx rfl (hb hby at_72) rfl hlt k) ?_
          refine own_Fin.back (S' := T6.setTop (mkF m 77 #[.val (.int p0), .val (.int p1), .val (.int k0), .val (.int r0), .val (.int n), .val (.ref a_GONE), .unset] [(.int n)])) (fun t k => XS.iload X6.here hx rfl (hb hby at_75) rfl k) ?_
          refine own_Fin.back (S' := T6.setTop (mkF m 80 #[.val (.int p0), .val (.int p1), .val (.int k0), .val (.int r0), .val (.int n), .val (.ref a_GONE), .unset] [(.int (299 : Int32)), (.int n)])) (fun t k => XT.sipushV X6.here hx rfl (299 : Int32) (hb hby at_77) (by decide) k) ?_
          refine own_Fin.back (S' := T6.setTop (mkF m 91 #[.val (.int p0), .val (.int p1), .val (.int k0), .val (.int r0), .val (.int n), .val (.ref a_GONE), .unset] [])) (fun t k => XS.icmpYes X6.here hx rfl (pc0 := 80) (pc' := 91) rfl (hb hby at_80) rfl hgt (by decide) (by decide) k) ?_
          refine own_Fin.back (S' := T6.setTop (mkF m 93 #[.val (.int p0), .val (.int p1), .val (.int k0), .val (.int r0), .val (.int n), .val (.ref a_GONE), .unset] [(.int n)])) (fun t k => XS.iload X6.here hx rfl (hb hby at_91) rfl k) ?_
          refine own_Fin.back (S' := T6.setTop (mkF m 96 #[.val (.int p0), .val (.int p1), .val (.int k0), .val (.int r0), .val (.int n), .val (.ref a_GONE), .unset] [(.int (410 : Int32)), (.int n)])) (fun t k => XT.sipushV X6.here hx rfl (410 : Int32) (hb hby at_93) (by decide) k) ?_
          refine own_Fin.back (S' := T6.setTop (mkF m 99 #[.val (.int p0), .val (.int p1), .val (.int k0), .val (.int r0), .val (.int n), .val (.ref a_GONE), .unset] [])) (fun t k => XS.icmpNo X6.here hx rfl (hb hby at_96) rfl hn k) ?_
          obtain ⟨T7, X7, e7, k7⟩ := getS X6 hx hZ hown (host := "") (hw _ (List.mem_of_getElem? (i := 13) rfl)) Via.refl e6 S_GONE (g := (mkF m 99 #[.val (.int p0), .val (.int p1), .val (.int k0), .val (.int r0), .val (.int n), .val (.ref a_GONE), .unset] [])) rfl (hb hby at_99)
          refine own_Fin.back (S' := T7.setTop (mkF m 102 #[.val (.int p0), .val (.int p1), .val (.int k0), .val (.int r0), .val (.int n), .val (.ref a_GONE), .unset] [(.ref a_GONE)])) k7 ?_
          refine own_Fin.back (S' := T7.setTop (mkF m 104 #[.val (.int p0), .val (.int p1), .val (.int k0), .val (.int r0), .val (.int n), .val (.ref a_GONE), .val (.ref a_GONE)] [])) (fun t k => XS.astore X7.here hx rfl (hb hby at_102) rfl rfl (l' := #[.val (.int p0), .val (.int p1), .val (.int k0), .val (.int r0), .val (.int n), .val (.ref a_GONE), .val (.ref a_GONE)]) rfl k) ?_
          refine own_Fin.back (S' := T7.setTop (mkF m 112 #[.val (.int p0), .val (.int p1), .val (.int k0), .val (.int r0), .val (.int n), .val (.ref a_GONE), .val (.ref a_GONE)] [])) (fun t k => XS.goto X7.here hx rfl (pc0 := 104) (pc' := 112) rfl (hb hby at_104) (by decide) (by decide) k) ?_
          refine own_Fin.back (S' := T7.setTop (mkF m 114 #[.val (.int p0), .val (.int p1), .val (.int k0), .val (.int r0), .val (.int n), .val (.ref a_GONE), .val (.ref a_GONE)] [(.ref a_GONE)])) (fun t k => XS.aload X7.here hx rfl (hb hby at_112) rfl rfl k) ?_
          refine own_Fin.back (S' := T7.setTop (mkF m 116 #[.val (.int p0), .val (.int p1), .val (.int k0), .val (.int r0), .val (.int n), .val (.ref a_GONE), .val (.ref a_GONE)] [(.ref a_GONE), (.ref a_GONE)])) (fun t k => XS.aload X7.here hx rfl (hb hby at_114) rfl rfl k) ?_
          refine own_Fin.back (S' := T7.setTop (mkF m 119 #[.val (.int p0), .val (.int p1), .val (.int k0), .val (.int r0), .val (.int n), .val (.ref a_GONE), .val (.ref a_GONE)] [])) (fun t k => XT.acmpNo X7.here hx rfl (hb hby at_116) rfl rfl rfl own_acmp_same.2 k) ?_
          refine own_Fin.back (S' := T7.setTop (mkF m 120 #[.val (.int p0), .val (.int p1), .val (.int k0), .val (.int r0), .val (.int n), .val (.ref a_GONE), .val (.ref a_GONE)] [(.int (1 : Int32))])) (fun t k => XS.iconst X7.here hx rfl (hb hby at_119) k) ?_
          refine own_Fin.back (S' := T7.setTop (mkF m 124 #[.val (.int p0), .val (.int p1), .val (.int k0), .val (.int r0), .val (.int n), .val (.ref a_GONE), .val (.ref a_GONE)] [(.int (1 : Int32))])) (fun t k => XS.goto X7.here hx rfl (pc0 := 120) (pc' := 124) rfl (hb hby at_120) (by decide) (by decide) k) ?_
          exact ⟨T7, X7, e7, fun fs hr => retOut X7 hx (w := (.int (1 : Int32))) (t := .boolean) hret (by first | rfl | decide) (Or.inl ⟨rfl, Or.inr (Or.inl rfl), _, rfl⟩) (hb hby at_124) hr⟩
        · refine own_Fin.back (S' := T1000.setTop (mkF m 62 #[.val (.int p0), .val (.int p1), .val (.int k0), .val (.int r0), .val (.int n), .unset, .unset] [(.int n)])) (fun t k => XS.iload X1000.here hx rfl (hb hby at_60) rfl k) ?_
          obtain ⟨T8, X8, e8, k8⟩ := own_callS X1000 hx hZ (y := (⟨"com/example/acquit/acquit/webhook/AttemptOutcome", "ofStatus", "(I)Lcom/example/acquit/acquit/webhook/AttemptOutcome;"⟩ : MethodName)) (W := 0) hown (hw _ (List.mem_of_getElem? (i := 1) rfl)) (hw _ (List.mem_of_getElem? (i := 2) rfl)) (hw _ (List.mem_of_getElem? (i := 3) rfl)) (hw _ (List.mem_of_getElem? (i := 4) rfl)) (by decide) (own_ofF l Z a0 hw h0 H n (by rw [dv, hlt, hgt]; first | done | rfl) hn) e1000 (by decide) (by decide) (g := (mkF m 62 #[.val (.int p0), .val (.int p1), .val (.int k0), .val (.int r0), .val (.int n), .unset, .unset] [(.int n)])) rfl (by rw [hml]; rfl) (argsL := [(.int n)]) (rest := []) (lenOf (show parseMethodDescriptor "(I)Lcom/example/acquit/acquit/webhook/AttemptOutcome;" = some ⟨[.int], some (.object "com/example/acquit/acquit/webhook/AttemptOutcome")⟩ by decide +kernel) rfl) rfl (by show 2 * 0 + _ ≤ _; exact Nat.le_of_eq rfl) (hb hby at_62)
          refine own_Fin.back (S' := T8.setTop (mkF m 65 #[.val (.int p0), .val (.int p1), .val (.int k0), .val (.int r0), .val (.int n), .unset, .unset] [(.ref a_FAILED)])) k8 ?_
          refine own_Fin.back (S' := T8.setTop (mkF m 67 #[.val (.int p0), .val (.int p1), .val (.int k0), .val (.int r0), .val (.int n), .val (.ref a_FAILED), .unset] [])) (fun t k => XS.astore X8.here hx rfl (hb hby at_65) rfl rfl (l' := #[.val (.int p0), .val (.int p1), .val (.int k0), .val (.int r0), .val (.int n), .val (.ref a_FAILED), .unset]) rfl k) ?_
          refine own_Fin.back (S' := T8.setTop (mkF m 69 #[.val (.int p0), .val (.int p1), .val (.int k0), .val (.int r0), .val (.int n), .val (.ref a_FAILED), .unset] [(.int n)])) (fun t k => XS.iload X8.here hx rfl (hb hby at_67) rfl k) ?_
          refine own_Fin.back (S' := T8.setTop (mkF m 72 #[.val (.int p0), .val (.int p1), .val (.int k0), .val (.int r0), .val (.int n), .val (.ref a_FAILED), .unset] [(.int (200 : Int32)), (.int n)])) (fun t k => XT.sipushV X8.here hx rfl (200 : Int32) (hb hby at_69) (by decide) k) ?_
          refine own_Fin.back (S' := T8.setTop (mkF m 75 #[.val (.int p0), .val (.int p1), .val (.int k0), .val (.int r0), .val (.int n), .val (.ref a_FAILED), .unset] [])) (fun t k => XS.icmpNo X8.here hx rfl (hb hby at_72) rfl hlt k) ?_
          refine own_Fin.back (S' := T8.setTop (mkF m 77 #[.val (.int p0), .val (.int p1), .val (.int k0), .val (.int r0), .val (.int n), .val (.ref a_FAILED), .unset] [(.int n)])) (fun t k => XS.iload X8.here hx rfl (hb hby at_75) rfl k) ?_
          refine own_Fin.back (S' := T8.setTop (mkF m 80 #[.val (.int p0), .val (.int p1), .val (.int k0), .val (.int r0), .val (.int n), .val (.ref a_FAILED), .unset] [(.int (299 : Int32)), (.int n)])) (fun t k => XT.sipushV X8.here hx rfl (299 : Int32) (hb hby at_77) (by decide) k) ?_
          refine own_Fin.back (S' := T8.setTop (mkF m 91 #[.val (.int p0), .val (.int p1), .val (.int k0), .val (.int r0), .val (.int n), .val (.ref a_FAILED), .unset] [])) (fun t k => XS.icmpYes X8.here hx rfl (pc0 := 80) (pc' := 91) rfl (hb hby at_80) rfl hgt (by decide) (by decide) k) ?_
          refine own_Fin.back (S' := T8.setTop (mkF m 93 #[.val (.int p0), .val (.int p1), .val (.int k0), .val (.int r0), .val (.int n), .val (.ref a_FAILED), .unset] [(.int n)])) (fun t k => XS.iload X8.here hx rfl (hb hby at_91) rfl k) ?_
          refine own_Fin.back (S' := T8.setTop (mkF m 96 #[.val (.int p0), .val (.int p1), .val (.int k0), .val (.int r0), .val (.int n), .val (.ref a_FAILED), .unset] [(.int (410 : Int32)), (.int n)])) (fun t k => XT.sipushV X8.here hx rfl (410 : Int32) (hb hby at_93) (by decide) k) ?_
          refine own_Fin.back (S' := T8.setTop (mkF m 107 #[.val (.int p0), .val (.int p1), .val (.int k0), .val (.int r0), .val (.int n), .val (.ref a_FAILED), .unset] [])) (fun t k => XS.icmpYes X8.here hx rfl (pc0 := 96) (pc' := 107) rfl (hb hby at_96) rfl hn (by decide) (by decide) k) ?_
          obtain ⟨T9, X9, e9, k9⟩ := getS X8 hx hZ hown (host := "") (hw _ (List.mem_of_getElem? (i := 7) rfl)) Via.refl e8 S_FAILED (g := (mkF m 107 #[.val (.int p0), .val (.int p1), .val (.int k0), .val (.int r0), .val (.int n), .val (.ref a_FAILED), .unset] [])) rfl (hb hby at_107)
          refine own_Fin.back (S' := T9.setTop (mkF m 110 #[.val (.int p0), .val (.int p1), .val (.int k0), .val (.int r0), .val (.int n), .val (.ref a_FAILED), .unset] [(.ref a_FAILED)])) k9 ?_
          refine own_Fin.back (S' := T9.setTop (mkF m 112 #[.val (.int p0), .val (.int p1), .val (.int k0), .val (.int r0), .val (.int n), .val (.ref a_FAILED), .val (.ref a_FAILED)] [])) (fun t k => XS.astore X9.here hx rfl (hb hby at_110) rfl rfl (l' := #[.val (.int p0), .val (.int p1), .val (.int k0), .val (.int r0), .val (.int n), .val (.ref a_FAILED), .val (.ref a_FAILED)]) rfl k) ?_
          refine own_Fin.back (S' := T9.setTop (mkF m 114 #[.val (.int p0), .val (.int p1), .val (.int k0), .val (.int r0), .val (.int n), .val (.ref a_FAILED), .val (.ref a_FAILED)] [(.ref a_FAILED)])) (fun t k => XS.aload X9.here hx rfl (hb hby at_112) rfl rfl k) ?_
          refine own_Fin.back (S' := T9.setTop (mkF m 116 #[.val (.int p0), .val (.int p1), .val (.int k0), .val (.int r0), .val (.int n), .val (.ref a_FAILED), .val (.ref a_FAILED)] [(.ref a_FAILED), (.ref a_FAILED)])) (fun t k => XS.aload X9.here hx rfl (hb hby at_114) rfl rfl k) ?_
          refine own_Fin.back (S' := T9.setTop (mkF m 119 #[.val (.int p0), .val (.int p1), .val (.int k0), .val (.int r0), .val (.int n), .val (.ref a_FAILED), .val (.ref a_FAILED)] [])) (fun t k => XT.acmpNo X9.here hx rfl (hb hby at_116) rfl rfl rfl own_acmp_same.2 k) ?_
          refine own_Fin.back (S' := T9.setTop (mkF m 120 #[.val (.int p0), .val (.int p1), .val (.int k0), .val (.int r0), .val (.int n), .val (.ref a_FAILED), .val (.ref a_FAILED)] [(.int (1 : Int32))])) (fun t k => XS.iconst X9.here hx rfl (hb hby at_119) k) ?_
          refine own_Fin.back (S' := T9.setTop (mkF m 124 #[.val (.int p0), .val (.int p1), .val (.int k0), .val (.int r0), .val (.int n), .val (.ref a_FAILED), .val (.ref a_FAILED)] [(.int (1 : Int32))])) (fun t k => XS.goto X9.here hx rfl (pc0 := 120) (pc' := 124) rfl (hb hby at_120) (by decide) (by decide) k) ?_
          exact ⟨T9, X9, e9, fun fs hr => retOut X9 hx (w := (.int (1 : Int32))) (t := .boolean) hret (by first | rfl | decide) (Or.inl ⟨rfl, Or.inr (Or.inl rfl), _, rfl⟩) (hb hby at_124) hr⟩
    · rcases hn : if_icmp.holds .ne n (410 : Int32) with _ | _
      · refine own_Fin.back (S' := T1000.setTop (mkF m 62 #[.val (.int p0), .val (.int p1), .val (.int k0), .val (.int r0), .val (.int n), .unset, .unset] [(.int n)])) (fun t k => XS.iload X1000.here hx rfl (hb hby at_60) rfl k) ?_
        obtain ⟨T10, X10, e10, k10⟩ := own_callS X1000 hx hZ (y := (⟨"com/example/acquit/acquit/webhook/AttemptOutcome", "ofStatus", "(I)Lcom/example/acquit/acquit/webhook/AttemptOutcome;"⟩ : MethodName)) (W := 0) hown (hw _ (List.mem_of_getElem? (i := 1) rfl)) (hw _ (List.mem_of_getElem? (i := 2) rfl)) (hw _ (List.mem_of_getElem? (i := 3) rfl)) (hw _ (List.mem_of_getElem? (i := 4) rfl)) (by decide) (own_ofG l Z a0 hw h0 H n (by rw [dv, hlt]; first | done | rfl) hn) e1000 (by decide) (by decide) (g := (mkF m 62 #[.val (.int p0), .val (.int p1), .val (.int k0), .val (.int r0), .val (.int n), .unset, .unset] [(.int n)])) rfl (by rw [hml]; rfl) (argsL := [(.int n)]) (rest := []) (lenOf (show parseMethodDescriptor "(I)Lcom/example/acquit/acquit/webhook/AttemptOutcome;" = some ⟨[.int], some (.object "com/example/acquit/acquit/webhook/AttemptOutcome")⟩ by decide +kernel) rfl) rfl (by show 2 * 0 + _ ≤ _; exact Nat.le_of_eq rfl) (hb hby at_62)
        refine own_Fin.back (S' := T10.setTop (mkF m 65 #[.val (.int p0), .val (.int p1), .val (.int k0), .val (.int r0), .val (.int n), .unset, .unset] [(.ref a_GONE)])) k10 ?_
        refine own_Fin.back (S' := T10.setTop (mkF m 67 #[.val (.int p0), .val (.int p1), .val (.int k0), .val (.int r0), .val (.int n), .val (.ref a_GONE), .unset] [])) (fun t k => XS.astore X10.here hx rfl (hb hby at_65) rfl rfl (l' := #[.val (.int p0), .val (.int p1), .val (.int k0), .val (.int r0), .val (.int n), .val (.ref a_GONE), .unset]) rfl k) ?_
        refine own_Fin.back (S' := T10.setTop (mkF m 69 #[.val (.int p0), .val (.int p1), .val (.int k0), .val (.int r0), .val (.int n), .val (.ref a_GONE), .unset] [(.int n)])) (fun t k => XS.iload X10.here hx rfl (hb hby at_67) rfl k) ?_
        refine own_Fin.back (S' := T10.setTop (mkF m 72 #[.val (.int p0), .val (.int p1), .val (.int k0), .val (.int r0), .val (.int n), .val (.ref a_GONE), .unset] [(.int (200 : Int32)), (.int n)])) (fun t k => XT.sipushV X10.here hx rfl (200 : Int32) (hb hby at_69) (by decide) k) ?_
        refine own_Fin.back (S' := T10.setTop (mkF m 91 #[.val (.int p0), .val (.int p1), .val (.int k0), .val (.int r0), .val (.int n), .val (.ref a_GONE), .unset] [])) (fun t k => XS.icmpYes X10.here hx rfl (pc0 := 72) (pc' := 91) rfl (hb hby at_72) rfl hlt (by decide) (by decide) k) ?_
        refine own_Fin.back (S' := T10.setTop (mkF m 93 #[.val (.int p0), .val (.int p1), .val (.int k0), .val (.int r0), .val (.int n), .val (.ref a_GONE), .unset] [(.int n)])) (fun t k => XS.iload X10.here hx rfl (hb hby at_91) rfl k) ?_
        refine own_Fin.back (S' := T10.setTop (mkF m 96 #[.val (.int p0), .val (.int p1), .val (.int k0), .val (.int r0), .val (.int n), .val (.ref a_GONE), .unset] [(.int (410 : Int32)), (.int n)])) (fun t k => XT.sipushV X10.here hx rfl (410 : Int32) (hb hby at_93) (by decide) k) ?_
        refine own_Fin.back (S' := T10.setTop (mkF m 99 #[.val (.int p0), .val (.int p1), .val (.int k0), .val (.int r0), .val (.int n), .val (.ref a_GONE), .unset] [])) (fun t k => XS.icmpNo X10.here hx rfl (hb hby at_96) rfl hn k) ?_
        obtain ⟨T11, X11, e11, k11⟩ := getS X10 hx hZ hown (host := "") (hw _ (List.mem_of_getElem? (i := 13) rfl)) Via.refl e10 S_GONE (g := (mkF m 99 #[.val (.int p0), .val (.int p1), .val (.int k0), .val (.int r0), .val (.int n), .val (.ref a_GONE), .unset] [])) rfl (hb hby at_99)
        refine own_Fin.back (S' := T11.setTop (mkF m 102 #[.val (.int p0), .val (.int p1), .val (.int k0), .val (.int r0), .val (.int n), .val (.ref a_GONE), .unset] [(.ref a_GONE)])) k11 ?_
        refine own_Fin.back (S' := T11.setTop (mkF m 104 #[.val (.int p0), .val (.int p1), .val (.int k0), .val (.int r0), .val (.int n), .val (.ref a_GONE), .val (.ref a_GONE)] [])) (fun t k => XS.astore X11.here hx rfl (hb hby at_102) rfl rfl (l' := #[.val (.int p0), .val (.int p1), .val (.int k0), .val (.int r0), .val (.int n), .val (.ref a_GONE), .val (.ref a_GONE)]) rfl k) ?_
        refine own_Fin.back (S' := T11.setTop (mkF m 112 #[.val (.int p0), .val (.int p1), .val (.int k0), .val (.int r0), .val (.int n), .val (.ref a_GONE), .val (.ref a_GONE)] [])) (fun t k => XS.goto X11.here hx rfl (pc0 := 104) (pc' := 112) rfl (hb hby at_104) (by decide) (by decide) k) ?_
        refine own_Fin.back (S' := T11.setTop (mkF m 114 #[.val (.int p0), .val (.int p1), .val (.int k0), .val (.int r0), .val (.int n), .val (.ref a_GONE), .val (.ref a_GONE)] [(.ref a_GONE)])) (fun t k => XS.aload X11.here hx rfl (hb hby at_112) rfl rfl k) ?_
        refine own_Fin.back (S' := T11.setTop (mkF m 116 #[.val (.int p0), .val (.int p1), .val (.int k0), .val (.int r0), .val (.int n), .val (.ref a_GONE), .val (.ref a_GONE)] [(.ref a_GONE), (.ref a_GONE)])) (fun t k => XS.aload X11.here hx rfl (hb hby at_114) rfl rfl k) ?_
        refine own_Fin.back (S' := T11.setTop (mkF m 119 #[.val (.int p0), .val (.int p1), .val (.int k0), .val (.int r0), .val (.int n), .val (.ref a_GONE), .val (.ref a_GONE)] [])) (fun t k => XT.acmpNo X11.here hx rfl (hb hby at_116) rfl rfl rfl own_acmp_same.2 k) ?_
        refine own_Fin.back (S' := T11.setTop (mkF m 120 #[.val (.int p0), .val (.int p1), .val (.int k0), .val (.int r0), .val (.int n), .val (.ref a_GONE), .val (.ref a_GONE)] [(.int (1 : Int32))])) (fun t k => XS.iconst X11.here hx rfl (hb hby at_119) k) ?_
        refine own_Fin.back (S' := T11.setTop (mkF m 124 #[.val (.int p0), .val (.int p1), .val (.int k0), .val (.int r0), .val (.int n), .val (.ref a_GONE), .val (.ref a_GONE)] [(.int (1 : Int32))])) (fun t k => XS.goto X11.here hx rfl (pc0 := 120) (pc' := 124) rfl (hb hby at_120) (by decide) (by decide) k) ?_
        exact ⟨T11, X11, e11, fun fs hr => retOut X11 hx (w := (.int (1 : Int32))) (t := .boolean) hret (by first | rfl | decide) (Or.inl ⟨rfl, Or.inr (Or.inl rfl), _, rfl⟩) (hb hby at_124) hr⟩
      · refine own_Fin.back (S' := T1000.setTop (mkF m 62 #[.val (.int p0), .val (.int p1), .val (.int k0), .val (.int r0), .val (.int n), .unset, .unset] [(.int n)])) (fun t k => XS.iload X1000.here hx rfl (hb hby at_60) rfl k) ?_
        obtain ⟨T12, X12, e12, k12⟩ := own_callS X1000 hx hZ (y := (⟨"com/example/acquit/acquit/webhook/AttemptOutcome", "ofStatus", "(I)Lcom/example/acquit/acquit/webhook/AttemptOutcome;"⟩ : MethodName)) (W := 0) hown (hw _ (List.mem_of_getElem? (i := 1) rfl)) (hw _ (List.mem_of_getElem? (i := 2) rfl)) (hw _ (List.mem_of_getElem? (i := 3) rfl)) (hw _ (List.mem_of_getElem? (i := 4) rfl)) (by decide) (own_ofF l Z a0 hw h0 H n (by rw [dv, hlt]; first | done | rfl) hn) e1000 (by decide) (by decide) (g := (mkF m 62 #[.val (.int p0), .val (.int p1), .val (.int k0), .val (.int r0), .val (.int n), .unset, .unset] [(.int n)])) rfl (by rw [hml]; rfl) (argsL := [(.int n)]) (rest := []) (lenOf (show parseMethodDescriptor "(I)Lcom/example/acquit/acquit/webhook/AttemptOutcome;" = some ⟨[.int], some (.object "com/example/acquit/acquit/webhook/AttemptOutcome")⟩ by decide +kernel) rfl) rfl (by show 2 * 0 + _ ≤ _; exact Nat.le_of_eq rfl) (hb hby at_62)
        refine own_Fin.back (S' := T12.setTop (mkF m 65 #[.val (.int p0), .val (.int p1), .val (.int k0), .val (.int r0), .val (.int n), .unset, .unset] [(.ref a_FAILED)])) k12 ?_
        refine own_Fin.back (S' := T12.setTop (mkF m 67 #[.val (.int p0), .val (.int p1), .val (.int k0), .val (.int r0), .val (.int n), .val (.ref a_FAILED), .unset] [])) (fun t k => XS.astore X12.here hx rfl (hb hby at_65) rfl rfl (l' := #[.val (.int p0), .val (.int p1), .val (.int k0), .val (.int r0), .val (.int n), .val (.ref a_FAILED), .unset]) rfl k) ?_
        refine own_Fin.back (S' := T12.setTop (mkF m 69 #[.val (.int p0), .val (.int p1), .val (.int k0), .val (.int r0), .val (.int n), .val (.ref a_FAILED), .unset] [(.int n)])) (fun t k => XS.iload X12.here hx rfl (hb hby at_67) rfl k) ?_
        refine own_Fin.back (S' := T12.setTop (mkF m 72 #[.val (.int p0), .val (.int p1), .val (.int k0), .val (.int r0), .val (.int n), .val (.ref a_FAILED), .unset] [(.int (200 : Int32)), (.int n)])) (fun t k => XT.sipushV X12.here hx rfl (200 : Int32) (hb hby at_69) (by decide) k) ?_
        refine own_Fin.back (S' := T12.setTop (mkF m 91 #[.val (.int p0), .val (.int p1), .val (.int k0), .val (.int r0), .val (.int n), .val (.ref a_FAILED), .unset] [])) (fun t k => XS.icmpYes X12.here hx rfl (pc0 := 72) (pc' := 91) rfl (hb hby at_72) rfl hlt (by decide) (by decide) k) ?_
        refine own_Fin.back (S' := T12.setTop (mkF m 93 #[.val (.int p0), .val (.int p1), .val (.int k0), .val (.int r0), .val (.int n), .val (.ref a_FAILED), .unset] [(.int n)])) (fun t k => XS.iload X12.here hx rfl (hb hby at_91) rfl k) ?_
        refine own_Fin.back (S' := T12.setTop (mkF m 96 #[.val (.int p0), .val (.int p1), .val (.int k0), .val (.int r0), .val (.int n), .val (.ref a_FAILED), .unset] [(.int (410 : Int32)), (.int n)])) (fun t k => XT.sipushV X12.here hx rfl (410 : Int32) (hb hby at_93) (by decide) k) ?_
        refine own_Fin.back (S' := T12.setTop (mkF m 107 #[.val (.int p0), .val (.int p1), .val (.int k0), .val (.int r0), .val (.int n), .val (.ref a_FAILED), .unset] [])) (fun t k => XS.icmpYes X12.here hx rfl (pc0 := 96) (pc' := 107) rfl (hb hby at_96) rfl hn (by decide) (by decide) k) ?_
        obtain ⟨T13, X13, e13, k13⟩ := getS X12 hx hZ hown (host := "") (hw _ (List.mem_of_getElem? (i := 7) rfl)) Via.refl e12 S_FAILED (g := (mkF m 107 #[.val (.int p0), .val (.int p1), .val (.int k0), .val (.int r0), .val (.int n), .val (.ref a_FAILED), .unset] [])) rfl (hb hby at_107)
        refine own_Fin.back (S' := T13.setTop (mkF m 110 #[.val (.int p0), .val (.int p1), .val (.int k0), .val (.int r0), .val (.int n), .val (.ref a_FAILED), .unset] [(.ref a_FAILED)])) k13 ?_
        refine own_Fin.back (S' := T13.setTop (mkF m 112 #[.val (.int p0), .val (.int p1), .val (.int k0), .val (.int r0), .val (.int n), .val (.ref a_FAILED), .val (.ref a_FAILED)] [])) (fun t k => XS.astore X13.here hx rfl (hb hby at_110) rfl rfl (l' := #[.val (.int p0), .val (.int p1), .val (.int k0), .val (.int r0), .val (.int n), .val (.ref a_FAILED), .val (.ref a_FAILED)]) rfl k) ?_
        refine own_Fin.back (S' := T13.setTop (mkF m 114 #[.val (.int p0), .val (.int p1), .val (.int k0), .val (.int r0), .val (.int n), .val (.ref a_FAILED), .val (.ref a_FAILED)] [(.ref a_FAILED)])) (fun t k => XS.aload X13.here hx rfl (hb hby at_112) rfl rfl k) ?_
        refine own_Fin.back (S' := T13.setTop (mkF m 116 #[.val (.int p0), .val (.int p1), .val (.int k0), .val (.int r0), .val (.int n), .val (.ref a_FAILED), .val (.ref a_FAILED)] [(.ref a_FAILED), (.ref a_FAILED)])) (fun t k => XS.aload X13.here hx rfl (hb hby at_114) rfl rfl k) ?_
        refine own_Fin.back (S' := T13.setTop (mkF m 119 #[.val (.int p0), .val (.int p1), .val (.int k0), .val (.int r0), .val (.int n), .val (.ref a_FAILED), .val (.ref a_FAILED)] [])) (fun t k => XT.acmpNo X13.here hx rfl (hb hby at_116) rfl rfl rfl own_acmp_same.2 k) ?_
        refine own_Fin.back (S' := T13.setTop (mkF m 120 #[.val (.int p0), .val (.int p1), .val (.int k0), .val (.int r0), .val (.int n), .val (.ref a_FAILED), .val (.ref a_FAILED)] [(.int (1 : Int32))])) (fun t k => XS.iconst X13.here hx rfl (hb hby at_119) k) ?_
        refine own_Fin.back (S' := T13.setTop (mkF m 124 #[.val (.int p0), .val (.int p1), .val (.int k0), .val (.int r0), .val (.int n), .val (.ref a_FAILED), .val (.ref a_FAILED)] [(.int (1 : Int32))])) (fun t k => XS.goto X13.here hx rfl (pc0 := 120) (pc' := 124) rfl (hb hby at_120) (by decide) (by decide) k) ?_
        exact ⟨T13, X13, e13, fun fs hr => retOut X13 hx (w := (.int (1 : Int32))) (t := .boolean) hret (by first | rfl | decide) (Or.inl ⟨rfl, Or.inr (Or.inl rfl), _, rfl⟩) (hb hby at_124) hr⟩
  refine own_Fin.back (S' := T0.setTop (mkF m 1 #[.val (.int p0), .val (.int p1), .unset, .unset, .unset, .unset, .unset] [(.int p1)])) (fun t k => XS.iloadN X0.here hx rfl (hb hby at_0) rfl k) ?_
  refine own_Fin.back (S' := T0.setTop (mkF m 2 #[.val (.int p0), .val (.int p1), .unset, .unset, .unset, .unset, .unset] [(.int (3 : Int32)), (.int p1)])) (fun t k => XS.iconst X0.here hx rfl (hb hby at_1) k) ?_
  refine own_Fin.back (S' := T0.setTop (mkF m 3 #[.val (.int p0), .val (.int p1), .unset, .unset, .unset, .unset, .unset] [(.int (p1 &&& (3 : Int32)))])) (fun t k => XS.iand X0.here hx rfl (hb hby at_2) rfl k) ?_
  refine own_Fin.back (S' := T0.setTop (mkF m 4 #[.val (.int p0), .val (.int p1), .val (.int (p1 &&& (3 : Int32))), .unset, .unset, .unset, .unset] [])) (fun t k => XS.istoreN X0.here hx rfl (hb hby at_3) rfl (l' := #[.val (.int p0), .val (.int p1), .val (.int (p1 &&& (3 : Int32))), .unset, .unset, .unset, .unset]) rfl k) ?_
  refine own_Fin.back (S' := T0.setTop (mkF m 5 #[.val (.int p0), .val (.int p1), .val (.int (p1 &&& (3 : Int32))), .unset, .unset, .unset, .unset] [(.int p0)])) (fun t k => XS.iloadN X0.here hx rfl (hb hby at_4) rfl k) ?_
  refine own_Fin.back (S' := T0.setTop (mkF m 7 #[.val (.int p0), .val (.int p1), .val (.int (p1 &&& (3 : Int32))), .unset, .unset, .unset, .unset] [(.int (2147483647 : Int32)), (.int p0)])) (fun t k => X0.ldcI hx hown (mvT hZ (hw _ (List.mem_of_getElem? (i := 0) rfl))) rfl (hb hby at_5) k) ?_
  refine own_Fin.back (S' := T0.setTop (mkF m 8 #[.val (.int p0), .val (.int p1), .val (.int (p1 &&& (3 : Int32))), .unset, .unset, .unset, .unset] [(.int (p0 &&& (2147483647 : Int32)))])) (fun t k => XS.iand X0.here hx rfl (hb hby at_7) rfl k) ?_
  refine own_Fin.back (S' := T0.setTop (mkF m 11 #[.val (.int p0), .val (.int p1), .val (.int (p1 &&& (3 : Int32))), .unset, .unset, .unset, .unset] [(.int (400 : Int32)), (.int (p0 &&& (2147483647 : Int32)))])) (fun t k => XT.sipushV X0.here hx rfl (400 : Int32) (hb hby at_8) (by decide) k) ?_
  refine own_Fin.back (S' := T0.setTop (mkF m 12 #[.val (.int p0), .val (.int p1), .val (.int (p1 &&& (3 : Int32))), .unset, .unset, .unset, .unset] [(.int ((p0 &&& (2147483647 : Int32)) % (400 : Int32)))])) (fun t k => iremM X0 hx rfl (hb hby at_11) rfl (by decide) k) ?_
  refine own_Fin.back (S' := T0.setTop (mkF m 13 #[.val (.int p0), .val (.int p1), .val (.int (p1 &&& (3 : Int32))), .val (.int ((p0 &&& (2147483647 : Int32)) % (400 : Int32))), .unset, .unset, .unset] [])) (fun t k => XS.istoreN X0.here hx rfl (hb hby at_12) rfl (l' := #[.val (.int p0), .val (.int p1), .val (.int (p1 &&& (3 : Int32))), .val (.int ((p0 &&& (2147483647 : Int32)) % (400 : Int32))), .unset, .unset, .unset]) rfl k) ?_
  refine own_Fin.back (S' := T0.setTop (mkF m 14 #[.val (.int p0), .val (.int p1), .val (.int (p1 &&& (3 : Int32))), .val (.int ((p0 &&& (2147483647 : Int32)) % (400 : Int32))), .unset, .unset, .unset] [(.int (p1 &&& (3 : Int32)))])) (fun t k => XS.iloadN X0.here hx rfl (hb hby at_13) rfl k) ?_
  rcases hc14 : ifCond.holds .ne (p1 &&& (3 : Int32)) with _ | _
  · refine own_Fin.back (S' := T0.setTop (mkF m 17 #[.val (.int p0), .val (.int p1), .val (.int (p1 &&& (3 : Int32))), .val (.int ((p0 &&& (2147483647 : Int32)) % (400 : Int32))), .unset, .unset, .unset] [])) (fun t k => XS.ifNo X0.here hx rfl (hb hby at_14) rfl hc14 k) ?_
    refine own_Fin.back (S' := T0.setTop (mkF m 18 #[.val (.int p0), .val (.int p1), .val (.int (p1 &&& (3 : Int32))), .val (.int ((p0 &&& (2147483647 : Int32)) % (400 : Int32))), .unset, .unset, .unset] [(.int p0)])) (fun t k => XS.iloadN X0.here hx rfl (hb hby at_17) rfl k) ?_
    refine own_Fin.back (S' := T0.setTop (mkF m 20 #[.val (.int p0), .val (.int p1), .val (.int (p1 &&& (3 : Int32))), .val (.int ((p0 &&& (2147483647 : Int32)) % (400 : Int32))), .val (.int p0), .unset, .unset] [])) (fun t k => XS.istore X0.here hx rfl (hb hby at_18) rfl (l' := #[.val (.int p0), .val (.int p1), .val (.int (p1 &&& (3 : Int32))), .val (.int ((p0 &&& (2147483647 : Int32)) % (400 : Int32))), .val (.int p0), .unset, .unset]) rfl k) ?_
    refine own_Fin.back (S' := T0.setTop (mkF m 60 #[.val (.int p0), .val (.int p1), .val (.int (p1 &&& (3 : Int32))), .val (.int ((p0 &&& (2147483647 : Int32)) % (400 : Int32))), .val (.int p0), .unset, .unset] [])) (fun t k => XS.goto X0.here hx rfl (pc0 := 20) (pc' := 60) rfl (hb hby at_20) (by decide) (by decide) k) ?_
    exact suf T0 X0 e0 _ _ _
  · refine own_Fin.back (S' := T0.setTop (mkF m 23 #[.val (.int p0), .val (.int p1), .val (.int (p1 &&& (3 : Int32))), .val (.int ((p0 &&& (2147483647 : Int32)) % (400 : Int32))), .unset, .unset, .unset] [])) (fun t k => XS.ifYes X0.here hx rfl (pc0 := 14) (pc' := 23) rfl (hb hby at_14) rfl hc14 (by decide) (by decide) k) ?_
    refine own_Fin.back (S' := T0.setTop (mkF m 24 #[.val (.int p0), .val (.int p1), .val (.int (p1 &&& (3 : Int32))), .val (.int ((p0 &&& (2147483647 : Int32)) % (400 : Int32))), .unset, .unset, .unset] [(.int (p1 &&& (3 : Int32)))])) (fun t k => XS.iloadN X0.here hx rfl (hb hby at_23) rfl k) ?_
    refine own_Fin.back (S' := T0.setTop (mkF m 25 #[.val (.int p0), .val (.int p1), .val (.int (p1 &&& (3 : Int32))), .val (.int ((p0 &&& (2147483647 : Int32)) % (400 : Int32))), .unset, .unset, .unset] [(.int (1 : Int32)), (.int (p1 &&& (3 : Int32)))])) (fun t k => XS.iconst X0.here hx rfl (hb hby at_24) k) ?_
    rcases hc15 : if_icmp.holds .ne (p1 &&& (3 : Int32)) (1 : Int32) with _ | _
    · refine own_Fin.back (S' := T0.setTop (mkF m 28 #[.val (.int p0), .val (.int p1), .val (.int (p1 &&& (3 : Int32))), .val (.int ((p0 &&& (2147483647 : Int32)) % (400 : Int32))), .unset, .unset, .unset] [])) (fun t k => XS.icmpNo X0.here hx rfl (hb hby at_25) rfl hc15 k) ?_
      refine own_Fin.back (S' := T0.setTop (mkF m 30 #[.val (.int p0), .val (.int p1), .val (.int (p1 &&& (3 : Int32))), .val (.int ((p0 &&& (2147483647 : Int32)) % (400 : Int32))), .unset, .unset, .unset] [(.int (100 : Int32))])) (fun t k => XT.bipushV X0.here hx rfl (100 : Int32) (hb hby at_28) (by decide) k) ?_
      refine own_Fin.back (S' := T0.setTop (mkF m 31 #[.val (.int p0), .val (.int p1), .val (.int (p1 &&& (3 : Int32))), .val (.int ((p0 &&& (2147483647 : Int32)) % (400 : Int32))), .unset, .unset, .unset] [(.int ((p0 &&& (2147483647 : Int32)) % (400 : Int32))), (.int (100 : Int32))])) (fun t k => XS.iloadN X0.here hx rfl (hb hby at_30) rfl k) ?_
      refine own_Fin.back (S' := T0.setTop (mkF m 32 #[.val (.int p0), .val (.int p1), .val (.int (p1 &&& (3 : Int32))), .val (.int ((p0 &&& (2147483647 : Int32)) % (400 : Int32))), .unset, .unset, .unset] [(.int ((100 : Int32) + ((p0 &&& (2147483647 : Int32)) % (400 : Int32))))])) (fun t k => XS.iadd X0.here hx rfl (hb hby at_31) rfl k) ?_
      refine own_Fin.back (S' := T0.setTop (mkF m 34 #[.val (.int p0), .val (.int p1), .val (.int (p1 &&& (3 : Int32))), .val (.int ((p0 &&& (2147483647 : Int32)) % (400 : Int32))), .val (.int ((100 : Int32) + ((p0 &&& (2147483647 : Int32)) % (400 : Int32)))), .unset, .unset] [])) (fun t k => XS.istore X0.here hx rfl (hb hby at_32) rfl (l' := #[.val (.int p0), .val (.int p1), .val (.int (p1 &&& (3 : Int32))), .val (.int ((p0 &&& (2147483647 : Int32)) % (400 : Int32))), .val (.int ((100 : Int32) + ((p0 &&& (2147483647 : Int32)) % (400 : Int32)))), .unset, .unset]) rfl k) ?_
      refine own_Fin.back (S' := T0.setTop (mkF m 60 #[.val (.int p0), .val (.int p1), .val (.int (p1 &&& (3 : Int32))), .val (.int ((p0 &&& (2147483647 : Int32)) % (400 : Int32))), .val (.int ((100 : Int32) + ((p0 &&& (2147483647 : Int32)) % (400 : Int32)))), .unset, .unset] [])) (fun t k => XS.goto X0.here hx rfl (pc0 := 34) (pc' := 60) rfl (hb hby at_34) (by decide) (by decide) k) ?_
      exact suf T0 X0 e0 _ _ _
    · refine own_Fin.back (S' := T0.setTop (mkF m 37 #[.val (.int p0), .val (.int p1), .val (.int (p1 &&& (3 : Int32))), .val (.int ((p0 &&& (2147483647 : Int32)) % (400 : Int32))), .unset, .unset, .unset] [])) (fun t k => XS.icmpYes X0.here hx rfl (pc0 := 25) (pc' := 37) rfl (hb hby at_25) rfl hc15 (by decide) (by decide) k) ?_
      refine own_Fin.back (S' := T0.setTop (mkF m 38 #[.val (.int p0), .val (.int p1), .val (.int (p1 &&& (3 : Int32))), .val (.int ((p0 &&& (2147483647 : Int32)) % (400 : Int32))), .unset, .unset, .unset] [(.int (p1 &&& (3 : Int32)))])) (fun t k => XS.iloadN X0.here hx rfl (hb hby at_37) rfl k) ?_
      refine own_Fin.back (S' := T0.setTop (mkF m 39 #[.val (.int p0), .val (.int p1), .val (.int (p1 &&& (3 : Int32))), .val (.int ((p0 &&& (2147483647 : Int32)) % (400 : Int32))), .unset, .unset, .unset] [(.int (2 : Int32)), (.int (p1 &&& (3 : Int32)))])) (fun t k => XS.iconst X0.here hx rfl (hb hby at_38) k) ?_
      rcases hc16 : if_icmp.holds .ne (p1 &&& (3 : Int32)) (2 : Int32) with _ | _
      · refine own_Fin.back (S' := T0.setTop (mkF m 42 #[.val (.int p0), .val (.int p1), .val (.int (p1 &&& (3 : Int32))), .val (.int ((p0 &&& (2147483647 : Int32)) % (400 : Int32))), .unset, .unset, .unset] [])) (fun t k => XS.icmpNo X0.here hx rfl (hb hby at_39) rfl hc16 k) ?_
        refine own_Fin.back (S' := T0.setTop (mkF m 44 #[.val (.int p0), .val (.int p1), .val (.int (p1 &&& (3 : Int32))), .val (.int ((p0 &&& (2147483647 : Int32)) % (400 : Int32))), .unset, .unset, .unset] [(.int (-100 : Int32))])) (fun t k => XT.bipushV X0.here hx rfl (-100 : Int32) (hb hby at_42) (by decide) k) ?_
        refine own_Fin.back (S' := T0.setTop (mkF m 45 #[.val (.int p0), .val (.int p1), .val (.int (p1 &&& (3 : Int32))), .val (.int ((p0 &&& (2147483647 : Int32)) % (400 : Int32))), .unset, .unset, .unset] [(.int ((p0 &&& (2147483647 : Int32)) % (400 : Int32))), (.int (-100 : Int32))])) (fun t k => XS.iloadN X0.here hx rfl (hb hby at_44) rfl k) ?_
        refine own_Fin.back (S' := T0.setTop (mkF m 46 #[.val (.int p0), .val (.int p1), .val (.int (p1 &&& (3 : Int32))), .val (.int ((p0 &&& (2147483647 : Int32)) % (400 : Int32))), .unset, .unset, .unset] [(.int ((-100 : Int32) - ((p0 &&& (2147483647 : Int32)) % (400 : Int32))))])) (fun t k => XS.isub X0.here hx rfl (hb hby at_45) rfl k) ?_
        refine own_Fin.back (S' := T0.setTop (mkF m 48 #[.val (.int p0), .val (.int p1), .val (.int (p1 &&& (3 : Int32))), .val (.int ((p0 &&& (2147483647 : Int32)) % (400 : Int32))), .val (.int ((-100 : Int32) - ((p0 &&& (2147483647 : Int32)) % (400 : Int32)))), .unset, .unset] [])) (fun t k => XS.istore X0.here hx rfl (hb hby at_46) rfl (l' := #[.val (.int p0), .val (.int p1), .val (.int (p1 &&& (3 : Int32))), .val (.int ((p0 &&& (2147483647 : Int32)) % (400 : Int32))), .val (.int ((-100 : Int32) - ((p0 &&& (2147483647 : Int32)) % (400 : Int32)))), .unset, .unset]) rfl k) ?_
        refine own_Fin.back (S' := T0.setTop (mkF m 60 #[.val (.int p0), .val (.int p1), .val (.int (p1 &&& (3 : Int32))), .val (.int ((p0 &&& (2147483647 : Int32)) % (400 : Int32))), .val (.int ((-100 : Int32) - ((p0 &&& (2147483647 : Int32)) % (400 : Int32)))), .unset, .unset] [])) (fun t k => XS.goto X0.here hx rfl (pc0 := 48) (pc' := 60) rfl (hb hby at_48) (by decide) (by decide) k) ?_
        exact suf T0 X0 e0 _ _ _
      · refine own_Fin.back (S' := T0.setTop (mkF m 51 #[.val (.int p0), .val (.int p1), .val (.int (p1 &&& (3 : Int32))), .val (.int ((p0 &&& (2147483647 : Int32)) % (400 : Int32))), .unset, .unset, .unset] [])) (fun t k => XS.icmpYes X0.here hx rfl (pc0 := 39) (pc' := 51) rfl (hb hby at_39) rfl hc16 (by decide) (by decide) k) ?_
        refine own_Fin.back (S' := T0.setTop (mkF m 54 #[.val (.int p0), .val (.int p1), .val (.int (p1 &&& (3 : Int32))), .val (.int ((p0 &&& (2147483647 : Int32)) % (400 : Int32))), .unset, .unset, .unset] [(.int (409 : Int32))])) (fun t k => XT.sipushV X0.here hx rfl (409 : Int32) (hb hby at_51) (by decide) k) ?_
        refine own_Fin.back (S' := T0.setTop (mkF m 55 #[.val (.int p0), .val (.int p1), .val (.int (p1 &&& (3 : Int32))), .val (.int ((p0 &&& (2147483647 : Int32)) % (400 : Int32))), .unset, .unset, .unset] [(.int ((p0 &&& (2147483647 : Int32)) % (400 : Int32))), (.int (409 : Int32))])) (fun t k => XS.iloadN X0.here hx rfl (hb hby at_54) rfl k) ?_
        refine own_Fin.back (S' := T0.setTop (mkF m 56 #[.val (.int p0), .val (.int p1), .val (.int (p1 &&& (3 : Int32))), .val (.int ((p0 &&& (2147483647 : Int32)) % (400 : Int32))), .unset, .unset, .unset] [(.int (3 : Int32)), (.int ((p0 &&& (2147483647 : Int32)) % (400 : Int32))), (.int (409 : Int32))])) (fun t k => XS.iconst X0.here hx rfl (hb hby at_55) k) ?_
        refine own_Fin.back (S' := T0.setTop (mkF m 57 #[.val (.int p0), .val (.int p1), .val (.int (p1 &&& (3 : Int32))), .val (.int ((p0 &&& (2147483647 : Int32)) % (400 : Int32))), .unset, .unset, .unset] [(.int (((p0 &&& (2147483647 : Int32)) % (400 : Int32)) % (3 : Int32))), (.int (409 : Int32))])) (fun t k => iremM X0 hx rfl (hb hby at_56) rfl (by decide) k) ?_
        refine own_Fin.back (S' := T0.setTop (mkF m 58 #[.val (.int p0), .val (.int p1), .val (.int (p1 &&& (3 : Int32))), .val (.int ((p0 &&& (2147483647 : Int32)) % (400 : Int32))), .unset, .unset, .unset] [(.int ((409 : Int32) + (((p0 &&& (2147483647 : Int32)) % (400 : Int32)) % (3 : Int32))))])) (fun t k => XS.iadd X0.here hx rfl (hb hby at_57) rfl k) ?_
        refine own_Fin.back (S' := T0.setTop (mkF m 60 #[.val (.int p0), .val (.int p1), .val (.int (p1 &&& (3 : Int32))), .val (.int ((p0 &&& (2147483647 : Int32)) % (400 : Int32))), .val (.int ((409 : Int32) + (((p0 &&& (2147483647 : Int32)) % (400 : Int32)) % (3 : Int32)))), .unset, .unset] [])) (fun t k => XS.istore X0.here hx rfl (hb hby at_58) rfl (l' := #[.val (.int p0), .val (.int p1), .val (.int (p1 &&& (3 : Int32))), .val (.int ((p0 &&& (2147483647 : Int32)) % (400 : Int32))), .val (.int ((409 : Int32) + (((p0 &&& (2147483647 : Int32)) % (400 : Int32)) % (3 : Int32)))), .unset, .unset]) rfl k) ?_
        exact suf T0 X0 e0 _ _ _
set_option maxRecDepth 65536 in
set_option maxHeartbeats 40000000 in
theorem own_comes {Post : Tables → Env → Array Value → State → Outcome → State → Prop} (hpost : ∀ tb e args s v u, (limb_1_1.after args s (.returned v) u = true ∧ limb_1_2.after args s (.returned v) u = true ∧ True) → FrameEnd s (.returned v) u (Jvm.fieldLocs frame_1_writes args s ++ Jvm.arrayLocs frame_1_arrays args s ++ Jvm.staticLocs frame_1_statics s) 0 0 → Post tb e args s (.returned v) u) :
    ArmFor flags0 classFile x code maxLocals ret World_1 tables_1 room_1 Calls_1 rest_1 Pre_1 Post := by
  intro l hfl _ _ p e ha hc hk s m args below hf hA hF happ hP
  obtain ⟨hcalls, hrest, hpre⟩ := hP
  obtain ⟨-, -, -, hnamed, -, -, -, hat⟩ := (Spec.applies_iff hf).mp happ
  obtain ⟨hg, hn⟩ := and_e (Cond.before_iff.mp (show (Jvm.Cond.and given_1 narrow_1).before args s = true from hpre))
  obtain ⟨hcount, g0⟩ := and_e hg
  obtain ⟨w0, w1, rfl⟩ : ∃ w0 w1 : Value, args = #[w0, w1] := by
    have hs : args.size = 2 := by simpa [Cond.value, given_1] using hcount
    obtain ⟨L⟩ := args
    match L, hs with
    | [w0, w1], _ => exact ⟨w0, w1, rfl⟩
  have hw := fun d (hd : d ∈ tables_1) => atoms_spec (ws := Jvm.Cond.code x code maxLocals ret :: tables_1) hat d (List.mem_cons_of_mem _ hd)
  obtain ⟨q0, g1⟩ := and_e g0
  obtain ⟨i0, j0⟩ := is_v q0
  obtain rfl : w0 = (.int i0) := Option.some.inj j0
  obtain ⟨i1, j1⟩ := is_v g1
  obtain rfl : w1 = (.int i1) := Option.some.inj j1
  obtain ⟨hN0, hR0⟩ := and_e hn
  obtain ⟨hN1, hR1⟩ := and_e hR0
  have hN2 := hR1
  obtain ⟨a_FAILED, E_FAILED⟩ := exa_v hN0
  have S_FAILED := own_sta E_FAILED (hw _ (List.mem_of_getElem? (i := 3) rfl)) (hw _ (List.mem_of_getElem? (i := 6) rfl))
  have X_FAILED := Exa.start E_FAILED hN0
  obtain ⟨a_DELIVERED, E_DELIVERED⟩ := exa_v hN1
  have S_DELIVERED := own_sta E_DELIVERED (hw _ (List.mem_of_getElem? (i := 3) rfl)) (hw _ (List.mem_of_getElem? (i := 9) rfl))
  have X_DELIVERED := Exa.start E_DELIVERED hN1
  obtain ⟨a_GONE, E_GONE⟩ := exa_v hN2
  have S_GONE := own_sta E_GONE (hw _ (List.mem_of_getElem? (i := 3) rfl)) (hw _ (List.mem_of_getElem? (i := 12) rfl))
  have X_GONE := Exa.start E_GONE hN2
  have H : own_Facts s s.heap a_FAILED a_DELIVERED a_GONE := ⟨S_FAILED, X_FAILED, S_DELIVERED, X_DELIVERED, S_GONE, X_GONE⟩
  obtain ⟨n, o, h1, h2, h3, _, L, rfl, ⟨rfl, rfl, -⟩, hq⟩ := own_law l s _ hw s.heap H i0 i1 tables_1 p e ha hc hk s m _ below hf ((Spec.applies_iff_loose hf).mp happ).1 ⟨rfl, State.Warmed39.refl s, rfl⟩ trivial
  exact ⟨n, _, h1, h2, h3, hpost _ _ _ _ _ _ ⟨Cond.after_iff.mpr rfl, Cond.after_iff.mpr (eq_i res_at (Term.int_eval (1)) rfl), trivial⟩ ⟨hq.1, hq.2.1, hq.2.2.sift fun y hy => (nomatch hy)⟩⟩
theorem main_1_1 : Claimed_1_1 := own_comes fun _ _ _ _ _ _ h hF => ⟨h.1, hF⟩
theorem main_1_2 : Claimed_1_2 := own_comes fun _ _ _ _ _ _ h hF => ⟨h.2.1, hF⟩
end Jvm.Pilot.@@N@@
namespace Jvm.Pilot.@@N@@
open Jvm Jvm.ClassFile Sem Op Lib Jvm.Free Jvm.Stand Jvm.Pilot.@@N@@.Jvm.D
/-! MADE BY PROGRAM (witnessworld.py) out of the Statement's table words and the real class files: 12 classes; the members and pool entries that the words name. The judged class is class 1, her method 1. -/
namespace start1
open Jvm.ClassFile
def u (s : String) : CpInfo := .utf8 (stringToUtf16 s)
/-- a pool by its gaps: so many unusable entries, then the entry; so many at the end -/
def gap : Nat → List CpInfo → List CpInfo
  | 0, r => r
  | n + 1, r => .unusable :: gap n r
def poolList (es : List (Nat × CpInfo)) (last : Nat) : List CpInfo := es.foldr (fun e r => gap e.1 (e.2 :: r)) (gap last [])
def pool (es : List (Nat × CpInfo)) (last : Nat) : Array CpInfo := ⟨poolList es last⟩
def fileOf (pool : Array CpInfo) (this : Nat) (attrs : Array Attribute := #[]) (ms : Array MethodInfo := #[]) (fl : Nat := 33) (sup : Nat := 0) (ifs : Array Nat := #[]) (fds : Array FieldInfo := #[]) : ClassFile where
  minorVersion := 0
  majorVersion := 65
  constantPool := pool
  accessFlags := fl
  thisClass := this
  superClass := sup
  interfaces := ifs
  fields := fds
  methods := ms
  attributes := attrs
def plain (name : String) (sup : Option ClassId) : Class where
  name := name
  kind := .ordinary
  loader := none
  accessFlags := 33
  super := sup
  interfaces := #[]
  cf := none
  fields := #[]
  methods := #[]
  instanceTypes := #[]
  staticTypes := #[]
  resolved := #[]
  callSites := []
  init := .initialized
  statics := none
  mirror := none

def pool0 : Array CpInfo := pool [(5, u "<init>"), (0, u "()V"), (1, .class_ 10), (1, u "java/lang/Object")] 113

def k0m0 : Method := { name := "<init>", desc := "()V", sig := { parameters := [], returnType := none }, accessFlags := 1, code := none }
/-- java/lang/Object -/
def k0 : Class := { plain "java/lang/Object" none with
  accessFlags := 33
  interfaces := #[]
  cf := some (fileOf pool0 8 #[] #[{ accessFlags := 1, nameIndex := 5, descriptorIndex := 6, attributes := #[] }] 33 0 #[] #[])
  fields := #[]
  methods := #[k0m0]
  instanceTypes := #[]
  staticTypes := #[]
  resolved := Array.replicate 124 none
  statics := none }

def pool1 : Array CpInfo := pool [(2, .class_ 4), (1, u "java/lang/Object"), (0, u "<init>"), (0, u "()V"), (0, .integer 2147483647), (0, .methodref 9 10), (0, .class_ 11), (0, .nameAndType 12 13), (0, u "com/example/acquit/acquit/webhook/AttemptOutcome"), (0, u "ofStatus"), (0, u "(I)Lcom/example/acquit/acquit/webhook/AttemptOutcome;"), (0, .fieldref 9 15), (0, .nameAndType 16 17), (0, u "DELIVERED"), (0, u "Lcom/example/acquit/acquit/webhook/AttemptOutcome;"), (0, .fieldref 9 19), (0, .nameAndType 20 17), (0, u "GONE"), (0, .fieldref 9 22), (0, .nameAndType 23 17), (0, u "FAILED"), (0, .class_ 25), (0, u "com/example/acquit/acquit/webhook/AttemptOutcomeOfStatusPinLaw"), (2, u "law"), (0, u "(II)Z")] 3

def k1m0 : Method := { name := "<init>", desc := "()V", sig := { parameters := [], returnType := none }, accessFlags := 2, code := none }
def k1c1 : Code := { maxStack := 3, maxLocals := 7, code := code, exceptionTable := #[], attributes := #[] }
def k1m1 : Method := { name := "law", desc := "(II)Z", sig := { parameters := [.int, .int], returnType := some .boolean }, accessFlags := 9, code := some k1c1 }
/-- com/example/acquit/acquit/webhook/AttemptOutcomeOfStatusPinLaw -/
def k1 : Class := { plain "com/example/acquit/acquit/webhook/AttemptOutcomeOfStatusPinLaw" (some 0) with
  accessFlags := 49
  interfaces := #[]
  cf := some (fileOf pool1 24 #[] #[{ accessFlags := 2, nameIndex := 5, descriptorIndex := 6, attributes := #[] }, { accessFlags := 9, nameIndex := 28, descriptorIndex := 29, attributes := #[] }] 49 2 #[] #[])
  fields := #[]
  methods := #[k1m0, k1m1]
  instanceTypes := #[]
  staticTypes := #[]
  resolved := Array.replicate 33 none
  statics := none }

def pool2 : Array CpInfo := pool [(1, .class_ 2), (0, u "java/lang/constant/Constable"), (0, .class_ 4), (0, u "java/lang/Object")] 6

/-- java/lang/constant/Constable -/
def k2 : Class := { plain "java/lang/constant/Constable" (some 0) with
  accessFlags := 1537
  interfaces := #[]
  cf := some (fileOf pool2 1 #[] #[] 1537 3 #[] #[])
  fields := #[]
  methods := #[]
  instanceTypes := #[]
  staticTypes := #[]
  resolved := Array.replicate 11 none
  statics := none }

def pool3 : Array CpInfo := pool [(1, .class_ 2), (0, u "java/lang/Comparable"), (0, .class_ 4), (0, u "java/lang/Object")] 7

/-- java/lang/Comparable -/
def k3 : Class := { plain "java/lang/Comparable" (some 0) with
  accessFlags := 1537
  interfaces := #[]
  cf := some (fileOf pool3 1 #[] #[] 1537 3 #[] #[])
  fields := #[]
  methods := #[]
  instanceTypes := #[]
  staticTypes := #[]
  resolved := Array.replicate 12 none
  statics := none }

def pool4 : Array CpInfo := pool [(1, .class_ 2), (0, u "java/io/Serializable"), (0, .class_ 4), (0, u "java/lang/Object")] 2

/-- java/io/Serializable -/
def k4 : Class := { plain "java/io/Serializable" (some 0) with
  accessFlags := 1537
  interfaces := #[]
  cf := some (fileOf pool4 1 #[] #[] 1537 3 #[] #[])
  fields := #[]
  methods := #[]
  instanceTypes := #[]
  staticTypes := #[]
  resolved := Array.replicate 7 none
  statics := none }

def pool5 : Array CpInfo := pool [(2, .class_ 4), (1, u "java/lang/Enum"), (0, u "name"), (0, u "Ljava/lang/String;"), (2, u "ordinal"), (0, u "I"), (1, .class_ 14), (1, u "java/lang/Object"), (4, u "hash"), (86, .class_ 108), (1, u "java/lang/Enum$EnumDesc"), (2, .class_ 112), (0, u "java/lang/constant/Constable"), (0, .class_ 114), (0, u "java/lang/Comparable"), (0, .class_ 116), (0, u "java/io/Serializable")] 87

/-- java/lang/Enum -/
def k5 : Class := { plain "java/lang/Enum" (some 0) with
  accessFlags := 1057
  interfaces := #[2, 3, 4]
  cf := some (fileOf pool5 2 #[.nestMembers #[106]] #[] 1057 12 #[111, 113, 115] #[{ accessFlags := 18, nameIndex := 5, descriptorIndex := 6, attributes := #[] }, { accessFlags := 18, nameIndex := 9, descriptorIndex := 10, attributes := #[] }, { accessFlags := 2, nameIndex := 19, descriptorIndex := 10, attributes := #[] }])
  fields := #[{ name := "name", type := (.object "java/lang/String"), accessFlags := 18, slot := 0, constantValue := 0 }, { name := "ordinal", type := .int, accessFlags := 18, slot := 1, constantValue := 0 }, { name := "hash", type := .int, accessFlags := 2, slot := 2, constantValue := 0 }]
  methods := #[]
  instanceTypes := #[(.object "java/lang/String"), .int, .int]
  staticTypes := #[]
  resolved := Array.replicate 204 none
  statics := none }

def pool6 : Array CpInfo := pool [(1, .class_ 2), (0, u "com/example/acquit/acquit/webhook/AttemptOutcome"), (0, .fieldref 1 4), (0, .nameAndType 5 6), (0, u "DELIVERED"), (0, u "Lcom/example/acquit/acquit/webhook/AttemptOutcome;"), (0, .fieldref 1 8), (0, .nameAndType 9 6), (0, u "GONE"), (0, .fieldref 1 11), (0, .nameAndType 12 6), (0, u "FAILED"), (2, u "$VALUES"), (0, u "[Lcom/example/acquit/acquit/webhook/AttemptOutcome;"), (6, .class_ 25), (1, u "java/lang/Enum"), (21, u "ofStatus"), (0, u "(I)Lcom/example/acquit/acquit/webhook/AttemptOutcome;")] 5

def k6c0 : Code := { maxStack := 2, maxLocals := 1, code := prog_53_method_4_code, exceptionTable := #[], attributes := #[] }
def k6m0 : Method := { name := "ofStatus", desc := "(I)Lcom/example/acquit/acquit/webhook/AttemptOutcome;", sig := { parameters := [.int], returnType := some (.object "com/example/acquit/acquit/webhook/AttemptOutcome") }, accessFlags := 9, code := some k6c0 }
/-- com/example/acquit/acquit/webhook/AttemptOutcome -/
def k6 : Class := { plain "com/example/acquit/acquit/webhook/AttemptOutcome" (some 5) with
  accessFlags := 16433
  interfaces := #[]
  cf := some (fileOf pool6 1 #[] #[{ accessFlags := 9, nameIndex := 47, descriptorIndex := 48, attributes := #[] }] 16433 23 #[] #[{ accessFlags := 16409, nameIndex := 5, descriptorIndex := 6, attributes := #[] }, { accessFlags := 16409, nameIndex := 9, descriptorIndex := 6, attributes := #[] }, { accessFlags := 16409, nameIndex := 12, descriptorIndex := 6, attributes := #[] }, { accessFlags := 4122, nameIndex := 15, descriptorIndex := 16, attributes := #[] }])
  fields := #[{ name := "DELIVERED", type := (.object "com/example/acquit/acquit/webhook/AttemptOutcome"), accessFlags := 16409, slot := 0, constantValue := 0 }, { name := "GONE", type := (.object "com/example/acquit/acquit/webhook/AttemptOutcome"), accessFlags := 16409, slot := 1, constantValue := 0 }, { name := "FAILED", type := (.object "com/example/acquit/acquit/webhook/AttemptOutcome"), accessFlags := 16409, slot := 2, constantValue := 0 }, { name := "$VALUES", type := (.array (.object "com/example/acquit/acquit/webhook/AttemptOutcome")), accessFlags := 4122, slot := 3, constantValue := 0 }]
  methods := #[k6m0]
  instanceTypes := #[(.object "java/lang/String"), .int, .int]
  staticTypes := #[(.object "com/example/acquit/acquit/webhook/AttemptOutcome"), (.object "com/example/acquit/acquit/webhook/AttemptOutcome"), (.object "com/example/acquit/acquit/webhook/AttemptOutcome"), (.array (.object "com/example/acquit/acquit/webhook/AttemptOutcome"))]
  resolved := Array.replicate 54 none
  statics := some 0 }

def pool7 : Array CpInfo := pool [(1, u "java/lang/Cloneable"), (0, .class_ 1), (0, u "java/lang/Object"), (0, .class_ 3)] 3

/-- java/lang/Cloneable -/
def k7 : Class := { plain "java/lang/Cloneable" (some 0) with
  accessFlags := 1537
  interfaces := #[]
  cf := some (fileOf pool7 2 #[] #[] 1537 4 #[] #[])
  fields := #[]
  methods := #[]
  instanceTypes := #[]
  staticTypes := #[]
  resolved := Array.replicate 8 none
  statics := none }

/-- the primitive byte -/
def k8 : Class := { plain "byte" none with kind := .primitive 'B', accessFlags := 0x411 }
/-- [B -/
def k9 : Class := { plain "[B" (some 0) with kind := .array 8 .byte, interfaces := #[7, 4], accessFlags := 1041 }

/-- the primitive int -/
def k10 : Class := { plain "int" none with kind := .primitive 'I', accessFlags := 0x411 }
/-- [I -/
def k11 : Class := { plain "[I" (some 0) with kind := .array 10 .int, interfaces := #[7, 4], accessFlags := 1041 }

def heap : Heap := #[{ cls := 6, slots := #[.ref 1, .ref 3, .ref 2, .null], vm := .statics 6 },
  { cls := 6, slots := #[.null, .int 0, .int 0], vm := .none },
  { cls := 6, slots := #[.null, .int 1, .int 0], vm := .none },
  { cls := 6, slots := #[.null, .int 2, .int 0], vm := .none }]
def classes : Array Class := #[k0, k1, k2, k3, k4, k5, k6, k7, k8, k9, k10, k11]
def interned : List (Array UInt16 × Addr) := []
def slotsUsed : Nat := 13
def theMethod : MethodId := ⟨1, 1⟩
def args0 : Array Value := #[.int 5, .int 6]
def aboutOver (below : List Frame) : State where
  vm := { classes := classes, interned := interned.toArray }
  heap := heap
  slotsUsed := slotsUsed
  threads := #[{ frames := .invoking theMethod args0 :: below }]
def below0 : List Frame := [.native { method := ⟨0, 0⟩, args := #[] }]
def about1 : State := aboutOver below0
def p0 : Program := .bare "" "" ""
def e0 : Env := launch0.env 0 0 0
theorem w_frames : about1.frames = Frame.invoking theMethod args0 :: below0 := rfl
set_option maxRecDepth 65536 in
theorem w_args : argsFit about1.vm theMethod args0 = true := by decide +kernel
set_option maxRecDepth 65536 in
theorem w_heap : heapFits about1 = true := by decide +kernel
set_option maxRecDepth 65536 in
theorem w_runnable : about1.curStatus? = some .runnable := by decide +kernel
set_option maxRecDepth 65536 in
theorem w_alone : about1.alone = true := by decide +kernel
set_option maxRecDepth 65536 in
theorem w_named : about1.methodNamed? x = some theMethod := by decide +kernel
set_option maxRecDepth 65536 in
theorem w_hears : about1.hears theMethod below0 = true := by decide +kernel
set_option maxRecDepth 65536 in
theorem w_ripe : about1.ripe theMethod args0 below0 = true := by decide +kernel
theorem w_running : about1.status = .running := rfl
set_option maxRecDepth 65536 in
theorem w_room : about1.hasRoom e0.platform room_1 = true :=
  launch0.hasRoom_least _ room_1 (by decide +kernel) (by decide +kernel) (by decide +kernel) (by decide +kernel) (by decide +kernel) (by decide +kernel)
theorem allAtoms_all (ts : List Jvm.Cond) (a : Array Jvm.Value) (st : Jvm.State) : (allAtoms ts).before a st = ts.all (fun c => c.before a st) := by
  induction ts with
  | nil => rfl
  | cons c t ih =>
    show (Jvm.Cond.and c (allAtoms t)).before a st = _
    rw [Jvm.Cond.before_and, ih, List.all_cons]
def words1 : List Jvm.Cond := Jvm.Cond.code x code maxLocals ret :: tables_1
/-- a 'code' word, met by the world's own term for the bytes: nothing is compared byte by byte -/
theorem code_word {y : MethodName} {bytes : ByteArray} {mx : Nat} {rt : Option FieldType} {a : Array Value} {s : State} {m : MethodId} {meth : Method} {c : Code} (h1 : s.methodNamed? y = some m) (h2 : s.vm.method? m = some meth) (h3 : meth.code = some c) (h4 : c.code = bytes)
    (h5 : (c.maxLocals == mx && c.exceptionTable.isEmpty && decide (c.maxStack ≤ mostOperands) && decide (meth.sig.returnType = rt) && !meth.locks && decide (parseMethodDescriptor y.desc = some meth.sig)) = true) : (Jvm.Cond.code y bytes mx rt).before a s = true := by
  simp only [Bool.and_eq_true, beq_iff_eq, Bool.not_eq_true', decide_eq_true_eq] at h5
  obtain ⟨⟨⟨⟨⟨g1, g2⟩, g3⟩, g4⟩, g5⟩, g6⟩ := h5
  simp [Cond.before, Cond.holds, Cond.value, h1, h2, h3, h4, g1, g2, g3, g4, g5, g6]
def isCode : Jvm.Cond → Bool
  | .code _ _ _ _ => true
  | _ => false
theorem all_split {L : List Jvm.Cond} {P : Jvm.Cond → Bool} (h1 : L.all (fun c => isCode c || P c) = true) (h2 : ∀ c ∈ L.filter isCode, P c = true) : L.all P = true := by
  refine List.all_eq_true.mpr fun c hc => ?_
  have h := List.all_eq_true.mp h1 c hc
  rcases Bool.eq_false_or_eq_true (isCode c) with hi | hi
  · exact h2 c (List.mem_filter.mpr ⟨hc, hi⟩)
  · simpa [hi] using h
set_option maxRecDepth 65536 in
theorem w_c0 : (Jvm.Cond.code x code maxLocals ret).before args0 about1 = true := code_word (m := ⟨1, 1⟩) (meth := k1m1) (c := k1c1) (by decide +kernel) rfl rfl rfl (by decide +kernel)
set_option maxRecDepth 65536 in
theorem w_c1 : (Jvm.Cond.code ({ cls := "com/example/acquit/acquit/webhook/AttemptOutcome", name := "ofStatus", desc := "(I)Lcom/example/acquit/acquit/webhook/AttemptOutcome;" } : Jvm.MethodName) prog_53_method_4_code (1 : Nat) (Option.some (Jvm.ClassFile.FieldType.object "com/example/acquit/acquit/webhook/AttemptOutcome"))).before args0 about1 = true := code_word (m := ⟨6, 0⟩) (meth := k6m0) (c := k6c0) (by decide +kernel) rfl rfl rfl (by decide +kernel)
def codes1 : List Jvm.Cond := [Jvm.Cond.code x code maxLocals ret, Jvm.Cond.code ({ cls := "com/example/acquit/acquit/webhook/AttemptOutcome", name := "ofStatus", desc := "(I)Lcom/example/acquit/acquit/webhook/AttemptOutcome;" } : Jvm.MethodName) prog_53_method_4_code (1 : Nat) (Option.some (Jvm.ClassFile.FieldType.object "com/example/acquit/acquit/webhook/AttemptOutcome"))]
set_option maxRecDepth 65536 in
theorem codes_eq : words1.filter isCode = codes1 := rfl
theorem w_codes : ∀ c ∈ words1.filter isCode, c.before args0 about1 = true := by
  rw [codes_eq]
  intro c hc
  simp only [codes1, List.mem_cons, List.not_mem_nil, or_false] at hc
  rcases hc with rfl | rfl
  · exact w_c0
  · exact w_c1
set_option maxRecDepth 65536 in
theorem w_t1 : words1.all (fun c => isCode c || c.before args0 about1) = true := by decide +kernel
theorem w_tables : (allAtoms (Jvm.Cond.code x code maxLocals ret :: tables_1)).before args0 about1 = true := by
  rw [allAtoms_all]
  show words1.all (fun c => c.before args0 about1) = true
  refine all_split ?_ w_codes
  rw [w_t1]
set_option maxRecDepth 65536 in
theorem w_case : (Jvm.Cond.and given_1 narrow_1).before args0 about1 = true := by decide +kernel
theorem w_applies : (headSpec (Jvm.Cond.code x code maxLocals ret :: tables_1) room_1).applies x e0.platform about1 = true :=
  (Spec.applies_iff w_frames).mpr ⟨w_running, w_runnable, w_alone, w_named, w_hears, w_ripe, w_room, w_tables⟩
theorem atStart : AtStart classFile x code maxLocals ret World_1 tables_1 room_1 Calls_1 rest_1 Pre_1 launch0 p0 e0 about1 theMethod args0 below0 :=
  ⟨lists_1, trivial, launch0.admits_env _ _ _, launch0.least_env, fairChoices_fair.cas, fairChoices_fair.clock, w_frames, w_args, w_heap, w_applies, trivial, trivial, w_case⟩
end start1
theorem witness_1 : WitnessClaimed_1 := ⟨start1.p0, start1.e0, start1.about1, start1.theMethod, start1.args0, start1.below0, start1.atStart⟩
end Jvm.Pilot.@@N@@
