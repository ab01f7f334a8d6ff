import JvmDerived
import JvmDerived.Pilot.@@N@@Statement
import JvmDerived.Pilot.@@N@@Code
set_option linter.unusedVariables false
set_option linter.unusedSimpArgs false
namespace Jvm.Pilot.@@N@@
open Jvm Jvm.ClassFile Sem Op Lib Jvm.Free Jvm.Stand Jvm.LawKit Jvm.RoadKit Bundle Jvm.Pilot.@@N@@.Jvm.D
section Own
variable {p : Program} {l : Launch} {e : Env} {R : Room} {s : State} {m : MethodId} {args : Array Value} {below : List Frame} {meth : Method} {c : Code} {T : State} {locs : List Loc} {cells slots : Nat} {Z : State} {a0 : Array Value} {h : Heap}
/-- the goal of a walk is a predicate that may be carried back over steps -/
def Go (p : Program) (e : Env) (below : List Frame) (G : State → Prop) : Prop := ∀ F F' : State, (∀ t, Steps p.tables e below F' t → Steps p.tables e below F t) → G F' → G F
/-- how a walk ends: it returns v -/
def Rt (p : Program) (l : Launch) (e : Env) (R : Room) (s : State) (m : MethodId) (args : Array Value) (below : List Frame) (meth : Method) (c : Code) (Q : Option Value → Heap → List Loc → Prop) (kc ks : Nat) (G : State → Prop) : Prop :=
  ∀ (T : State) (locs : List Loc) (cells slots : Nat) (v : Option Value) (F : State), Stand p l e R s m args below meth c T locs cells slots → cells ≤ kc → slots ≤ ks → (meth.sig.returnType = none → v = none) → Q v T.heap locs →
    (∀ fs, (∀ (f : JFrame) (acts : List Action), f.method = m → f.locked = none → f.entered = [] → (doReturn e (T.setTop f) acts v).1 = T.setFrames fs) → Steps p.tables e below F (T.setFrames fs)) → G F
def Gl (p : Program) (e : Env) (below : List Frame) (s : State) (Q : Option Value → Heap → List Loc → Prop) (kc ks : Nat) (F : State) : Prop :=
  ∃ s₂ o, Steps p.tables e below F s₂ ∧ s₂.status = .running ∧ Ended s₂ below o ∧ ∃ v L, o = .returned v ∧ Q v s₂.heap L ∧ FrameEnd s o s₂ L kc ks
theorem gl_go {Q : Option Value → Heap → List Loc → Prop} {kc ks : Nat} : Go p e below (Gl p e below s Q kc ks) := fun F F' h g => by
  obtain ⟨s₂, o, h1, h2⟩ := g
  exact ⟨s₂, o, h _ h1, h2⟩
theorem gl_rt {Q : Option Value → Heap → List Loc → Prop} {kc ks : Nat} (hlk : meth.locks = false) : Rt p l e R s m args below meth c Q kc ks (Gl p e below s Q kc ks) := fun T locs cells slots v F X hc hs hv hQ st => by
  obtain ⟨fs, hr, hrun, hended, hW, hsame⟩ := X.leave (v := v) hv hlk
  exact ⟨_, _, st fs hr, hrun, hended, v, locs, rfl, hQ, ⟨_, rfl⟩, hW, hsame.mono hc hs⟩
/-- a method's contract, at given arguments and a given heap -/
def Con (l : Launch) (Z : State) (y : MethodName) (bytes : ByteArray) (maxL : Nat) (ret : Option FieldType) (rm : Room) (as' : Array Value) (h : Heap) (Q : Option Value → Heap → List Loc → Prop) : Prop :=
  ∀ ws, MetFree l y (head1 (Jvm.Cond.code y bytes maxL ret :: ws) rm) (fun a U => a = as' ∧ Z.Warmed39 U.vm ∧ U.heap = h) (fun _ _ _ _ _ => True) (fun _ U o U' => ∃ v L, o = .returned v ∧ Q v U'.heap L ∧ FrameEnd U o U' L rm.cells rm.slots)
theorem own_body {y : MethodName} {bytes : ByteArray} {maxL : Nat} {ret : Option FieldType} {rm : Room} {as' : Array Value} {h0 : Heap} {Q : Option Value → Heap → List Loc → Prop} (hp : plainName y.cls = true)
    (k : ∀ (p : Program) (e : Env) (s : State) (m : MethodId) (below : List Frame) (meth : Method) (c : Code) (s₁ : State), p.tables.exec = Jvm.exec → c.code = bytes → c.maxLocals = maxL → s.vm.findClass y.cls = some m.cls → meth.name = y.name → meth.sig.returnType = ret → Z.Warmed39 s.vm → s₁.heap = h0 →
      Stand p l e rm s m as' below meth c s₁ [] 0 0 → ∀ G : State → Prop, Go p e below G → Rt p l e rm s m as' below meth c Q rm.cells rm.slots G → G (s₁.setTop (entryFrame m as' maxL))) : Con l Z y bytes maxL ret rm as' h0 Q := fun ws => by
  refine MetFree.of_bodySF (plainFor_of_name hp) hisR ?_
  intro p e s m args below meth c s₁ Bd hml0 hP hK
  obtain ⟨rfl, hZ, hh⟩ := hP
  exact k p e s m below meth c s₁ Bd.exec Bd.bytes hml0 (findClass_of_methodNamed Bd.named) (name_of_methodNamed Bd.named Bd.method).1 Bd.returns hZ (by rw [← hh, Bd.state]; rfl) (Stand.of_body Bd) (Gl p e below s Q rm.cells rm.slots) gl_go (gl_rt Bd.notSynchronized)
section Rets
variable {Q : Option Value → Heap → List Loc → Prop} {kc ks : Nat} {G : State → Prop}
theorem own_retI (rt : Rt p l e R s m args below meth c Q kc ks G) (X : Stand p l e R s m args below meth c T locs cells slots) (hx : p.tables.exec = Jvm.exec) {pc : Nat} {Ls : Array Slot} {rest : List Value} (hret : meth.sig.returnType = some .int) {z : Int32} (hd : decode c.code pc = .ok (.ireturn, 1)) (hc : cells ≤ kc) (hs : slots ≤ ks) (hQ : Q (some (.int z)) T.heap locs) : G (T.setTop (mkF m pc Ls (.int z :: rest))) :=
  rt T locs cells slots _ _ X hc hs (fun h => by rw [hret] at h; cases h) hQ fun fs hr => retOut X hx hret rfl (Or.inl ⟨rfl, Or.inl rfl, _, rfl⟩) hd hr
theorem own_retZ (rt : Rt p l e R s m args below meth c Q kc ks G) (X : Stand p l e R s m args below meth c T locs cells slots) (hx : p.tables.exec = Jvm.exec) {pc : Nat} {Ls : Array Slot} {rest : List Value} {t : FieldType} (hret : meth.sig.returnType = some t) (ht : t = .boolean ∨ t = .byte ∨ t = .char ∨ t = .short) {z : Int32} (hd : decode c.code pc = .ok (.ireturn, 1)) (hc : cells ≤ kc) (hs : slots ≤ ks) (hQ : Q (some (.int (nar t z))) T.heap locs) : G (T.setTop (mkF m pc Ls (.int z :: rest))) :=
  rt T locs cells slots _ _ X hc hs (fun h => by rw [hret] at h; cases h) hQ fun fs hr => retN X hx hret ht hd hr
theorem own_retJ (rt : Rt p l e R s m args below meth c Q kc ks G) (X : Stand p l e R s m args below meth c T locs cells slots) (hx : p.tables.exec = Jvm.exec) {pc : Nat} {Ls : Array Slot} {rest : List Value} (hret : meth.sig.returnType = some .long) {z : Int64} (hd : decode c.code pc = .ok (.lreturn, 1)) (hc : cells ≤ kc) (hs : slots ≤ ks) (hQ : Q (some (.long z)) T.heap locs) : G (T.setTop (mkF m pc Ls (.long z :: rest))) :=
  rt T locs cells slots _ _ X hc hs (fun h => by rw [hret] at h; cases h) hQ fun fs hr => retOut X hx hret rfl (Or.inr (Or.inl ⟨rfl, rfl, _, rfl⟩)) hd hr
theorem own_retA (rt : Rt p l e R s m args below meth c Q kc ks G) (X : Stand p l e R s m args below meth c T locs cells slots) (hx : p.tables.exec = Jvm.exec) {pc : Nat} {Ls : Array Slot} {rest : List Value} {t : FieldType} (hret : meth.sig.returnType = some t) (ht : t.isReference = true) {v : Value} (hv : v.isRef = true) (hd : decode c.code pc = .ok (.areturn, 1)) (hc : cells ≤ kc) (hs : slots ≤ ks) (hQ : Q (some v) T.heap locs) : G (T.setTop (mkF m pc Ls (v :: rest))) :=
  rt T locs cells slots _ _ X hc hs (fun h => by rw [hret] at h; cases h) hQ fun fs hr => retOut X hx hret (by cases t <;> cases v <;> first | rfl | (simp [FieldType.isReference, Value.isRef] at ht hv)) (Or.inr (Or.inr (Or.inr (Or.inr ⟨rfl, ht, hv⟩)))) hd hr
theorem own_retV (rt : Rt p l e R s m args below meth c Q kc ks G) (X : Stand p l e R s m args below meth c T locs cells slots) (hx : p.tables.exec = Jvm.exec) {pc : Nat} {Ls : Array Slot} {rest : List Value} (hret : meth.sig.returnType = none) (hd : decode c.code pc = .ok (.return_, 1)) (hc : cells ≤ kc) (hs : slots ≤ ks) (hQ : Q none T.heap locs) : G (T.setTop (mkF m pc Ls [])) :=
  rt T locs cells slots _ _ X hc hs (fun _ => rfl) hQ fun fs hr => X.returnOut hx hret hd hr
end Rets
section Calls
variable {G : State → Prop}
theorem own_static (go : Go p e below G) (X : Stand p l e R s m args below meth c T locs cells slots) (hx : p.tables.exec = Jvm.exec) (hZ : Z.Warmed39 s.vm) (eT : T.heap = h) {own : String} {index : Nat} {y : MethodName} {bytes : ByteArray} {maxL : Nat} {ret : Option FieldType} {rm : Room} {as' : Array Value} {Q : Option Value → Heap → List Loc → Prop} (hown : s.vm.findClass own = some m.cls) (w1 : (Cond.methodLink own index y).before a0 Z = true) (w2 : (Cond.static y).before a0 Z = true) (w3 : (Cond.initialized y.cls).before a0 Z = true) (w4 : (Cond.code y bytes maxL ret).before a0 Z = true)
    (hy : y.cls ≠ "java/lang/invoke/MethodHandle" ∧ y.cls ≠ "java/lang/invoke/VarHandle") (hM : Con l Z y bytes maxL ret rm as' h Q) (W : Nat) (hf : rm.frames + 1 ≤ R.frames) (hl : W + (maxL + 11) + rm.locals ≤ R.locals) (hc : cells + rm.cells ≤ R.cells) (hs : slots + rm.slots ≤ R.slots)
    {g : JFrame} (hg : g.method = m) (hsize : g.locals.size = c.maxLocals) (argsL rest : List Value) (has : argsL.toArray = as') (hlen : ∀ sig, parseMethodDescriptor y.desc = some sig → argsL.length = sig.parameters.length)
    (hstack : g.stack = argsL.reverse ++ rest) (hW : 2 * g.monitorRoom + (rest.map fun v => v.category).sum ≤ W) (hd : decode c.code g.pc = .ok (.invokestatic index, 3))
    (k : ∀ (T' : State) (L' : List Loc) (v : Option Value), Stand p l e R s m args below meth c T' (locs ++ L') (cells + rm.cells) (slots + rm.slots) → Q v T'.heap L' → G (T'.setTop { g with pc := g.pc + 3, stack := v.toList ++ rest })) : G (T.setTop g) := by
  obtain ⟨v, _, ⟨T1, L1, k1, n1⟩, -, X1, ⟨Lc, hQ, l1, y1, z1⟩, st⟩ := Jvm.LawKit.callS X hx hown (mvT hZ w1) (mvT hZ w2) (mvT hZ w3) (mvT hZ w4) hy (backOf (R := R) (W := W) (hM []) hZ w4 w3 hf hl) hg hsize hlen hstack hW hd (fun _ _ => ⟨has, eT, hc, hs⟩)
  dsimp only [Pt.U, Pt.locs, Pt.cells, Pt.slots] at X1 l1 y1 z1 st hQ
  subst l1 y1 z1
  exact go _ _ st (k T1 Lc v X1 hQ)
theorem own_init (go : Go p e below G) (X : Stand p l e R s m args below meth c T locs cells slots) (hx : p.tables.exec = Jvm.exec) (hZ : Z.Warmed39 s.vm) (eT : T.heap = h) {own : String} {index : Nat} {y : MethodName} {bytes : ByteArray} {maxL : Nat} {ret : Option FieldType} {rm : Room} {as' : Array Value} {Q : Option Value → Heap → List Loc → Prop} (hy1 : y.name = "<init>") (hown : s.vm.findClass own = some m.cls) (w1 : (Cond.methodLink own index y).before a0 Z = true) (w2 : (Cond.instanceMethod y).before a0 Z = true) (w3 : (Cond.initialized y.cls).before a0 Z = true) (w4 : (Cond.code y bytes maxL none).before a0 Z = true)
    (hy : y.cls ≠ "java/lang/invoke/MethodHandle" ∧ y.cls ≠ "java/lang/invoke/VarHandle") (hM : Con l Z y bytes maxL none rm as' h Q) (W : Nat) (hf : rm.frames + 1 ≤ R.frames) (hl : W + (maxL + 11) + rm.locals ≤ R.locals) (hc : cells + rm.cells ≤ R.cells) (hs : slots + rm.slots ≤ R.slots)
    {g : JFrame} (hg : g.method = m) (hsize : g.locals.size = c.maxLocals) (a : Addr) (argsL rest : List Value) (has : (.ref a :: argsL).toArray = as') (hlen : ∀ sig, parseMethodDescriptor y.desc = some sig → argsL.length = sig.parameters.length)
    (hstack : g.stack = argsL.reverse ++ .ref a :: rest) (hW : 2 * g.monitorRoom + (rest.map fun v => v.category).sum ≤ W) (hd : decode c.code g.pc = .ok (.invokespecial index, 3))
    (k : ∀ (T' : State) (L' : List Loc) (v : Option Value), Stand p l e R s m args below meth c T' (locs ++ L') (cells + rm.cells) (slots + rm.slots) → Q v T'.heap L' → G (T'.setTop { g with pc := g.pc + 3, stack := v.toList ++ rest })) : G (T.setTop g) := by
  obtain ⟨v, _, ⟨T1, L1, k1, n1⟩, -, X1, ⟨Lc, hQ, l1, y1, z1⟩, st⟩ := X.specialBack hx hy1 hown (mvT hZ w1) (mvT hZ w2) (mvT hZ w4) hy (backOf (R := R) (W := W) (hM []) hZ w4 w3 hf hl) hg hsize (Steps.refl _) (a := a) hlen hstack hW hd (fun _ _ => ⟨has, eT, hc, hs⟩)
  dsimp only [Pt.U, Pt.locs, Pt.cells, Pt.slots] at X1 l1 y1 z1 st hQ
  subst l1 y1 z1
  exact go _ _ (fun t k => st.trans k) (k T1 Lc v X1 hQ)
theorem own_virtual (go : Go p e below G) (X : Stand p l e R s m args below meth c T locs cells slots) (hx : p.tables.exec = Jvm.exec) (hZ : Z.Warmed39 s.vm) (eT : T.heap = h) {own : String} {index : Nat} {y : MethodName} {bytes : ByteArray} {maxL : Nat} {ret : Option FieldType} {rm : Room} {as' : Array Value} {Q : Option Value → Heap → List Loc → Prop} {C : String} {z : MethodName} (hown : s.vm.findClass own = some m.cls) (w1 : (Cond.methodLink own index y).before a0 Z = true) (w2 : (Cond.declares y).before a0 Z = true) (hnf : NotFace s y) (w3 : (Cond.selects C y z).before a0 Z = true) (w4 : (Cond.instanceMethod z).before a0 Z = true) (w5 : (Cond.initialized z.cls).before a0 Z = true) (w6 : (Cond.code z bytes maxL ret).before a0 Z = true)
    (hy : y.cls ≠ "java/lang/invoke/MethodHandle" ∧ y.cls ≠ "java/lang/invoke/VarHandle") (hM : Con l Z z bytes maxL ret rm as' h Q) (W : Nat) (hf : rm.frames + 1 ≤ R.frames) (hl : W + (maxL + 11) + rm.locals ≤ R.locals) (hc : cells + rm.cells ≤ R.cells) (hs : slots + rm.slots ≤ R.slots)
    {a : Addr} (E : Exa Z h a C) {g : JFrame} (hg : g.method = m) (hsize : g.locals.size = c.maxLocals) (argsL rest : List Value) (has : (.ref a :: argsL).toArray = as') (hlen : ∀ sig, parseMethodDescriptor y.desc = some sig → argsL.length = sig.parameters.length)
    (hstack : g.stack = argsL.reverse ++ .ref a :: rest) (hW : 2 * g.monitorRoom + (rest.map fun v => v.category).sum ≤ W) (hd : decode c.code g.pc = .ok (.invokevirtual index, 3))
    (k : ∀ (T' : State) (L' : List Loc) (v : Option Value), Stand p l e R s m args below meth c T' (locs ++ L') (cells + rm.cells) (slots + rm.slots) → Q v T'.heap L' → G (T'.setTop { g with pc := g.pc + 3, stack := v.toList ++ rest })) : G (T.setTop g) := by
  obtain ⟨cq, kq, qa, qb, qc⟩ := isOf hZ eT E
  obtain ⟨v, _, ⟨T1, L1, k1, n1⟩, -, X1, ⟨Lc, hQ, l1, y1, z1⟩, st⟩ := X.virtualBack hx hown (mvT hZ w1) (mvT hZ w2) hnf (mvT hZ w3) (mvT hZ w4) hy (backOf (R := R) (W := W) (hM []) hZ w6 w5 hf hl) qa qc hg hsize (Steps.refl _) hlen hstack hW hd (fun _ _ => ⟨has, eT, hc, hs⟩)
  dsimp only [Pt.U, Pt.locs, Pt.cells, Pt.slots] at X1 l1 y1 z1 st hQ
  subst l1 y1 z1
  exact go _ _ (fun t k => st.trans k) (k T1 Lc v X1 hQ)
theorem own_private (go : Go p e below G) (X : Stand p l e R s m args below meth c T locs cells slots) (hx : p.tables.exec = Jvm.exec) (hZ : Z.Warmed39 s.vm) (eT : T.heap = h) {own : String} {index : Nat} {y : MethodName} {bytes : ByteArray} {maxL : Nat} {ret : Option FieldType} {rm : Room} {as' : Array Value} {Q : Option Value → Heap → List Loc → Prop} (hown : s.vm.findClass own = some m.cls) (w1 : (Cond.methodLink own index y).before a0 Z = true) (w2 : (Cond.instanceMethod y).before a0 Z = true) (w3 : (Cond.selects y.cls y y).before a0 Z = true) (w4 : (Cond.privateMethod y).before a0 Z = true) (w5 : (Cond.initialized y.cls).before a0 Z = true) (w6 : (Cond.code y bytes maxL ret).before a0 Z = true)
    (hy : y.cls ≠ "java/lang/invoke/MethodHandle" ∧ y.cls ≠ "java/lang/invoke/VarHandle") (hM : Con l Z y bytes maxL ret rm as' h Q) (W : Nat) (hf : rm.frames + 1 ≤ R.frames) (hl : W + (maxL + 11) + rm.locals ≤ R.locals) (hc : cells + rm.cells ≤ R.cells) (hs : slots + rm.slots ≤ R.slots)
    {a : Addr} {C : String} (E : Exa Z h a C) {g : JFrame} (hg : g.method = m) (hsize : g.locals.size = c.maxLocals) (argsL rest : List Value) (has : (.ref a :: argsL).toArray = as') (hlen : ∀ sig, parseMethodDescriptor y.desc = some sig → argsL.length = sig.parameters.length)
    (hstack : g.stack = argsL.reverse ++ .ref a :: rest) (hW : 2 * g.monitorRoom + (rest.map fun v => v.category).sum ≤ W) (hd : decode c.code g.pc = .ok (.invokevirtual index, 3))
    (k : ∀ (T' : State) (L' : List Loc) (v : Option Value), Stand p l e R s m args below meth c T' (locs ++ L') (cells + rm.cells) (slots + rm.slots) → Q v T'.heap L' → G (T'.setTop { g with pc := g.pc + 3, stack := v.toList ++ rest })) : G (T.setTop g) := by
  obtain ⟨cq, q1, q2⟩ := E.cell
  obtain ⟨v, _, ⟨T1, L1, k1, n1⟩, -, X1, ⟨Lc, hQ, l1, y1, z1⟩, st⟩ := X.privateBack hx hown (mvT hZ w1) (mvT hZ w2) (mvT hZ w3) (Cond.privateMethod_at (mvP hZ w4 (args := #[]))) (mvT hZ w6) hy (backOf (R := R) (W := W) (hM []) hZ w6 w5 hf hl) hg hsize (Steps.refl _) (a := a) (by rw [eT]; exact q1) q2 hlen hstack hW hd (fun _ _ => ⟨has, eT, hc, hs⟩)
  dsimp only [Pt.U, Pt.locs, Pt.cells, Pt.slots] at X1 l1 y1 z1 st hQ
  subst l1 y1 z1
  exact go _ _ (fun t k => st.trans k) (k T1 Lc v X1 hQ)
end Calls
end Own
section OwnSta
variable {args : Array Value} {s Z : State} {C n d K : String} {a b : Addr} {h h' : Heap} {v w : Value} {t : Term} {ws : List Addr}
theorem own_sta (hx : (Jvm.Cond.exactly (Term.static C n d) K).value args s none s [] = some true) (w1 : (Jvm.Cond.initialized C).before args s = true) (w2 : (Jvm.Cond.laysStatic C n d).before args s = true) :
    ∃ a, Sta s s.heap C n d (.ref a) ∧ Exa s s.heap a K ∧ (Term.static C n d).eval args s none [] s = some (.ref a) := by
  obtain ⟨a, ev⟩ := exa_v hx
  exact ⟨a, Sta.start ev (Or.inr ⟨w1, w2⟩), Exa.start ev hx, ev⟩
theorem own_fieldeq {k : Int32} (ev : t.eval args s none [] s = some (.ref a)) (hq : (Jvm.Cond.eq (.field t C n d) (.int k)).value args s none s [] = some true) : Fld s s.heap a C n d (.int k) := by
  obtain ⟨x, y, ex, ey, k1, k2⟩ := cmp_v (Or.inl hq)
  have ey' := Option.some.inj ((Term.int_eval k).symm.trans ey)
  subst ey'
  obtain ⟨z, rfl⟩ := k2
  have := gotT (Cond.eq_ints ex ey) hq
  subst this
  rw [fld_at ev] at ex
  exact Fld.start ex
end OwnSta
theorem d1_0 : decode prog_5_method_5_code 0 = .ok (.aload_n 0, 1) := by decide +kernel
theorem d1_1 : decode prog_5_method_5_code 1 = .ok (.getstatic 7, 3) := by decide +kernel
theorem d1_4 : decode prog_5_method_5_code 4 = .ok (.if_acmp .eq 10, 3) := by decide +kernel
theorem d1_7 : decode prog_5_method_5_code 7 = .ok (.aload_n 0, 1) := by decide +kernel
theorem d1_8 : decode prog_5_method_5_code 8 = .ok (.getstatic 10, 3) := by decide +kernel
theorem d1_11 : decode prog_5_method_5_code 11 = .ok (.if_acmp .ne 7, 3) := by decide +kernel
theorem d1_14 : decode prog_5_method_5_code 14 = .ok (.iconst 1, 1) := by decide +kernel
theorem d1_15 : decode prog_5_method_5_code 15 = .ok (.goto 4, 3) := by decide +kernel
theorem d1_18 : decode prog_5_method_5_code 18 = .ok (.iconst 0, 1) := by decide +kernel
theorem d1_19 : decode prog_5_method_5_code 19 = .ok (.ireturn, 1) := by decide +kernel
theorem pd_0 : parseMethodDescriptor "()Z" = some ⟨[], some .boolean⟩ := by decide +kernel
theorem pn_1 : plainName "com/example/actionloom/actionloom/Action$Category" = true := by first | (simp [plainName, overriddenIn]; done) | decide +kernel
theorem ef_rm1 (m : MethodId) (x0 : Addr) : entryFrame m #[(.ref x0)] 1 = mkF m 0 #[.val (.ref x0)] [] := by first | (simp [entryFrame, mkF, argsToLocals, Value.category]; done) | rfl
set_option maxRecDepth 65536 in
set_option maxHeartbeats 40000000 in
theorem rm1 (l : Launch) (Z : State) (a0 : Array Value) (hw : ∀ d ∈ tables_1, d.before a0 Z = true) (r r1 r2 : Addr) (h0 : Heap) (n0 : Nat) (Z0 : n0 ≤ h0.size) (S1 : Sta Z h0 "com/example/actionloom/actionloom/Action$Category" "COMPLETER" "Lcom/example/actionloom/actionloom/Action$Category;" (.ref r1)) (S2 : Sta Z h0 "com/example/actionloom/actionloom/Action$Category" "SUPPORTER" "Lcom/example/actionloom/actionloom/Action$Category;" (.ref r2)) :
    Con l Z (⟨"com/example/actionloom/actionloom/Action$Category", "mayBeInserted", "()Z"⟩ : MethodName) prog_5_method_5_code 1 (some .boolean) ({ frames := 0, cells := 0, slots := 0, locals := 0 } : Room) #[(.ref r)] h0 (fun v h L => v = some (.int (if r = r1 ∨ r = r2 then 1 else 0)) ∧ Fr n0 L ∧ h = h0) := by
  refine own_body pn_1 ?_
  intro p e s m below meth c s₁ hx hby hml hown hnm hret hZ e0 X0 G go rt
  have N0 := Fr.nil n0
  rw [ef_rm1 m r]
  show G (s₁.setTop (mkF m 0 #[.val (.ref r)] []))
  refine go _ _ (fun t' k' => XS.aloadN X0.here hx rfl (hb hby d1_0) rfl rfl  k') ?_
  show G (s₁.setTop (mkF m 1 #[.val (.ref r)] [(.ref r)]))
  obtain ⟨T1, X1, e1, st1⟩ := getS X0 hx hZ hown (host := "") (hw _ (List.mem_of_getElem? (i := 8) rfl)) Via.refl e0 S1 (g := (mkF m 1 #[.val (.ref r)] [(.ref r)])) rfl (hb hby d1_1)
  refine go _ _ st1 ?_
  show G (T1.setTop (mkF m 4 #[.val (.ref r)] [(.ref r1), (.ref r)]))
  by_cases c2 : ((.ref r) : Value) = (.ref r1)
  · refine go _ _ (fun t' k' => Jvm.RoadKit.acmp (g := (mkF m 4 #[.val (.ref r)] [(.ref r1), (.ref r)])) X1 hx rfl (x := (.ref r)) (y := (.ref r1)) rfl rfl (rest := []) (pc0 := 4) (pc' := 14) (same := true) rfl (hb hby d1_4) rfl (decide_eq_true c2) (by decide) (by decide) k') ?_
    show G (T1.setTop (mkF m 14 #[.val (.ref r)] []))
    refine go _ _ (fun t' k' => XS.iconst X1.here hx rfl (hb hby d1_14) k') ?_
    show G (T1.setTop (mkF m 15 #[.val (.ref r)] [(.int (1 : Int32))]))
    refine go _ _ (fun t' k' => XS.goto X1.here hx rfl (pc0 := 15) (pc' := 19) rfl (hb hby d1_15) (by decide) (by decide) k') ?_
    show G (T1.setTop (mkF m 19 #[.val (.ref r)] [(.int (1 : Int32))]))
    refine own_retZ rt X1 hx (t := .boolean) hret (by simp) (hb hby d1_19) (by decide) (by decide) ?_
    refine ⟨?_, N0, e1⟩
    simp only [Value.ref.injEq] at c2
    simp [nar, c2]
  · refine go _ _ (fun t' k' => Jvm.RoadKit.acmp (g := (mkF m 4 #[.val (.ref r)] [(.ref r1), (.ref r)])) X1 hx rfl (x := (.ref r)) (y := (.ref r1)) rfl rfl (rest := []) (pc0 := 4) (pc' := 7) (same := false) rfl (hb hby d1_4) rfl (decide_eq_false c2) (by decide) (by decide) k') ?_
    show G (T1.setTop (mkF m 7 #[.val (.ref r)] []))
    refine go _ _ (fun t' k' => XS.aloadN X1.here hx rfl (hb hby d1_7) rfl rfl  k') ?_
    show G (T1.setTop (mkF m 8 #[.val (.ref r)] [(.ref r)]))
    obtain ⟨T3, X3, e3, st3⟩ := getS X1 hx hZ hown (host := "") (hw _ (List.mem_of_getElem? (i := 10) rfl)) Via.refl e1 S2 (g := (mkF m 8 #[.val (.ref r)] [(.ref r)])) rfl (hb hby d1_8)
    refine go _ _ st3 ?_
    show G (T3.setTop (mkF m 11 #[.val (.ref r)] [(.ref r2), (.ref r)]))
    by_cases c4 : ((.ref r) : Value) = (.ref r2)
    · refine go _ _ (fun t' k' => Jvm.RoadKit.acmp (g := (mkF m 11 #[.val (.ref r)] [(.ref r2), (.ref r)])) X3 hx rfl (x := (.ref r)) (y := (.ref r2)) rfl rfl (rest := []) (pc0 := 11) (pc' := 14) (same := true) rfl (hb hby d1_11) rfl (decide_eq_true c4) (by decide) (by decide) k') ?_
      show G (T3.setTop (mkF m 14 #[.val (.ref r)] []))
      refine go _ _ (fun t' k' => XS.iconst X3.here hx rfl (hb hby d1_14) k') ?_
      show G (T3.setTop (mkF m 15 #[.val (.ref r)] [(.int (1 : Int32))]))
      refine go _ _ (fun t' k' => XS.goto X3.here hx rfl (pc0 := 15) (pc' := 19) rfl (hb hby d1_15) (by decide) (by decide) k') ?_
      show G (T3.setTop (mkF m 19 #[.val (.ref r)] [(.int (1 : Int32))]))
      refine own_retZ rt X3 hx (t := .boolean) hret (by simp) (hb hby d1_19) (by decide) (by decide) ?_
      refine ⟨?_, N0, e3⟩
      simp only [Value.ref.injEq] at c2 c4
      simp [nar, c2, c4]
    · refine go _ _ (fun t' k' => Jvm.RoadKit.acmp (g := (mkF m 11 #[.val (.ref r)] [(.ref r2), (.ref r)])) X3 hx rfl (x := (.ref r)) (y := (.ref r2)) rfl rfl (rest := []) (pc0 := 11) (pc' := 18) (same := false) rfl (hb hby d1_11) rfl (decide_eq_false c4) (by decide) (by decide) k') ?_
      show G (T3.setTop (mkF m 18 #[.val (.ref r)] []))
      refine go _ _ (fun t' k' => XS.iconst X3.here hx rfl (hb hby d1_18) k') ?_
      show G (T3.setTop (mkF m 19 #[.val (.ref r)] [(.int (0 : Int32))]))
      refine own_retZ rt X3 hx (t := .boolean) hret (by simp) (hb hby d1_19) (by decide) (by decide) ?_
      refine ⟨?_, N0, e3⟩
      simp only [Value.ref.injEq] at c2 c4
      simp [nar, c2, c4]
theorem pn_0 : plainName "com/example/actionloom/actionloom/CategoryMayBeInsertedPinLaw" = true := by first | (simp [plainName, overriddenIn]; done) | decide +kernel
theorem ef_rm0 (m : MethodId) (x0 : Int32) : entryFrame m #[(.int x0)] maxLocals = mkF m 0 #[.val (.int x0), .unset, .unset, .unset] [] := by first | (simp [entryFrame, mkF, argsToLocals, Value.category, maxLocals]; done) | rfl
set_option maxRecDepth 65536 in
set_option maxHeartbeats 40000000 in
theorem rm0 (l : Launch) (Z : State) (a0 : Array Value) (hw : ∀ d ∈ tables_1, d.before a0 Z = true) (u0 : Int32) (h0 : Heap) (n0 : Nat) (Z0 : n0 ≤ h0.size) (r0 r1 r2 r3 : Addr) (S0 : Sta Z h0 "com/example/actionloom/actionloom/Action$Category" "EFFECTOR" "Lcom/example/actionloom/actionloom/Action$Category;" (.ref r0)) (S1 : Sta Z h0 "com/example/actionloom/actionloom/Action$Category" "COMPLETER" "Lcom/example/actionloom/actionloom/Action$Category;" (.ref r1)) (S2 : Sta Z h0 "com/example/actionloom/actionloom/Action$Category" "SUPPORTER" "Lcom/example/actionloom/actionloom/Action$Category;" (.ref r2)) (S3 : Sta Z h0 "com/example/actionloom/actionloom/Action$Category" "CONTEXT" "Lcom/example/actionloom/actionloom/Action$Category;" (.ref r3)) (E0 : Exa Z h0 r0 "com/example/actionloom/actionloom/Action$Category") (E1 : Exa Z h0 r1 "com/example/actionloom/actionloom/Action$Category") (E2 : Exa Z h0 r2 "com/example/actionloom/actionloom/Action$Category") (E3 : Exa Z h0 r3 "com/example/actionloom/actionloom/Action$Category") (n01 : r0 ≠ r1) (n02 : r0 ≠ r2) (n31 : r3 ≠ r1) (n32 : r3 ≠ r2) :
    Con l Z x code maxLocals ret room_1 #[(.int u0)] h0 (fun v h L => v = some (.int 1) ∧ Fr n0 L) := by
  refine own_body pn_0 ?_
  intro p e s m below meth c s₁ hx hby hml hown hnm hret hZ e0 X0 G go rt
  have N0 := Fr.nil n0
  rw [ef_rm0 m u0]
  show G (s₁.setTop (mkF m 0 #[.val (.int u0), .unset, .unset, .unset] []))
  refine go _ _ (fun t' k' => XS.iloadN X0.here hx rfl (hb hby at_0) rfl  k') ?_
  show G (s₁.setTop (mkF m 1 #[.val (.int u0), .unset, .unset, .unset] [(.int u0)]))
  refine go _ _ (fun t' k' => XS.iconst X0.here hx rfl (hb hby at_1) k') ?_
  show G (s₁.setTop (mkF m 2 #[.val (.int u0), .unset, .unset, .unset] [(.int (3 : Int32)), (.int u0)]))
  refine go _ _ (fun t' k' => XS.iand X0.here hx rfl (hb hby at_2) rfl k') ?_
  show G (s₁.setTop (mkF m 3 #[.val (.int u0), .unset, .unset, .unset] [(.int (u0 &&& (3 : Int32)))]))
  refine go _ _ (fun t' k' => XS.istoreN X0.here hx rfl (hb hby at_3) rfl (l' := #[.val (.int u0), .val (.int (u0 &&& (3 : Int32))), .unset, .unset]) rfl k') ?_
  show G (s₁.setTop (mkF m 4 #[.val (.int u0), .val (.int (u0 &&& (3 : Int32))), .unset, .unset] []))
  obtain ⟨kk, hkk⟩ : ∃ z, z = (u0 &&& (3 : Int32)) := ⟨_, rfl⟩
  rw [← hkk]
  show G (s₁.setTop (mkF m 4 #[.val (.int u0), .val (.int kk), .unset, .unset] []))
  refine go _ _ (fun t' k' => XS.iloadN X0.here hx rfl (hb hby at_4) rfl  k') ?_
  show G (s₁.setTop (mkF m 5 #[.val (.int u0), .val (.int kk), .unset, .unset] [(.int kk)]))
  by_cases c5 : kk = (0 : Int32)
  · refine go _ _ (fun t' k' => XS.ifNo X0.here hx rfl (hb hby at_5) rfl (Free.XT.i0_ne_f c5) k') ?_
    show G (s₁.setTop (mkF m 8 #[.val (.int u0), .val (.int kk), .unset, .unset] []))
    obtain ⟨T6, X6, e6, st6⟩ := getS X0 hx hZ hown (host := "") (hw _ (List.mem_of_getElem? (i := 0) rfl)) Via.refl e0 S0 (g := (mkF m 8 #[.val (.int u0), .val (.int kk), .unset, .unset] [])) rfl (hb hby at_8)
    refine go _ _ st6 ?_
    show G (T6.setTop (mkF m 11 #[.val (.int u0), .val (.int kk), .unset, .unset] [(.ref r0)]))
    refine go _ _ (fun t' k' => XS.astoreN X6.here hx rfl (hb hby at_11) rfl rfl (l' := #[.val (.int u0), .val (.int kk), .val (.ref r0), .unset]) rfl k') ?_
    show G (T6.setTop (mkF m 12 #[.val (.int u0), .val (.int kk), .val (.ref r0), .unset] []))
    refine go _ _ (fun t' k' => XS.iconst X6.here hx rfl (hb hby at_12) k') ?_
    show G (T6.setTop (mkF m 13 #[.val (.int u0), .val (.int kk), .val (.ref r0), .unset] [(.int (0 : Int32))]))
    refine go _ _ (fun t' k' => XS.istoreN X6.here hx rfl (hb hby at_13) rfl (l' := #[.val (.int u0), .val (.int kk), .val (.ref r0), .val (.int (0 : Int32))]) rfl k') ?_
    show G (T6.setTop (mkF m 14 #[.val (.int u0), .val (.int kk), .val (.ref r0), .val (.int (0 : Int32))] []))
    refine go _ _ (fun t' k' => XS.goto X6.here hx rfl (pc0 := 14) (pc' := 51) rfl (hb hby at_14) (by decide) (by decide) k') ?_
    show G (T6.setTop (mkF m 51 #[.val (.int u0), .val (.int kk), .val (.ref r0), .val (.int (0 : Int32))] []))
    refine go _ _ (fun t' k' => XS.aloadN X6.here hx rfl (hb hby at_51) rfl rfl  k') ?_
    show G (T6.setTop (mkF m 52 #[.val (.int u0), .val (.int kk), .val (.ref r0), .val (.int (0 : Int32))] [(.ref r0)]))
    refine own_virtual go X6 hx hZ e6 hown (hw _ (List.mem_of_getElem? (i := 3) rfl)) (hw _ (List.mem_of_getElem? (i := 4) rfl)) (notFace_of_selects (args := #[]) (mvT hZ (hw _ (List.mem_of_getElem? (i := 6) rfl)))) (hw _ (List.mem_of_getElem? (i := 6) rfl)) (hw _ (List.mem_of_getElem? (i := 5) rfl)) (hw _ (List.mem_of_getElem? (i := 1) rfl)) (hw _ (List.mem_of_getElem? (i := 7) rfl)) (by decide) (rm1 l Z a0 hw r0 r1 r2 h0 n0 Z0 S1 S2) 0 (by decide) (by decide) (by decide) (by decide) E0 (g := (mkF m 52 #[.val (.int u0), .val (.int kk), .val (.ref r0), .val (.int (0 : Int32))] [(.ref r0)])) rfl (by rw [hml]; rfl) [] [] rfl (lenOf pd_0 rfl) rfl (by show 2 * 0 + _ ≤ _; exact Nat.le_of_eq rfl) (hb hby at_52) ?_
    intro T7 L7 v7 X7 q7
    obtain ⟨rfl, N7, hh7⟩ := q7
    have N8 := Fr.app N0 N7
    rw [show (if r0 = r1 ∨ r0 = r2 then (1 : Int32) else 0) = 0 from (if_neg (fun z => z.elim n01 n02))]
    show G (T7.setTop (mkF m 55 #[.val (.int u0), .val (.int kk), .val (.ref r0), .val (.int (0 : Int32))] [(.int (0 : Int32))]))
    refine go _ _ (fun t' k' => XS.iloadN X7.here hx rfl (hb hby at_55) rfl  k') ?_
    show G (T7.setTop (mkF m 56 #[.val (.int u0), .val (.int kk), .val (.ref r0), .val (.int (0 : Int32))] [(.int (0 : Int32)), (.int (0 : Int32))]))
    refine go _ _ (fun t' k' => XS.icmpNo X7.here hx rfl (hb hby at_56) rfl (Free.XT.ii_ne_f (by decide)) k') ?_
    show G (T7.setTop (mkF m 59 #[.val (.int u0), .val (.int kk), .val (.ref r0), .val (.int (0 : Int32))] []))
    refine go _ _ (fun t' k' => XS.iconst X7.here hx rfl (hb hby at_59) k') ?_
    show G (T7.setTop (mkF m 60 #[.val (.int u0), .val (.int kk), .val (.ref r0), .val (.int (0 : Int32))] [(.int (1 : Int32))]))
    refine go _ _ (fun t' k' => XS.goto X7.here hx rfl (pc0 := 60) (pc' := 64) rfl (hb hby at_60) (by decide) (by decide) k') ?_
    show G (T7.setTop (mkF m 64 #[.val (.int u0), .val (.int kk), .val (.ref r0), .val (.int (0 : Int32))] [(.int (1 : Int32))]))
    refine own_retZ rt X7 hx (t := .boolean) hret (by simp) (hb hby at_64) (by decide) (by decide) ?_
    exact ⟨rfl, N8⟩
  · refine go _ _ (fun t' k' => XS.ifYes X0.here hx rfl (pc0 := 5) (pc' := 17) rfl (hb hby at_5) rfl (Free.XT.i0_ne_t c5) (by decide) (by decide) k') ?_
    show G (s₁.setTop (mkF m 17 #[.val (.int u0), .val (.int kk), .unset, .unset] []))
    refine go _ _ (fun t' k' => XS.iloadN X0.here hx rfl (hb hby at_17) rfl  k') ?_
    show G (s₁.setTop (mkF m 18 #[.val (.int u0), .val (.int kk), .unset, .unset] [(.int kk)]))
    refine go _ _ (fun t' k' => XS.iconst X0.here hx rfl (hb hby at_18) k') ?_
    show G (s₁.setTop (mkF m 19 #[.val (.int u0), .val (.int kk), .unset, .unset] [(.int (1 : Int32)), (.int kk)]))
    by_cases c9 : kk = (1 : Int32)
    · refine go _ _ (fun t' k' => XS.icmpNo X0.here hx rfl (hb hby at_19) rfl (Free.XT.ii_ne_f c9) k') ?_
      show G (s₁.setTop (mkF m 22 #[.val (.int u0), .val (.int kk), .unset, .unset] []))
      obtain ⟨T10, X10, e10, st10⟩ := getS X0 hx hZ hown (host := "") (hw _ (List.mem_of_getElem? (i := 15) rfl)) Via.refl e0 S1 (g := (mkF m 22 #[.val (.int u0), .val (.int kk), .unset, .unset] [])) rfl (hb hby at_22)
      refine go _ _ st10 ?_
      show G (T10.setTop (mkF m 25 #[.val (.int u0), .val (.int kk), .unset, .unset] [(.ref r1)]))
      refine go _ _ (fun t' k' => XS.astoreN X10.here hx rfl (hb hby at_25) rfl rfl (l' := #[.val (.int u0), .val (.int kk), .val (.ref r1), .unset]) rfl k') ?_
      show G (T10.setTop (mkF m 26 #[.val (.int u0), .val (.int kk), .val (.ref r1), .unset] []))
      refine go _ _ (fun t' k' => XS.iconst X10.here hx rfl (hb hby at_26) k') ?_
      show G (T10.setTop (mkF m 27 #[.val (.int u0), .val (.int kk), .val (.ref r1), .unset] [(.int (1 : Int32))]))
      refine go _ _ (fun t' k' => XS.istoreN X10.here hx rfl (hb hby at_27) rfl (l' := #[.val (.int u0), .val (.int kk), .val (.ref r1), .val (.int (1 : Int32))]) rfl k') ?_
      show G (T10.setTop (mkF m 28 #[.val (.int u0), .val (.int kk), .val (.ref r1), .val (.int (1 : Int32))] []))
      refine go _ _ (fun t' k' => XS.goto X10.here hx rfl (pc0 := 28) (pc' := 51) rfl (hb hby at_28) (by decide) (by decide) k') ?_
      show G (T10.setTop (mkF m 51 #[.val (.int u0), .val (.int kk), .val (.ref r1), .val (.int (1 : Int32))] []))
      refine go _ _ (fun t' k' => XS.aloadN X10.here hx rfl (hb hby at_51) rfl rfl  k') ?_
      show G (T10.setTop (mkF m 52 #[.val (.int u0), .val (.int kk), .val (.ref r1), .val (.int (1 : Int32))] [(.ref r1)]))
      refine own_virtual go X10 hx hZ e10 hown (hw _ (List.mem_of_getElem? (i := 3) rfl)) (hw _ (List.mem_of_getElem? (i := 4) rfl)) (notFace_of_selects (args := #[]) (mvT hZ (hw _ (List.mem_of_getElem? (i := 6) rfl)))) (hw _ (List.mem_of_getElem? (i := 6) rfl)) (hw _ (List.mem_of_getElem? (i := 5) rfl)) (hw _ (List.mem_of_getElem? (i := 1) rfl)) (hw _ (List.mem_of_getElem? (i := 7) rfl)) (by decide) (rm1 l Z a0 hw r1 r1 r2 h0 n0 Z0 S1 S2) 0 (by decide) (by decide) (by decide) (by decide) E1 (g := (mkF m 52 #[.val (.int u0), .val (.int kk), .val (.ref r1), .val (.int (1 : Int32))] [(.ref r1)])) rfl (by rw [hml]; rfl) [] [] rfl (lenOf pd_0 rfl) rfl (by show 2 * 0 + _ ≤ _; exact Nat.le_of_eq rfl) (hb hby at_52) ?_
      intro T11 L11 v11 X11 q11
      obtain ⟨rfl, N11, hh11⟩ := q11
      have N12 := Fr.app N0 N11
      rw [show (if r1 = r1 ∨ r1 = r2 then (1 : Int32) else 0) = 1 from (if_pos (Or.inl rfl))]
      show G (T11.setTop (mkF m 55 #[.val (.int u0), .val (.int kk), .val (.ref r1), .val (.int (1 : Int32))] [(.int (1 : Int32))]))
      refine go _ _ (fun t' k' => XS.iloadN X11.here hx rfl (hb hby at_55) rfl  k') ?_
      show G (T11.setTop (mkF m 56 #[.val (.int u0), .val (.int kk), .val (.ref r1), .val (.int (1 : Int32))] [(.int (1 : Int32)), (.int (1 : Int32))]))
      refine go _ _ (fun t' k' => XS.icmpNo X11.here hx rfl (hb hby at_56) rfl (Free.XT.ii_ne_f (by decide)) k') ?_
      show G (T11.setTop (mkF m 59 #[.val (.int u0), .val (.int kk), .val (.ref r1), .val (.int (1 : Int32))] []))
      refine go _ _ (fun t' k' => XS.iconst X11.here hx rfl (hb hby at_59) k') ?_
      show G (T11.setTop (mkF m 60 #[.val (.int u0), .val (.int kk), .val (.ref r1), .val (.int (1 : Int32))] [(.int (1 : Int32))]))
      refine go _ _ (fun t' k' => XS.goto X11.here hx rfl (pc0 := 60) (pc' := 64) rfl (hb hby at_60) (by decide) (by decide) k') ?_
      show G (T11.setTop (mkF m 64 #[.val (.int u0), .val (.int kk), .val (.ref r1), .val (.int (1 : Int32))] [(.int (1 : Int32))]))
      refine own_retZ rt X11 hx (t := .boolean) hret (by simp) (hb hby at_64) (by decide) (by decide) ?_
      exact ⟨rfl, N12⟩
    · refine go _ _ (fun t' k' => XS.icmpYes X0.here hx rfl (pc0 := 19) (pc' := 31) rfl (hb hby at_19) rfl (Free.XT.ii_ne_t c9) (by decide) (by decide) k') ?_
      show G (s₁.setTop (mkF m 31 #[.val (.int u0), .val (.int kk), .unset, .unset] []))
      refine go _ _ (fun t' k' => XS.iloadN X0.here hx rfl (hb hby at_31) rfl  k') ?_
      show G (s₁.setTop (mkF m 32 #[.val (.int u0), .val (.int kk), .unset, .unset] [(.int kk)]))
      refine go _ _ (fun t' k' => XS.iconst X0.here hx rfl (hb hby at_32) k') ?_
      show G (s₁.setTop (mkF m 33 #[.val (.int u0), .val (.int kk), .unset, .unset] [(.int (2 : Int32)), (.int kk)]))
      by_cases c13 : kk = (2 : Int32)
      · refine go _ _ (fun t' k' => XS.icmpNo X0.here hx rfl (hb hby at_33) rfl (Free.XT.ii_ne_f c13) k') ?_
        show G (s₁.setTop (mkF m 36 #[.val (.int u0), .val (.int kk), .unset, .unset] []))
        obtain ⟨T14, X14, e14, st14⟩ := getS X0 hx hZ hown (host := "") (hw _ (List.mem_of_getElem? (i := 14) rfl)) Via.refl e0 S2 (g := (mkF m 36 #[.val (.int u0), .val (.int kk), .unset, .unset] [])) rfl (hb hby at_36)
        refine go _ _ st14 ?_
        show G (T14.setTop (mkF m 39 #[.val (.int u0), .val (.int kk), .unset, .unset] [(.ref r2)]))
        refine go _ _ (fun t' k' => XS.astoreN X14.here hx rfl (hb hby at_39) rfl rfl (l' := #[.val (.int u0), .val (.int kk), .val (.ref r2), .unset]) rfl k') ?_
        show G (T14.setTop (mkF m 40 #[.val (.int u0), .val (.int kk), .val (.ref r2), .unset] []))
        refine go _ _ (fun t' k' => XS.iconst X14.here hx rfl (hb hby at_40) k') ?_
        show G (T14.setTop (mkF m 41 #[.val (.int u0), .val (.int kk), .val (.ref r2), .unset] [(.int (1 : Int32))]))
        refine go _ _ (fun t' k' => XS.istoreN X14.here hx rfl (hb hby at_41) rfl (l' := #[.val (.int u0), .val (.int kk), .val (.ref r2), .val (.int (1 : Int32))]) rfl k') ?_
        show G (T14.setTop (mkF m 42 #[.val (.int u0), .val (.int kk), .val (.ref r2), .val (.int (1 : Int32))] []))
        refine go _ _ (fun t' k' => XS.goto X14.here hx rfl (pc0 := 42) (pc' := 51) rfl (hb hby at_42) (by decide) (by decide) k') ?_
        show G (T14.setTop (mkF m 51 #[.val (.int u0), .val (.int kk), .val (.ref r2), .val (.int (1 : Int32))] []))
        refine go _ _ (fun t' k' => XS.aloadN X14.here hx rfl (hb hby at_51) rfl rfl  k') ?_
        show G (T14.setTop (mkF m 52 #[.val (.int u0), .val (.int kk), .val (.ref r2), .val (.int (1 : Int32))] [(.ref r2)]))
        refine own_virtual go X14 hx hZ e14 hown (hw _ (List.mem_of_getElem? (i := 3) rfl)) (hw _ (List.mem_of_getElem? (i := 4) rfl)) (notFace_of_selects (args := #[]) (mvT hZ (hw _ (List.mem_of_getElem? (i := 6) rfl)))) (hw _ (List.mem_of_getElem? (i := 6) rfl)) (hw _ (List.mem_of_getElem? (i := 5) rfl)) (hw _ (List.mem_of_getElem? (i := 1) rfl)) (hw _ (List.mem_of_getElem? (i := 7) rfl)) (by decide) (rm1 l Z a0 hw r2 r1 r2 h0 n0 Z0 S1 S2) 0 (by decide) (by decide) (by decide) (by decide) E2 (g := (mkF m 52 #[.val (.int u0), .val (.int kk), .val (.ref r2), .val (.int (1 : Int32))] [(.ref r2)])) rfl (by rw [hml]; rfl) [] [] rfl (lenOf pd_0 rfl) rfl (by show 2 * 0 + _ ≤ _; exact Nat.le_of_eq rfl) (hb hby at_52) ?_
        intro T15 L15 v15 X15 q15
        obtain ⟨rfl, N15, hh15⟩ := q15
        have N16 := Fr.app N0 N15
        rw [show (if r2 = r1 ∨ r2 = r2 then (1 : Int32) else 0) = 1 from (if_pos (Or.inr rfl))]
        show G (T15.setTop (mkF m 55 #[.val (.int u0), .val (.int kk), .val (.ref r2), .val (.int (1 : Int32))] [(.int (1 : Int32))]))
        refine go _ _ (fun t' k' => XS.iloadN X15.here hx rfl (hb hby at_55) rfl  k') ?_
        show G (T15.setTop (mkF m 56 #[.val (.int u0), .val (.int kk), .val (.ref r2), .val (.int (1 : Int32))] [(.int (1 : Int32)), (.int (1 : Int32))]))
        refine go _ _ (fun t' k' => XS.icmpNo X15.here hx rfl (hb hby at_56) rfl (Free.XT.ii_ne_f (by decide)) k') ?_
        show G (T15.setTop (mkF m 59 #[.val (.int u0), .val (.int kk), .val (.ref r2), .val (.int (1 : Int32))] []))
        refine go _ _ (fun t' k' => XS.iconst X15.here hx rfl (hb hby at_59) k') ?_
        show G (T15.setTop (mkF m 60 #[.val (.int u0), .val (.int kk), .val (.ref r2), .val (.int (1 : Int32))] [(.int (1 : Int32))]))
        refine go _ _ (fun t' k' => XS.goto X15.here hx rfl (pc0 := 60) (pc' := 64) rfl (hb hby at_60) (by decide) (by decide) k') ?_
        show G (T15.setTop (mkF m 64 #[.val (.int u0), .val (.int kk), .val (.ref r2), .val (.int (1 : Int32))] [(.int (1 : Int32))]))
        refine own_retZ rt X15 hx (t := .boolean) hret (by simp) (hb hby at_64) (by decide) (by decide) ?_
        exact ⟨rfl, N16⟩
      · refine go _ _ (fun t' k' => XS.icmpYes X0.here hx rfl (pc0 := 33) (pc' := 45) rfl (hb hby at_33) rfl (Free.XT.ii_ne_t c13) (by decide) (by decide) k') ?_
        show G (s₁.setTop (mkF m 45 #[.val (.int u0), .val (.int kk), .unset, .unset] []))
        obtain ⟨T17, X17, e17, st17⟩ := getS X0 hx hZ hown (host := "") (hw _ (List.mem_of_getElem? (i := 12) rfl)) Via.refl e0 S3 (g := (mkF m 45 #[.val (.int u0), .val (.int kk), .unset, .unset] [])) rfl (hb hby at_45)
        refine go _ _ st17 ?_
        show G (T17.setTop (mkF m 48 #[.val (.int u0), .val (.int kk), .unset, .unset] [(.ref r3)]))
        refine go _ _ (fun t' k' => XS.astoreN X17.here hx rfl (hb hby at_48) rfl rfl (l' := #[.val (.int u0), .val (.int kk), .val (.ref r3), .unset]) rfl k') ?_
        show G (T17.setTop (mkF m 49 #[.val (.int u0), .val (.int kk), .val (.ref r3), .unset] []))
        refine go _ _ (fun t' k' => XS.iconst X17.here hx rfl (hb hby at_49) k') ?_
        show G (T17.setTop (mkF m 50 #[.val (.int u0), .val (.int kk), .val (.ref r3), .unset] [(.int (0 : Int32))]))
        refine go _ _ (fun t' k' => XS.istoreN X17.here hx rfl (hb hby at_50) rfl (l' := #[.val (.int u0), .val (.int kk), .val (.ref r3), .val (.int (0 : Int32))]) rfl k') ?_
        show G (T17.setTop (mkF m 51 #[.val (.int u0), .val (.int kk), .val (.ref r3), .val (.int (0 : Int32))] []))
        refine go _ _ (fun t' k' => XS.aloadN X17.here hx rfl (hb hby at_51) rfl rfl  k') ?_
        show G (T17.setTop (mkF m 52 #[.val (.int u0), .val (.int kk), .val (.ref r3), .val (.int (0 : Int32))] [(.ref r3)]))
        refine own_virtual go X17 hx hZ e17 hown (hw _ (List.mem_of_getElem? (i := 3) rfl)) (hw _ (List.mem_of_getElem? (i := 4) rfl)) (notFace_of_selects (args := #[]) (mvT hZ (hw _ (List.mem_of_getElem? (i := 6) rfl)))) (hw _ (List.mem_of_getElem? (i := 6) rfl)) (hw _ (List.mem_of_getElem? (i := 5) rfl)) (hw _ (List.mem_of_getElem? (i := 1) rfl)) (hw _ (List.mem_of_getElem? (i := 7) rfl)) (by decide) (rm1 l Z a0 hw r3 r1 r2 h0 n0 Z0 S1 S2) 0 (by decide) (by decide) (by decide) (by decide) E3 (g := (mkF m 52 #[.val (.int u0), .val (.int kk), .val (.ref r3), .val (.int (0 : Int32))] [(.ref r3)])) rfl (by rw [hml]; rfl) [] [] rfl (lenOf pd_0 rfl) rfl (by show 2 * 0 + _ ≤ _; exact Nat.le_of_eq rfl) (hb hby at_52) ?_
        intro T18 L18 v18 X18 q18
        obtain ⟨rfl, N18, hh18⟩ := q18
        have N19 := Fr.app N0 N18
        rw [show (if r3 = r1 ∨ r3 = r2 then (1 : Int32) else 0) = 0 from (if_neg (fun z => z.elim n31 n32))]
        show G (T18.setTop (mkF m 55 #[.val (.int u0), .val (.int kk), .val (.ref r3), .val (.int (0 : Int32))] [(.int (0 : Int32))]))
        refine go _ _ (fun t' k' => XS.iloadN X18.here hx rfl (hb hby at_55) rfl  k') ?_
        show G (T18.setTop (mkF m 56 #[.val (.int u0), .val (.int kk), .val (.ref r3), .val (.int (0 : Int32))] [(.int (0 : Int32)), (.int (0 : Int32))]))
        refine go _ _ (fun t' k' => XS.icmpNo X18.here hx rfl (hb hby at_56) rfl (Free.XT.ii_ne_f (by decide)) k') ?_
        show G (T18.setTop (mkF m 59 #[.val (.int u0), .val (.int kk), .val (.ref r3), .val (.int (0 : Int32))] []))
        refine go _ _ (fun t' k' => XS.iconst X18.here hx rfl (hb hby at_59) k') ?_
        show G (T18.setTop (mkF m 60 #[.val (.int u0), .val (.int kk), .val (.ref r3), .val (.int (0 : Int32))] [(.int (1 : Int32))]))
        refine go _ _ (fun t' k' => XS.goto X18.here hx rfl (pc0 := 60) (pc' := 64) rfl (hb hby at_60) (by decide) (by decide) k') ?_
        show G (T18.setTop (mkF m 64 #[.val (.int u0), .val (.int kk), .val (.ref r3), .val (.int (0 : Int32))] [(.int (1 : Int32))]))
        refine own_retZ rt X18 hx (t := .boolean) hret (by simp) (hb hby at_64) (by decide) (by decide) ?_
        exact ⟨rfl, N19⟩
set_option maxRecDepth 65536 in
set_option maxHeartbeats 40000000 in
theorem comes_1 {Post : Tables → Env → Array Value → State → Outcome → State → Prop} (hpost : ∀ tb e args s v u, (limb_1_1.after args s (.returned v) u = true ∧ limb_1_2.after args s (.returned v) u = true ∧ True) → FrameEnd s (.returned v) u (Jvm.fieldLocs frame_1_writes args s ++ Jvm.arrayLocs frame_1_arrays args s ++ Jvm.staticLocs frame_1_statics s) 0 0 → Post tb e args s (.returned v) u) :
    ArmFor flags0 classFile x code maxLocals ret World_1 tables_1 room_1 Calls_1 rest_1 Pre_1 Post := by
  intro l hfl _ _ p e ha hc hk s m args below hf hA hF happ hP
  obtain ⟨hcalls, hrest, hpre⟩ := hP
  obtain ⟨-, -, -, hnamed, -, -, -, hat⟩ := (Spec.applies_iff hf).mp happ
  obtain ⟨hg, hn⟩ := and_e (Cond.before_iff.mp (show (Jvm.Cond.and given_1 narrow_1).before args s = true from hpre))
  obtain ⟨k0, hg0⟩ := and_e hg
  have ka0 := hg0
  obtain ⟨w0, rfl⟩ : ∃ w0 : Value, args = #[w0] := by
    have hs : args.size = 1 := by simpa [Cond.value, given_1] using k0
    obtain ⟨L⟩ := args
    match L, hs with
    | [w0], _ => exact ⟨w0, rfl⟩
  have hw := fun d (hd : d ∈ tables_1) => atoms_spec (ws := Jvm.Cond.code x code maxLocals ret :: tables_1) hat d (List.mem_cons_of_mem _ hd)
  have hfit : Fit s := fun {y c} hc i hi => by
    obtain ⟨ha, rfl⟩ := Array.getElem?_eq_some_iff.mp hc
    have q := List.all_eq_true.mp ((Array.all_eq_true_iff_forall_mem.mp hF) _ (Array.getElem_mem ha)) i (List.mem_range.mpr hi)
    simpa [Array.getElem?_eq_getElem hi] using q
  obtain ⟨i0, ie0⟩ := is_v ka0
  obtain rfl : w0 = (.int i0) := Option.some.inj ie0
  obtain ⟨na0, nb0⟩ := and_e hn
  obtain ⟨na1, nb1⟩ := and_e nb0
  obtain ⟨na2, nb2⟩ := and_e nb1
  obtain ⟨na3, nb3⟩ := and_e nb2
  obtain ⟨na4, nb4⟩ := and_e nb3
  obtain ⟨na5, nb5⟩ := and_e nb4
  obtain ⟨na6, nb6⟩ := and_e nb5
  have na7 := nb6
  obtain ⟨r0, S0, E0, ev0⟩ := own_sta na0 ((hw _ (List.mem_of_getElem? (i := 1) rfl))) ((hw _ (List.mem_of_getElem? (i := 2) rfl)))
  have O0 := own_fieldeq ev0 na2
  obtain ⟨r1, S1, E1, ev1⟩ := own_sta na1 ((hw _ (List.mem_of_getElem? (i := 1) rfl))) ((hw _ (List.mem_of_getElem? (i := 9) rfl)))
  have O1 := own_fieldeq ev1 na3
  obtain ⟨r2, S2, E2, ev2⟩ := own_sta na4 ((hw _ (List.mem_of_getElem? (i := 1) rfl))) ((hw _ (List.mem_of_getElem? (i := 11) rfl)))
  have O2 := own_fieldeq ev2 na5
  obtain ⟨r3, S3, E3, ev3⟩ := own_sta na6 ((hw _ (List.mem_of_getElem? (i := 1) rfl))) ((hw _ (List.mem_of_getElem? (i := 13) rfl)))
  have O3 := own_fieldeq ev3 na7
  obtain ⟨n, o, h1, h2, h3, _, L, rfl, ⟨rfl, N⟩, hq⟩ := rm0 l s _ hw i0 s.heap s.heap.size (Nat.le_refl _) r0 r1 r2 r3 S0 S1 S2 S3 E0 E1 E2 E3 (O0.ne O1 (by decide)) (O0.ne O2 (by decide)) (O3.ne O1 (by decide)) (O3.ne O2 (by decide)) tables_1 p e ha hc hk s m _ below hf ((Spec.applies_iff_loose hf).mp happ).1 ⟨rfl, State.Warmed39.refl s, rfl⟩ trivial
  refine ⟨n, _, h1, h2, h3, hpost _ _ _ _ _ _ ⟨Cond.after_iff.mpr rfl, Cond.after_iff.mpr (eq_i res_at (Term.int_eval (1)) rfl), trivial⟩ ⟨hq.1, hq.2.1, (hq.2.2.sift fun y hy => Or.inr (N y hy)).mono (by decide) (by decide)⟩⟩
theorem main_1_1 : Claimed_1_1 := comes_1 fun _ _ _ _ _ _ h hF => ⟨h.1, hF⟩
theorem main_1_2 : Claimed_1_2 := comes_1 fun _ _ _ _ _ _ h hF => ⟨h.2.1, hF⟩
end Jvm.Pilot.@@N@@
namespace Jvm.Pilot.@@N@@
open Jvm Jvm.ClassFile Sem Op Lib Jvm.Free Jvm.Stand Jvm.Pilot.@@N@@.Jvm.D
/-! MADE BY PROGRAM (witnessworld.py) out of the Statement's table words and the real class files: 12 classes; the members and pool entries that the words name. The judged class is class 1, her method 1. -/
namespace start1
open Jvm.ClassFile
def u (s : String) : CpInfo := .utf8 (stringToUtf16 s)
/-- a pool by its gaps: so many unusable entries, then the entry; so many at the end -/
def gap : Nat → List CpInfo → List CpInfo
  | 0, r => r
  | n + 1, r => .unusable :: gap n r
def poolList (es : List (Nat × CpInfo)) (last : Nat) : List CpInfo := es.foldr (fun e r => gap e.1 (e.2 :: r)) (gap last [])
def pool (es : List (Nat × CpInfo)) (last : Nat) : Array CpInfo := ⟨poolList es last⟩
def fileOf (pool : Array CpInfo) (this : Nat) (attrs : Array Attribute := #[]) (ms : Array MethodInfo := #[]) (fl : Nat := 33) (sup : Nat := 0) (ifs : Array Nat := #[]) (fds : Array FieldInfo := #[]) : ClassFile where
  minorVersion := 0
  majorVersion := 65
  constantPool := pool
  accessFlags := fl
  thisClass := this
  superClass := sup
  interfaces := ifs
  fields := fds
  methods := ms
  attributes := attrs
def plain (name : String) (sup : Option ClassId) : Class where
  name := name
  kind := .ordinary
  loader := none
  accessFlags := 33
  super := sup
  interfaces := #[]
  cf := none
  fields := #[]
  methods := #[]
  instanceTypes := #[]
  staticTypes := #[]
  resolved := #[]
  callSites := []
  init := .initialized
  statics := none
  mirror := none

def pool0 : Array CpInfo := pool [(5, u "<init>"), (0, u "()V"), (1, .class_ 10), (1, u "java/lang/Object")] 113

def k0m0 : Method := { name := "<init>", desc := "()V", sig := { parameters := [], returnType := none }, accessFlags := 1, code := none }
/-- java/lang/Object -/
def k0 : Class := { plain "java/lang/Object" none with
  accessFlags := 33
  interfaces := #[]
  cf := some (fileOf pool0 8 #[] #[{ accessFlags := 1, nameIndex := 5, descriptorIndex := 6, attributes := #[] }] 33 0 #[] #[])
  fields := #[]
  methods := #[k0m0]
  instanceTypes := #[]
  staticTypes := #[]
  resolved := Array.replicate 124 none
  statics := none }

def pool1 : Array CpInfo := pool [(2, .class_ 4), (1, u "java/lang/Object"), (0, u "<init>"), (0, u "()V"), (0, .fieldref 8 9), (0, .class_ 10), (0, .nameAndType 11 12), (0, u "com/example/actionloom/actionloom/Action$Category"), (0, u "EFFECTOR"), (0, u "Lcom/example/actionloom/actionloom/Action$Category;"), (0, .fieldref 8 14), (0, .nameAndType 15 12), (0, u "COMPLETER"), (0, .fieldref 8 17), (0, .nameAndType 18 12), (0, u "SUPPORTER"), (0, .fieldref 8 20), (0, .nameAndType 21 12), (0, u "CONTEXT"), (0, .methodref 8 23), (0, .nameAndType 24 25), (0, u "mayBeInserted"), (0, u "()Z"), (0, .class_ 27), (0, u "com/example/actionloom/actionloom/CategoryMayBeInsertedPinLaw"), (2, u "law"), (0, u "(I)Z")] 7

def k1m0 : Method := { name := "<init>", desc := "()V", sig := { parameters := [], returnType := none }, accessFlags := 2, code := none }
def k1c1 : Code := { maxStack := 2, maxLocals := 4, code := code, exceptionTable := #[], attributes := #[] }
def k1m1 : Method := { name := "law", desc := "(I)Z", sig := { parameters := [.int], returnType := some .boolean }, accessFlags := 9, code := some k1c1 }
/-- com/example/actionloom/actionloom/CategoryMayBeInsertedPinLaw -/
def k1 : Class := { plain "com/example/actionloom/actionloom/CategoryMayBeInsertedPinLaw" (some 0) with
  accessFlags := 49
  interfaces := #[]
  cf := some (fileOf pool1 26 #[] #[{ accessFlags := 2, nameIndex := 5, descriptorIndex := 6, attributes := #[] }, { accessFlags := 9, nameIndex := 30, descriptorIndex := 31, attributes := #[] }] 49 2 #[] #[])
  fields := #[]
  methods := #[k1m0, k1m1]
  instanceTypes := #[]
  staticTypes := #[]
  resolved := Array.replicate 39 none
  statics := none }

def pool2 : Array CpInfo := pool [(1, .class_ 2), (0, u "java/lang/constant/Constable"), (0, .class_ 4), (0, u "java/lang/Object")] 6

/-- java/lang/constant/Constable -/
def k2 : Class := { plain "java/lang/constant/Constable" (some 0) with
  accessFlags := 1537
  interfaces := #[]
  cf := some (fileOf pool2 1 #[] #[] 1537 3 #[] #[])
  fields := #[]
  methods := #[]
  instanceTypes := #[]
  staticTypes := #[]
  resolved := Array.replicate 11 none
  statics := none }

def pool3 : Array CpInfo := pool [(1, .class_ 2), (0, u "java/lang/Comparable"), (0, .class_ 4), (0, u "java/lang/Object")] 7

/-- java/lang/Comparable -/
def k3 : Class := { plain "java/lang/Comparable" (some 0) with
  accessFlags := 1537
  interfaces := #[]
  cf := some (fileOf pool3 1 #[] #[] 1537 3 #[] #[])
  fields := #[]
  methods := #[]
  instanceTypes := #[]
  staticTypes := #[]
  resolved := Array.replicate 12 none
  statics := none }

def pool4 : Array CpInfo := pool [(1, .class_ 2), (0, u "java/io/Serializable"), (0, .class_ 4), (0, u "java/lang/Object")] 2

/-- java/io/Serializable -/
def k4 : Class := { plain "java/io/Serializable" (some 0) with
  accessFlags := 1537
  interfaces := #[]
  cf := some (fileOf pool4 1 #[] #[] 1537 3 #[] #[])
  fields := #[]
  methods := #[]
  instanceTypes := #[]
  staticTypes := #[]
  resolved := Array.replicate 7 none
  statics := none }

def pool5 : Array CpInfo := pool [(2, .class_ 4), (1, u "java/lang/Enum"), (0, u "name"), (0, u "Ljava/lang/String;"), (2, u "ordinal"), (0, u "I"), (1, .class_ 14), (1, u "java/lang/Object"), (4, u "hash"), (86, .class_ 108), (1, u "java/lang/Enum$EnumDesc"), (2, .class_ 112), (0, u "java/lang/constant/Constable"), (0, .class_ 114), (0, u "java/lang/Comparable"), (0, .class_ 116), (0, u "java/io/Serializable")] 87

/-- java/lang/Enum -/
def k5 : Class := { plain "java/lang/Enum" (some 0) with
  accessFlags := 1057
  interfaces := #[2, 3, 4]
  cf := some (fileOf pool5 2 #[.nestMembers #[106]] #[] 1057 12 #[111, 113, 115] #[{ accessFlags := 18, nameIndex := 5, descriptorIndex := 6, attributes := #[] }, { accessFlags := 18, nameIndex := 9, descriptorIndex := 10, attributes := #[] }, { accessFlags := 2, nameIndex := 19, descriptorIndex := 10, attributes := #[] }])
  fields := #[{ name := "name", type := (.object "java/lang/String"), accessFlags := 18, slot := 0, constantValue := 0 }, { name := "ordinal", type := .int, accessFlags := 18, slot := 1, constantValue := 0 }, { name := "hash", type := .int, accessFlags := 2, slot := 2, constantValue := 0 }]
  methods := #[]
  instanceTypes := #[(.object "java/lang/String"), .int, .int]
  staticTypes := #[]
  resolved := Array.replicate 204 none
  statics := none }

def pool6 : Array CpInfo := pool [(1, .class_ 2), (0, u "com/example/actionloom/actionloom/Action$Category"), (2, u "EFFECTOR"), (0, u "Lcom/example/actionloom/actionloom/Action$Category;"), (0, .fieldref 1 8), (0, .nameAndType 9 6), (0, u "COMPLETER"), (0, .fieldref 1 11), (0, .nameAndType 12 6), (0, u "SUPPORTER"), (2, u "CONTEXT"), (2, u "$VALUES"), (0, u "[Lcom/example/actionloom/actionloom/Action$Category;"), (6, .class_ 28), (1, u "java/lang/Enum"), (23, u "()Z"), (1, u "mayBeInserted"), (5, .class_ 61), (0, u "com/example/actionloom/actionloom/Action")] 2

def k6c0 : Code := { maxStack := 2, maxLocals := 1, code := prog_5_method_5_code, exceptionTable := #[], attributes := #[] }
def k6m0 : Method := { name := "mayBeInserted", desc := "()Z", sig := { parameters := [], returnType := some .boolean }, accessFlags := 1, code := some k6c0 }
/-- com/example/actionloom/actionloom/Action$Category -/
def k6 : Class := { plain "com/example/actionloom/actionloom/Action$Category" (some 5) with
  accessFlags := 16433
  interfaces := #[]
  cf := some (fileOf pool6 1 #[.nestHost 60] #[{ accessFlags := 1, nameIndex := 54, descriptorIndex := 52, attributes := #[] }] 16433 26 #[] #[{ accessFlags := 16409, nameIndex := 5, descriptorIndex := 6, attributes := #[] }, { accessFlags := 16409, nameIndex := 9, descriptorIndex := 6, attributes := #[] }, { accessFlags := 16409, nameIndex := 12, descriptorIndex := 6, attributes := #[] }, { accessFlags := 16409, nameIndex := 15, descriptorIndex := 6, attributes := #[] }, { accessFlags := 4122, nameIndex := 18, descriptorIndex := 19, attributes := #[] }])
  fields := #[{ name := "EFFECTOR", type := (.object "com/example/actionloom/actionloom/Action$Category"), accessFlags := 16409, slot := 0, constantValue := 0 }, { name := "COMPLETER", type := (.object "com/example/actionloom/actionloom/Action$Category"), accessFlags := 16409, slot := 1, constantValue := 0 }, { name := "SUPPORTER", type := (.object "com/example/actionloom/actionloom/Action$Category"), accessFlags := 16409, slot := 2, constantValue := 0 }, { name := "CONTEXT", type := (.object "com/example/actionloom/actionloom/Action$Category"), accessFlags := 16409, slot := 3, constantValue := 0 }, { name := "$VALUES", type := (.array (.object "com/example/actionloom/actionloom/Action$Category")), accessFlags := 4122, slot := 4, constantValue := 0 }]
  methods := #[k6m0]
  instanceTypes := #[(.object "java/lang/String"), .int, .int]
  staticTypes := #[(.object "com/example/actionloom/actionloom/Action$Category"), (.object "com/example/actionloom/actionloom/Action$Category"), (.object "com/example/actionloom/actionloom/Action$Category"), (.object "com/example/actionloom/actionloom/Action$Category"), (.array (.object "com/example/actionloom/actionloom/Action$Category"))]
  resolved := Array.replicate 64 none
  statics := some 0 }

def pool7 : Array CpInfo := pool [(1, u "java/lang/Cloneable"), (0, .class_ 1), (0, u "java/lang/Object"), (0, .class_ 3)] 3

/-- java/lang/Cloneable -/
def k7 : Class := { plain "java/lang/Cloneable" (some 0) with
  accessFlags := 1537
  interfaces := #[]
  cf := some (fileOf pool7 2 #[] #[] 1537 4 #[] #[])
  fields := #[]
  methods := #[]
  instanceTypes := #[]
  staticTypes := #[]
  resolved := Array.replicate 8 none
  statics := none }

/-- the primitive byte -/
def k8 : Class := { plain "byte" none with kind := .primitive 'B', accessFlags := 0x411 }
/-- [B -/
def k9 : Class := { plain "[B" (some 0) with kind := .array 8 .byte, interfaces := #[7, 4], accessFlags := 1041 }

/-- the primitive int -/
def k10 : Class := { plain "int" none with kind := .primitive 'I', accessFlags := 0x411 }
/-- [I -/
def k11 : Class := { plain "[I" (some 0) with kind := .array 10 .int, interfaces := #[7, 4], accessFlags := 1041 }

def heap : Heap := #[{ cls := 6, slots := #[.ref 1, .ref 2, .ref 3, .ref 4, .null], vm := .statics 6 },
  { cls := 6, slots := #[.null, .int 0, .int 0], vm := .none },
  { cls := 6, slots := #[.null, .int 1, .int 0], vm := .none },
  { cls := 6, slots := #[.null, .int 2, .int 0], vm := .none },
  { cls := 6, slots := #[.null, .int 3, .int 0], vm := .none }]
def classes : Array Class := #[k0, k1, k2, k3, k4, k5, k6, k7, k8, k9, k10, k11]
def interned : List (Array UInt16 × Addr) := []
def slotsUsed : Nat := 17
def theMethod : MethodId := ⟨1, 1⟩
def args0 : Array Value := #[.int 5]
def aboutOver (below : List Frame) : State where
  vm := { classes := classes, interned := interned.toArray }
  heap := heap
  slotsUsed := slotsUsed
  threads := #[{ frames := .invoking theMethod args0 :: below }]
def below0 : List Frame := [.native { method := ⟨0, 0⟩, args := #[] }]
def about1 : State := aboutOver below0
def p0 : Program := .bare "" "" ""
def e0 : Env := launch0.env 0 0 0
theorem w_frames : about1.frames = Frame.invoking theMethod args0 :: below0 := rfl
set_option maxRecDepth 65536 in
theorem w_args : argsFit about1.vm theMethod args0 = true := by decide +kernel
set_option maxRecDepth 65536 in
theorem w_heap : heapFits about1 = true := by decide +kernel
set_option maxRecDepth 65536 in
theorem w_runnable : about1.curStatus? = some .runnable := by decide +kernel
set_option maxRecDepth 65536 in
theorem w_alone : about1.alone = true := by decide +kernel
set_option maxRecDepth 65536 in
theorem w_named : about1.methodNamed? x = some theMethod := by decide +kernel
set_option maxRecDepth 65536 in
theorem w_hears : about1.hears theMethod below0 = true := by decide +kernel
set_option maxRecDepth 65536 in
theorem w_ripe : about1.ripe theMethod args0 below0 = true := by decide +kernel
theorem w_running : about1.status = .running := rfl
set_option maxRecDepth 65536 in
theorem w_room : about1.hasRoom e0.platform room_1 = true :=
  launch0.hasRoom_least _ room_1 (by decide +kernel) (by decide +kernel) (by decide +kernel) (by decide +kernel) (by decide +kernel) (by decide +kernel)
theorem allAtoms_all (ts : List Jvm.Cond) (a : Array Jvm.Value) (st : Jvm.State) : (allAtoms ts).before a st = ts.all (fun c => c.before a st) := by
  induction ts with
  | nil => rfl
  | cons c t ih =>
    show (Jvm.Cond.and c (allAtoms t)).before a st = _
    rw [Jvm.Cond.before_and, ih, List.all_cons]
def words1 : List Jvm.Cond := Jvm.Cond.code x code maxLocals ret :: tables_1
/-- a 'code' word, met by the world's own term for the bytes: nothing is compared byte by byte -/
theorem code_word {y : MethodName} {bytes : ByteArray} {mx : Nat} {rt : Option FieldType} {a : Array Value} {s : State} {m : MethodId} {meth : Method} {c : Code} (h1 : s.methodNamed? y = some m) (h2 : s.vm.method? m = some meth) (h3 : meth.code = some c) (h4 : c.code = bytes)
    (h5 : (c.maxLocals == mx && c.exceptionTable.isEmpty && decide (c.maxStack ≤ mostOperands) && decide (meth.sig.returnType = rt) && !meth.locks && decide (parseMethodDescriptor y.desc = some meth.sig)) = true) : (Jvm.Cond.code y bytes mx rt).before a s = true := by
  simp only [Bool.and_eq_true, beq_iff_eq, Bool.not_eq_true', decide_eq_true_eq] at h5
  obtain ⟨⟨⟨⟨⟨g1, g2⟩, g3⟩, g4⟩, g5⟩, g6⟩ := h5
  simp [Cond.before, Cond.holds, Cond.value, h1, h2, h3, h4, g1, g2, g3, g4, g5, g6]
def isCode : Jvm.Cond → Bool
  | .code _ _ _ _ => true
  | _ => false
theorem all_split {L : List Jvm.Cond} {P : Jvm.Cond → Bool} (h1 : L.all (fun c => isCode c || P c) = true) (h2 : ∀ c ∈ L.filter isCode, P c = true) : L.all P = true := by
  refine List.all_eq_true.mpr fun c hc => ?_
  have h := List.all_eq_true.mp h1 c hc
  rcases Bool.eq_false_or_eq_true (isCode c) with hi | hi
  · exact h2 c (List.mem_filter.mpr ⟨hc, hi⟩)
  · simpa [hi] using h
set_option maxRecDepth 65536 in
theorem w_c0 : (Jvm.Cond.code x code maxLocals ret).before args0 about1 = true := code_word (m := ⟨1, 1⟩) (meth := k1m1) (c := k1c1) (by decide +kernel) rfl rfl rfl (by decide +kernel)
set_option maxRecDepth 65536 in
theorem w_c1 : (Jvm.Cond.code ({ cls := "com/example/actionloom/actionloom/Action$Category", name := "mayBeInserted", desc := "()Z" } : Jvm.MethodName) prog_5_method_5_code (1 : Nat) (Option.some Jvm.ClassFile.FieldType.boolean)).before args0 about1 = true := code_word (m := ⟨6, 0⟩) (meth := k6m0) (c := k6c0) (by decide +kernel) rfl rfl rfl (by decide +kernel)
def codes1 : List Jvm.Cond := [Jvm.Cond.code x code maxLocals ret, Jvm.Cond.code ({ cls := "com/example/actionloom/actionloom/Action$Category", name := "mayBeInserted", desc := "()Z" } : Jvm.MethodName) prog_5_method_5_code (1 : Nat) (Option.some Jvm.ClassFile.FieldType.boolean)]
set_option maxRecDepth 65536 in
theorem codes_eq : words1.filter isCode = codes1 := rfl
theorem w_codes : ∀ c ∈ words1.filter isCode, c.before args0 about1 = true := by
  rw [codes_eq]
  intro c hc
  simp only [codes1, List.mem_cons, List.not_mem_nil, or_false] at hc
  rcases hc with rfl | rfl
  · exact w_c0
  · exact w_c1
set_option maxRecDepth 65536 in
theorem w_t1 : words1.all (fun c => isCode c || c.before args0 about1) = true := by decide +kernel
theorem w_tables : (allAtoms (Jvm.Cond.code x code maxLocals ret :: tables_1)).before args0 about1 = true := by
  rw [allAtoms_all]
  show words1.all (fun c => c.before args0 about1) = true
  refine all_split ?_ w_codes
  rw [w_t1]
set_option maxRecDepth 65536 in
theorem w_case : (Jvm.Cond.and given_1 narrow_1).before args0 about1 = true := by decide +kernel
theorem w_applies : (headSpec (Jvm.Cond.code x code maxLocals ret :: tables_1) room_1).applies x e0.platform about1 = true :=
  (Spec.applies_iff w_frames).mpr ⟨w_running, w_runnable, w_alone, w_named, w_hears, w_ripe, w_room, w_tables⟩
theorem atStart : AtStart classFile x code maxLocals ret World_1 tables_1 room_1 Calls_1 rest_1 Pre_1 launch0 p0 e0 about1 theMethod args0 below0 :=
  ⟨lists_1, trivial, launch0.admits_env _ _ _, launch0.least_env, fairChoices_fair.cas, fairChoices_fair.clock, w_frames, w_args, w_heap, w_applies, trivial, trivial, w_case⟩
end start1
theorem witness_1 : WitnessClaimed_1 := ⟨start1.p0, start1.e0, start1.about1, start1.theMethod, start1.args0, start1.below0, start1.atStart⟩
end Jvm.Pilot.@@N@@
