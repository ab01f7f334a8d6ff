import JvmDerived
import JvmDerived.Pilot.@@N@@Statement
import JvmDerived.Pilot.@@N@@Code
set_option linter.unusedVariables false
set_option linter.unusedSimpArgs false
namespace Jvm.Pilot.@@N@@
open Jvm Jvm.ClassFile Sem Op Lib Jvm.Free Jvm.Stand Jvm.LawKit Jvm.RoadKit Bundle Jvm.Pilot.@@N@@.Jvm.D
section Own
variable {p : Program} {l : Launch} {e : Env} {R : Room} {s : State} {m : MethodId} {args : Array Value} {below : List Frame} {meth : Method} {c : Code} {T : State} {locs : List Loc} {cells slots : Nat} {Z : State} {a0 : Array Value} {h : Heap}
/-- the goal of a walk is a predicate that may be carried back over steps -/
def Go (p : Program) (e : Env) (below : List Frame) (G : State → Prop) : Prop := ∀ F F' : State, (∀ t, Steps p.tables e below F' t → Steps p.tables e below F t) → G F' → G F
/-- how a walk ends: it returns v -/
def Rt (p : Program) (l : Launch) (e : Env) (R : Room) (s : State) (m : MethodId) (args : Array Value) (below : List Frame) (meth : Method) (c : Code) (Q : Option Value → Heap → List Loc → Prop) (kc ks : Nat) (G : State → Prop) : Prop :=
  ∀ (T : State) (locs : List Loc) (cells slots : Nat) (v : Option Value) (F : State), Stand p l e R s m args below meth c T locs cells slots → cells ≤ kc → slots ≤ ks → (meth.sig.returnType = none → v = none) → Q v T.heap locs →
    (∀ fs, (∀ (f : JFrame) (acts : List Action), f.method = m → f.locked = none → f.entered = [] → (doReturn e (T.setTop f) acts v).1 = T.setFrames fs) → Steps p.tables e below F (T.setFrames fs)) → G F
def Gl (p : Program) (e : Env) (below : List Frame) (s : State) (Q : Option Value → Heap → List Loc → Prop) (kc ks : Nat) (F : State) : Prop :=
  ∃ s₂ o, Steps p.tables e below F s₂ ∧ s₂.status = .running ∧ Ended s₂ below o ∧ ∃ v L, o = .returned v ∧ Q v s₂.heap L ∧ FrameEnd s o s₂ L kc ks
theorem gl_go {Q : Option Value → Heap → List Loc → Prop} {kc ks : Nat} : Go p e below (Gl p e below s Q kc ks) := fun F F' h g => by
  obtain ⟨s₂, o, h1, h2⟩ := g
  exact ⟨s₂, o, h _ h1, h2⟩
theorem gl_rt {Q : Option Value → Heap → List Loc → Prop} {kc ks : Nat} (hlk : meth.locks = false) : Rt p l e R s m args below meth c Q kc ks (Gl p e below s Q kc ks) := fun T locs cells slots v F X hc hs hv hQ st => by
  obtain ⟨fs, hr, hrun, hended, hW, hsame⟩ := X.leave (v := v) hv hlk
  exact ⟨_, _, st fs hr, hrun, hended, v, locs, rfl, hQ, ⟨_, rfl⟩, hW, hsame.mono hc hs⟩
/-- a method's contract, at given arguments and a given heap -/
def Con (l : Launch) (Z : State) (y : MethodName) (bytes : ByteArray) (maxL : Nat) (ret : Option FieldType) (rm : Room) (as' : Array Value) (h : Heap) (Q : Option Value → Heap → List Loc → Prop) : Prop :=
  ∀ ws, MetFree l y (head1 (Jvm.Cond.code y bytes maxL ret :: ws) rm) (fun a U => a = as' ∧ Z.Warmed39 U.vm ∧ U.heap = h) (fun _ _ _ _ _ => True) (fun _ U o U' => ∃ v L, o = .returned v ∧ Q v U'.heap L ∧ FrameEnd U o U' L rm.cells rm.slots)
theorem own_body {y : MethodName} {bytes : ByteArray} {maxL : Nat} {ret : Option FieldType} {rm : Room} {as' : Array Value} {h0 : Heap} {Q : Option Value → Heap → List Loc → Prop} (hp : plainName y.cls = true)
    (k : ∀ (p : Program) (e : Env) (s : State) (m : MethodId) (below : List Frame) (meth : Method) (c : Code) (s₁ : State), p.tables.exec = Jvm.exec → c.code = bytes → c.maxLocals = maxL → s.vm.findClass y.cls = some m.cls → meth.name = y.name → meth.sig.returnType = ret → Z.Warmed39 s.vm → s₁.heap = h0 →
      Stand p l e rm s m as' below meth c s₁ [] 0 0 → ∀ G : State → Prop, Go p e below G → Rt p l e rm s m as' below meth c Q rm.cells rm.slots G → G (s₁.setTop (entryFrame m as' maxL))) : Con l Z y bytes maxL ret rm as' h0 Q := fun ws => by
  refine MetFree.of_bodySF (plainFor_of_name hp) hisR ?_
  intro p e s m args below meth c s₁ Bd hml0 hP hK
  obtain ⟨rfl, hZ, hh⟩ := hP
  exact k p e s m below meth c s₁ Bd.exec Bd.bytes hml0 (findClass_of_methodNamed Bd.named) (name_of_methodNamed Bd.named Bd.method).1 Bd.returns hZ (by rw [← hh, Bd.state]; rfl) (Stand.of_body Bd) (Gl p e below s Q rm.cells rm.slots) gl_go (gl_rt Bd.notSynchronized)
section Rets
variable {Q : Option Value → Heap → List Loc → Prop} {kc ks : Nat} {G : State → Prop}
theorem own_retI (rt : Rt p l e R s m args below meth c Q kc ks G) (X : Stand p l e R s m args below meth c T locs cells slots) (hx : p.tables.exec = Jvm.exec) {pc : Nat} {Ls : Array Slot} {rest : List Value} (hret : meth.sig.returnType = some .int) {z : Int32} (hd : decode c.code pc = .ok (.ireturn, 1)) (hc : cells ≤ kc) (hs : slots ≤ ks) (hQ : Q (some (.int z)) T.heap locs) : G (T.setTop (mkF m pc Ls (.int z :: rest))) :=
  rt T locs cells slots _ _ X hc hs (fun h => by rw [hret] at h; cases h) hQ fun fs hr => retOut X hx hret rfl (Or.inl ⟨rfl, Or.inl rfl, _, rfl⟩) hd hr
theorem own_retZ (rt : Rt p l e R s m args below meth c Q kc ks G) (X : Stand p l e R s m args below meth c T locs cells slots) (hx : p.tables.exec = Jvm.exec) {pc : Nat} {Ls : Array Slot} {rest : List Value} {t : FieldType} (hret : meth.sig.returnType = some t) (ht : t = .boolean ∨ t = .byte ∨ t = .char ∨ t = .short) {z : Int32} (hd : decode c.code pc = .ok (.ireturn, 1)) (hc : cells ≤ kc) (hs : slots ≤ ks) (hQ : Q (some (.int (nar t z))) T.heap locs) : G (T.setTop (mkF m pc Ls (.int z :: rest))) :=
  rt T locs cells slots _ _ X hc hs (fun h => by rw [hret] at h; cases h) hQ fun fs hr => retN X hx hret ht hd hr
theorem own_retJ (rt : Rt p l e R s m args below meth c Q kc ks G) (X : Stand p l e R s m args below meth c T locs cells slots) (hx : p.tables.exec = Jvm.exec) {pc : Nat} {Ls : Array Slot} {rest : List Value} (hret : meth.sig.returnType = some .long) {z : Int64} (hd : decode c.code pc = .ok (.lreturn, 1)) (hc : cells ≤ kc) (hs : slots ≤ ks) (hQ : Q (some (.long z)) T.heap locs) : G (T.setTop (mkF m pc Ls (.long z :: rest))) :=
  rt T locs cells slots _ _ X hc hs (fun h => by rw [hret] at h; cases h) hQ fun fs hr => retOut X hx hret rfl (Or.inr (Or.inl ⟨rfl, rfl, _, rfl⟩)) hd hr
theorem own_retA (rt : Rt p l e R s m args below meth c Q kc ks G) (X : Stand p l e R s m args below meth c T locs cells slots) (hx : p.tables.exec = Jvm.exec) {pc : Nat} {Ls : Array Slot} {rest : List Value} {t : FieldType} (hret : meth.sig.returnType = some t) (ht : t.isReference = true) {v : Value} (hv : v.isRef = true) (hd : decode c.code pc = .ok (.areturn, 1)) (hc : cells ≤ kc) (hs : slots ≤ ks) (hQ : Q (some v) T.heap locs) : G (T.setTop (mkF m pc Ls (v :: rest))) :=
  rt T locs cells slots _ _ X hc hs (fun h => by rw [hret] at h; cases h) hQ fun fs hr => retOut X hx hret (by cases t <;> cases v <;> first | rfl | (simp [FieldType.isReference, Value.isRef] at ht hv)) (Or.inr (Or.inr (Or.inr (Or.inr ⟨rfl, ht, hv⟩)))) hd hr
theorem own_retV (rt : Rt p l e R s m args below meth c Q kc ks G) (X : Stand p l e R s m args below meth c T locs cells slots) (hx : p.tables.exec = Jvm.exec) {pc : Nat} {Ls : Array Slot} {rest : List Value} (hret : meth.sig.returnType = none) (hd : decode c.code pc = .ok (.return_, 1)) (hc : cells ≤ kc) (hs : slots ≤ ks) (hQ : Q none T.heap locs) : G (T.setTop (mkF m pc Ls [])) :=
  rt T locs cells slots _ _ X hc hs (fun _ => rfl) hQ fun fs hr => X.returnOut hx hret hd hr
end Rets
section Calls
variable {G : State → Prop}
theorem own_static (go : Go p e below G) (X : Stand p l e R s m args below meth c T locs cells slots) (hx : p.tables.exec = Jvm.exec) (hZ : Z.Warmed39 s.vm) (eT : T.heap = h) {own : String} {index : Nat} {y : MethodName} {bytes : ByteArray} {maxL : Nat} {ret : Option FieldType} {rm : Room} {as' : Array Value} {Q : Option Value → Heap → List Loc → Prop} (hown : s.vm.findClass own = some m.cls) (w1 : (Cond.methodLink own index y).before a0 Z = true) (w2 : (Cond.static y).before a0 Z = true) (w3 : (Cond.initialized y.cls).before a0 Z = true) (w4 : (Cond.code y bytes maxL ret).before a0 Z = true)
    (hy : y.cls ≠ "java/lang/invoke/MethodHandle" ∧ y.cls ≠ "java/lang/invoke/VarHandle") (hM : Con l Z y bytes maxL ret rm as' h Q) (W : Nat) (hf : rm.frames + 1 ≤ R.frames) (hl : W + (maxL + 11) + rm.locals ≤ R.locals) (hc : cells + rm.cells ≤ R.cells) (hs : slots + rm.slots ≤ R.slots)
    {g : JFrame} (hg : g.method = m) (hsize : g.locals.size = c.maxLocals) (argsL rest : List Value) (has : argsL.toArray = as') (hlen : ∀ sig, parseMethodDescriptor y.desc = some sig → argsL.length = sig.parameters.length)
    (hstack : g.stack = argsL.reverse ++ rest) (hW : 2 * g.monitorRoom + (rest.map fun v => v.category).sum ≤ W) (hd : decode c.code g.pc = .ok (.invokestatic index, 3))
    (k : ∀ (T' : State) (L' : List Loc) (v : Option Value), Stand p l e R s m args below meth c T' (locs ++ L') (cells + rm.cells) (slots + rm.slots) → Q v T'.heap L' → G (T'.setTop { g with pc := g.pc + 3, stack := v.toList ++ rest })) : G (T.setTop g) := by
  obtain ⟨v, _, ⟨T1, L1, k1, n1⟩, -, X1, ⟨Lc, hQ, l1, y1, z1⟩, st⟩ := Jvm.LawKit.callS X hx hown (mvT hZ w1) (mvT hZ w2) (mvT hZ w3) (mvT hZ w4) hy (backOf (R := R) (W := W) (hM []) hZ w4 w3 hf hl) hg hsize hlen hstack hW hd (fun _ _ => ⟨has, eT, hc, hs⟩)
  dsimp only [Pt.U, Pt.locs, Pt.cells, Pt.slots] at X1 l1 y1 z1 st hQ
  subst l1 y1 z1
  exact go _ _ st (k T1 Lc v X1 hQ)
theorem own_init (go : Go p e below G) (X : Stand p l e R s m args below meth c T locs cells slots) (hx : p.tables.exec = Jvm.exec) (hZ : Z.Warmed39 s.vm) (eT : T.heap = h) {own : String} {index : Nat} {y : MethodName} {bytes : ByteArray} {maxL : Nat} {ret : Option FieldType} {rm : Room} {as' : Array Value} {Q : Option Value → Heap → List Loc → Prop} (hy1 : y.name = "<init>") (hown : s.vm.findClass own = some m.cls) (w1 : (Cond.methodLink own index y).before a0 Z = true) (w2 : (Cond.instanceMethod y).before a0 Z = true) (w3 : (Cond.initialized y.cls).before a0 Z = true) (w4 : (Cond.code y bytes maxL none).before a0 Z = true)
    (hy : y.cls ≠ "java/lang/invoke/MethodHandle" ∧ y.cls ≠ "java/lang/invoke/VarHandle") (hM : Con l Z y bytes maxL none rm as' h Q) (W : Nat) (hf : rm.frames + 1 ≤ R.frames) (hl : W + (maxL + 11) + rm.locals ≤ R.locals) (hc : cells + rm.cells ≤ R.cells) (hs : slots + rm.slots ≤ R.slots)
    {g : JFrame} (hg : g.method = m) (hsize : g.locals.size = c.maxLocals) (a : Addr) (argsL rest : List Value) (has : (.ref a :: argsL).toArray = as') (hlen : ∀ sig, parseMethodDescriptor y.desc = some sig → argsL.length = sig.parameters.length)
    (hstack : g.stack = argsL.reverse ++ .ref a :: rest) (hW : 2 * g.monitorRoom + (rest.map fun v => v.category).sum ≤ W) (hd : decode c.code g.pc = .ok (.invokespecial index, 3))
    (k : ∀ (T' : State) (L' : List Loc) (v : Option Value), Stand p l e R s m args below meth c T' (locs ++ L') (cells + rm.cells) (slots + rm.slots) → Q v T'.heap L' → G (T'.setTop { g with pc := g.pc + 3, stack := v.toList ++ rest })) : G (T.setTop g) := by
  obtain ⟨v, _, ⟨T1, L1, k1, n1⟩, -, X1, ⟨Lc, hQ, l1, y1, z1⟩, st⟩ := X.specialBack hx hy1 hown (mvT hZ w1) (mvT hZ w2) (mvT hZ w4) hy (backOf (R := R) (W := W) (hM []) hZ w4 w3 hf hl) hg hsize (Steps.refl _) (a := a) hlen hstack hW hd (fun _ _ => ⟨has, eT, hc, hs⟩)
  dsimp only [Pt.U, Pt.locs, Pt.cells, Pt.slots] at X1 l1 y1 z1 st hQ
  subst l1 y1 z1
  exact go _ _ (fun t k => st.trans k) (k T1 Lc v X1 hQ)
theorem own_virtual (go : Go p e below G) (X : Stand p l e R s m args below meth c T locs cells slots) (hx : p.tables.exec = Jvm.exec) (hZ : Z.Warmed39 s.vm) (eT : T.heap = h) {own : String} {index : Nat} {y : MethodName} {bytes : ByteArray} {maxL : Nat} {ret : Option FieldType} {rm : Room} {as' : Array Value} {Q : Option Value → Heap → List Loc → Prop} {C : String} {z : MethodName} (hown : s.vm.findClass own = some m.cls) (w1 : (Cond.methodLink own index y).before a0 Z = true) (w2 : (Cond.declares y).before a0 Z = true) (hnf : NotFace s y) (w3 : (Cond.selects C y z).before a0 Z = true) (w4 : (Cond.instanceMethod z).before a0 Z = true) (w5 : (Cond.initialized z.cls).before a0 Z = true) (w6 : (Cond.code z bytes maxL ret).before a0 Z = true)
    (hy : y.cls ≠ "java/lang/invoke/MethodHandle" ∧ y.cls ≠ "java/lang/invoke/VarHandle") (hM : Con l Z z bytes maxL ret rm as' h Q) (W : Nat) (hf : rm.frames + 1 ≤ R.frames) (hl : W + (maxL + 11) + rm.locals ≤ R.locals) (hc : cells + rm.cells ≤ R.cells) (hs : slots + rm.slots ≤ R.slots)
    {a : Addr} (E : Exa Z h a C) {g : JFrame} (hg : g.method = m) (hsize : g.locals.size = c.maxLocals) (argsL rest : List Value) (has : (.ref a :: argsL).toArray = as') (hlen : ∀ sig, parseMethodDescriptor y.desc = some sig → argsL.length = sig.parameters.length)
    (hstack : g.stack = argsL.reverse ++ .ref a :: rest) (hW : 2 * g.monitorRoom + (rest.map fun v => v.category).sum ≤ W) (hd : decode c.code g.pc = .ok (.invokevirtual index, 3))
    (k : ∀ (T' : State) (L' : List Loc) (v : Option Value), Stand p l e R s m args below meth c T' (locs ++ L') (cells + rm.cells) (slots + rm.slots) → Q v T'.heap L' → G (T'.setTop { g with pc := g.pc + 3, stack := v.toList ++ rest })) : G (T.setTop g) := by
  obtain ⟨cq, kq, qa, qb, qc⟩ := isOf hZ eT E
  obtain ⟨v, _, ⟨T1, L1, k1, n1⟩, -, X1, ⟨Lc, hQ, l1, y1, z1⟩, st⟩ := X.virtualBack hx hown (mvT hZ w1) (mvT hZ w2) hnf (mvT hZ w3) (mvT hZ w4) hy (backOf (R := R) (W := W) (hM []) hZ w6 w5 hf hl) qa qc hg hsize (Steps.refl _) hlen hstack hW hd (fun _ _ => ⟨has, eT, hc, hs⟩)
  dsimp only [Pt.U, Pt.locs, Pt.cells, Pt.slots] at X1 l1 y1 z1 st hQ
  subst l1 y1 z1
  exact go _ _ (fun t k => st.trans k) (k T1 Lc v X1 hQ)
theorem own_private (go : Go p e below G) (X : Stand p l e R s m args below meth c T locs cells slots) (hx : p.tables.exec = Jvm.exec) (hZ : Z.Warmed39 s.vm) (eT : T.heap = h) {own : String} {index : Nat} {y : MethodName} {bytes : ByteArray} {maxL : Nat} {ret : Option FieldType} {rm : Room} {as' : Array Value} {Q : Option Value → Heap → List Loc → Prop} (hown : s.vm.findClass own = some m.cls) (w1 : (Cond.methodLink own index y).before a0 Z = true) (w2 : (Cond.instanceMethod y).before a0 Z = true) (w3 : (Cond.selects y.cls y y).before a0 Z = true) (w4 : (Cond.privateMethod y).before a0 Z = true) (w5 : (Cond.initialized y.cls).before a0 Z = true) (w6 : (Cond.code y bytes maxL ret).before a0 Z = true)
    (hy : y.cls ≠ "java/lang/invoke/MethodHandle" ∧ y.cls ≠ "java/lang/invoke/VarHandle") (hM : Con l Z y bytes maxL ret rm as' h Q) (W : Nat) (hf : rm.frames + 1 ≤ R.frames) (hl : W + (maxL + 11) + rm.locals ≤ R.locals) (hc : cells + rm.cells ≤ R.cells) (hs : slots + rm.slots ≤ R.slots)
    {a : Addr} {C : String} (E : Exa Z h a C) {g : JFrame} (hg : g.method = m) (hsize : g.locals.size = c.maxLocals) (argsL rest : List Value) (has : (.ref a :: argsL).toArray = as') (hlen : ∀ sig, parseMethodDescriptor y.desc = some sig → argsL.length = sig.parameters.length)
    (hstack : g.stack = argsL.reverse ++ .ref a :: rest) (hW : 2 * g.monitorRoom + (rest.map fun v => v.category).sum ≤ W) (hd : decode c.code g.pc = .ok (.invokevirtual index, 3))
    (k : ∀ (T' : State) (L' : List Loc) (v : Option Value), Stand p l e R s m args below meth c T' (locs ++ L') (cells + rm.cells) (slots + rm.slots) → Q v T'.heap L' → G (T'.setTop { g with pc := g.pc + 3, stack := v.toList ++ rest })) : G (T.setTop g) := by
  obtain ⟨cq, q1, q2⟩ := E.cell
  obtain ⟨v, _, ⟨T1, L1, k1, n1⟩, -, X1, ⟨Lc, hQ, l1, y1, z1⟩, st⟩ := X.privateBack hx hown (mvT hZ w1) (mvT hZ w2) (mvT hZ w3) (Cond.privateMethod_at (mvP hZ w4 (args := #[]))) (mvT hZ w6) hy (backOf (R := R) (W := W) (hM []) hZ w6 w5 hf hl) hg hsize (Steps.refl _) (a := a) (by rw [eT]; exact q1) q2 hlen hstack hW hd (fun _ _ => ⟨has, eT, hc, hs⟩)
  dsimp only [Pt.U, Pt.locs, Pt.cells, Pt.slots] at X1 l1 y1 z1 st hQ
  subst l1 y1 z1
  exact go _ _ (fun t k => st.trans k) (k T1 Lc v X1 hQ)
end Calls
end Own
section OwnSta
variable {args : Array Value} {s Z : State} {C n d K : String} {a b : Addr} {h h' : Heap} {v w : Value} {t : Term} {ws : List Addr}
theorem own_sta (hx : (Jvm.Cond.exactly (Term.static C n d) K).value args s none s [] = some true) (w1 : (Jvm.Cond.initialized C).before args s = true) (w2 : (Jvm.Cond.laysStatic C n d).before args s = true) :
    ∃ a, Sta s s.heap C n d (.ref a) ∧ Exa s s.heap a K ∧ (Term.static C n d).eval args s none [] s = some (.ref a) := by
  obtain ⟨a, ev⟩ := exa_v hx
  exact ⟨a, Sta.start ev (Or.inr ⟨w1, w2⟩), Exa.start ev hx, ev⟩
theorem own_fieldeq {k : Int32} (ev : t.eval args s none [] s = some (.ref a)) (hq : (Jvm.Cond.eq (.field t C n d) (.int k)).value args s none s [] = some true) : Fld s s.heap a C n d (.int k) := by
  obtain ⟨x, y, ex, ey, k1, k2⟩ := cmp_v (Or.inl hq)
  have ey' := Option.some.inj ((Term.int_eval k).symm.trans ey)
  subst ey'
  obtain ⟨z, rfl⟩ := k2
  have := gotT (Cond.eq_ints ex ey) hq
  subst this
  rw [fld_at ev] at ex
  exact Fld.start ex
end OwnSta

def ofV (r1 r2 r3 r4 r5 : Addr) (u d : Int32) : Value := if u < 0 then (if d = 0 then .ref r1 else .ref r4) else if 0 < u then (if d = 0 then .ref r2 else .ref r5) else (if d = 0 then .null else .ref r3)
theorem d1_0 : decode prog_134_method_4_code 0 = .ok (.iload_n 0, 1) := by decide +kernel
theorem d1_1 : decode prog_134_method_4_code 1 = .ok (.ifCond .ge 17, 3) := by decide +kernel
theorem d1_4 : decode prog_134_method_4_code 4 = .ok (.iload_n 1, 1) := by decide +kernel
theorem d1_5 : decode prog_134_method_4_code 5 = .ok (.ifCond .eq 9, 3) := by decide +kernel
theorem d1_8 : decode prog_134_method_4_code 8 = .ok (.getstatic 16, 3) := by decide +kernel
theorem d1_11 : decode prog_134_method_4_code 11 = .ok (.goto 6, 3) := by decide +kernel
theorem d1_14 : decode prog_134_method_4_code 14 = .ok (.getstatic 7, 3) := by decide +kernel
theorem d1_17 : decode prog_134_method_4_code 17 = .ok (.areturn, 1) := by decide +kernel
theorem d1_18 : decode prog_134_method_4_code 18 = .ok (.iload_n 0, 1) := by decide +kernel
theorem d1_19 : decode prog_134_method_4_code 19 = .ok (.ifCond .le 17, 3) := by decide +kernel
theorem d1_22 : decode prog_134_method_4_code 22 = .ok (.iload_n 1, 1) := by decide +kernel
theorem d1_23 : decode prog_134_method_4_code 23 = .ok (.ifCond .eq 9, 3) := by decide +kernel
theorem d1_26 : decode prog_134_method_4_code 26 = .ok (.getstatic 19, 3) := by decide +kernel
theorem d1_29 : decode prog_134_method_4_code 29 = .ok (.goto 6, 3) := by decide +kernel
theorem d1_32 : decode prog_134_method_4_code 32 = .ok (.getstatic 10, 3) := by decide +kernel
theorem d1_35 : decode prog_134_method_4_code 35 = .ok (.areturn, 1) := by decide +kernel
theorem d1_36 : decode prog_134_method_4_code 36 = .ok (.iload_n 1, 1) := by decide +kernel
theorem d1_37 : decode prog_134_method_4_code 37 = .ok (.ifCond .eq 9, 3) := by decide +kernel
theorem d1_40 : decode prog_134_method_4_code 40 = .ok (.getstatic 13, 3) := by decide +kernel
theorem d1_43 : decode prog_134_method_4_code 43 = .ok (.goto 4, 3) := by decide +kernel
theorem d1_46 : decode prog_134_method_4_code 46 = .ok (.aconst_null, 1) := by decide +kernel
theorem d1_47 : decode prog_134_method_4_code 47 = .ok (.areturn, 1) := by decide +kernel
theorem pd_0 : parseMethodDescriptor "(IZ)Lcom/example/lotwise/lotwise/report/ReceiptAction;" = some ⟨[.int, .boolean], some (.object "com/example/lotwise/lotwise/report/ReceiptAction")⟩ := by decide +kernel
theorem pn_1 : plainName "com/example/lotwise/lotwise/report/ReceiptAction" = true := by first | (simp [plainName, overriddenIn]; done) | decide +kernel
theorem ef_rm1 (m : MethodId) (x0 : Int32) (x1 : Int32) : entryFrame m #[(.int x0), (.int x1)] 2 = mkF m 0 #[.val (.int x0), .val (.int x1)] [] := by first | (simp [entryFrame, mkF, argsToLocals, Value.category]; done) | rfl
set_option maxRecDepth 65536 in
set_option maxHeartbeats 40000000 in
theorem rm1 (l : Launch) (Z : State) (a0 : Array Value) (hw : ∀ d ∈ tables_1, d.before a0 Z = true) (u0 u1 : Int32) (r1 r2 r3 r4 r5 : Addr) (h0 : Heap) (n0 : Nat) (Z0 : n0 ≤ h0.size) (S1 : Sta Z h0 "com/example/lotwise/lotwise/report/ReceiptAction" "RESCHEDULE_IN" "Lcom/example/lotwise/lotwise/report/ReceiptAction;" (.ref r1)) (S2 : Sta Z h0 "com/example/lotwise/lotwise/report/ReceiptAction" "RESCHEDULE_OUT" "Lcom/example/lotwise/lotwise/report/ReceiptAction;" (.ref r2)) (S3 : Sta Z h0 "com/example/lotwise/lotwise/report/ReceiptAction" "DECREASE" "Lcom/example/lotwise/lotwise/report/ReceiptAction;" (.ref r3)) (S4 : Sta Z h0 "com/example/lotwise/lotwise/report/ReceiptAction" "RESCHEDULE_IN_AND_DECREASE" "Lcom/example/lotwise/lotwise/report/ReceiptAction;" (.ref r4)) (S5 : Sta Z h0 "com/example/lotwise/lotwise/report/ReceiptAction" "RESCHEDULE_OUT_AND_DECREASE" "Lcom/example/lotwise/lotwise/report/ReceiptAction;" (.ref r5)) :
    Con l Z (⟨"com/example/lotwise/lotwise/report/ReceiptAction", "of", "(IZ)Lcom/example/lotwise/lotwise/report/ReceiptAction;"⟩ : MethodName) prog_134_method_4_code 2 (some (.object "com/example/lotwise/lotwise/report/ReceiptAction")) ({ frames := 0, cells := 0, slots := 0, locals := 0 } : Room) #[(.int u0), (.int u1)] h0 (fun v h L => v = some (ofV r1 r2 r3 r4 r5 u0 u1) ∧ Fr n0 L ∧ h = h0) := by
  refine own_body pn_1 ?_
  intro p e s m below meth c s₁ hx hby hml hown hnm hret hZ e0 X0 G go rt
  have N0 := Fr.nil n0
  rw [ef_rm1 m u0 u1]
  show G (s₁.setTop (mkF m 0 #[.val (.int u0), .val (.int u1)] []))
  refine go _ _ (fun t' k' => XS.iloadN X0.here hx rfl (hb hby d1_0) rfl  k') ?_
  show G (s₁.setTop (mkF m 1 #[.val (.int u0), .val (.int u1)] [(.int u0)]))
  by_cases c1 : u0 < (0 : Int32)
  · refine go _ _ (fun t' k' => XS.ifNo X0.here hx rfl (hb hby d1_1) rfl (Free.XT.i0_ge_f c1) k') ?_
    show G (s₁.setTop (mkF m 4 #[.val (.int u0), .val (.int u1)] []))
    refine go _ _ (fun t' k' => XS.iloadN X0.here hx rfl (hb hby d1_4) rfl  k') ?_
    show G (s₁.setTop (mkF m 5 #[.val (.int u0), .val (.int u1)] [(.int u1)]))
    by_cases c2 : u1 = (0 : Int32)
    · refine go _ _ (fun t' k' => XS.ifYes X0.here hx rfl (pc0 := 5) (pc' := 14) rfl (hb hby d1_5) rfl (Free.XT.i0_eq_t c2) (by decide) (by decide) k') ?_
      show G (s₁.setTop (mkF m 14 #[.val (.int u0), .val (.int u1)] []))
      obtain ⟨T3, X3, e3, st3⟩ := getS X0 hx hZ hown (host := "") (hw _ (List.mem_of_getElem? (i := 18) rfl)) Via.refl e0 S1 (g := (mkF m 14 #[.val (.int u0), .val (.int u1)] [])) rfl (hb hby d1_14)
      refine go _ _ st3 ?_
      show G (T3.setTop (mkF m 17 #[.val (.int u0), .val (.int u1)] [(.ref r1)]))
      refine own_retA rt X3 hx hret rfl rfl (hb hby d1_17) (by decide) (by decide) ?_
      exact ⟨by simp [ofV, c1, c2], N0, e3⟩
    · refine go _ _ (fun t' k' => XS.ifNo X0.here hx rfl (hb hby d1_5) rfl (Free.XT.i0_eq_f c2) k') ?_
      show G (s₁.setTop (mkF m 8 #[.val (.int u0), .val (.int u1)] []))
      obtain ⟨T4, X4, e4, st4⟩ := getS X0 hx hZ hown (host := "") (hw _ (List.mem_of_getElem? (i := 20) rfl)) Via.refl e0 S4 (g := (mkF m 8 #[.val (.int u0), .val (.int u1)] [])) rfl (hb hby d1_8)
      refine go _ _ st4 ?_
      show G (T4.setTop (mkF m 11 #[.val (.int u0), .val (.int u1)] [(.ref r4)]))
      refine go _ _ (fun t' k' => XS.goto X4.here hx rfl (pc0 := 11) (pc' := 17) rfl (hb hby d1_11) (by decide) (by decide) k') ?_
      show G (T4.setTop (mkF m 17 #[.val (.int u0), .val (.int u1)] [(.ref r4)]))
      refine own_retA rt X4 hx hret rfl rfl (hb hby d1_17) (by decide) (by decide) ?_
      exact ⟨by simp [ofV, c1, c2], N0, e4⟩
  · refine go _ _ (fun t' k' => XS.ifYes X0.here hx rfl (pc0 := 1) (pc' := 18) rfl (hb hby d1_1) rfl (Free.XT.i0_ge_t c1) (by decide) (by decide) k') ?_
    show G (s₁.setTop (mkF m 18 #[.val (.int u0), .val (.int u1)] []))
    refine go _ _ (fun t' k' => XS.iloadN X0.here hx rfl (hb hby d1_18) rfl  k') ?_
    show G (s₁.setTop (mkF m 19 #[.val (.int u0), .val (.int u1)] [(.int u0)]))
    by_cases c5 : (0 : Int32) < u0
    · refine go _ _ (fun t' k' => XS.ifNo X0.here hx rfl (hb hby d1_19) rfl (Free.XT.i0_le_f c5) k') ?_
      show G (s₁.setTop (mkF m 22 #[.val (.int u0), .val (.int u1)] []))
      refine go _ _ (fun t' k' => XS.iloadN X0.here hx rfl (hb hby d1_22) rfl  k') ?_
      show G (s₁.setTop (mkF m 23 #[.val (.int u0), .val (.int u1)] [(.int u1)]))
      by_cases c6 : u1 = (0 : Int32)
      · refine go _ _ (fun t' k' => XS.ifYes X0.here hx rfl (pc0 := 23) (pc' := 32) rfl (hb hby d1_23) rfl (Free.XT.i0_eq_t c6) (by decide) (by decide) k') ?_
        show G (s₁.setTop (mkF m 32 #[.val (.int u0), .val (.int u1)] []))
        obtain ⟨T7, X7, e7, st7⟩ := getS X0 hx hZ hown (host := "") (hw _ (List.mem_of_getElem? (i := 19) rfl)) Via.refl e0 S2 (g := (mkF m 32 #[.val (.int u0), .val (.int u1)] [])) rfl (hb hby d1_32)
        refine go _ _ st7 ?_
        show G (T7.setTop (mkF m 35 #[.val (.int u0), .val (.int u1)] [(.ref r2)]))
        refine own_retA rt X7 hx hret rfl rfl (hb hby d1_35) (by decide) (by decide) ?_
        exact ⟨by simp [ofV, c1, c5, c6], N0, e7⟩
      · refine go _ _ (fun t' k' => XS.ifNo X0.here hx rfl (hb hby d1_23) rfl (Free.XT.i0_eq_f c6) k') ?_
        show G (s₁.setTop (mkF m 26 #[.val (.int u0), .val (.int u1)] []))
        obtain ⟨T8, X8, e8, st8⟩ := getS X0 hx hZ hown (host := "") (hw _ (List.mem_of_getElem? (i := 17) rfl)) Via.refl e0 S5 (g := (mkF m 26 #[.val (.int u0), .val (.int u1)] [])) rfl (hb hby d1_26)
        refine go _ _ st8 ?_
        show G (T8.setTop (mkF m 29 #[.val (.int u0), .val (.int u1)] [(.ref r5)]))
        refine go _ _ (fun t' k' => XS.goto X8.here hx rfl (pc0 := 29) (pc' := 35) rfl (hb hby d1_29) (by decide) (by decide) k') ?_
        show G (T8.setTop (mkF m 35 #[.val (.int u0), .val (.int u1)] [(.ref r5)]))
        refine own_retA rt X8 hx hret rfl rfl (hb hby d1_35) (by decide) (by decide) ?_
        exact ⟨by simp [ofV, c1, c5, c6], N0, e8⟩
    · refine go _ _ (fun t' k' => XS.ifYes X0.here hx rfl (pc0 := 19) (pc' := 36) rfl (hb hby d1_19) rfl (Free.XT.i0_le_t c5) (by decide) (by decide) k') ?_
      show G (s₁.setTop (mkF m 36 #[.val (.int u0), .val (.int u1)] []))
      refine go _ _ (fun t' k' => XS.iloadN X0.here hx rfl (hb hby d1_36) rfl  k') ?_
      show G (s₁.setTop (mkF m 37 #[.val (.int u0), .val (.int u1)] [(.int u1)]))
      by_cases c9 : u1 = (0 : Int32)
      · refine go _ _ (fun t' k' => XS.ifYes X0.here hx rfl (pc0 := 37) (pc' := 46) rfl (hb hby d1_37) rfl (Free.XT.i0_eq_t c9) (by decide) (by decide) k') ?_
        show G (s₁.setTop (mkF m 46 #[.val (.int u0), .val (.int u1)] []))
        refine go _ _ (fun t' k' => XS.aconstNull X0.here hx rfl (hb hby d1_46) k') ?_
        show G (s₁.setTop (mkF m 47 #[.val (.int u0), .val (.int u1)] [.null]))
        refine own_retA rt X0 hx hret rfl rfl (hb hby d1_47) (by decide) (by decide) ?_
        exact ⟨by simp [ofV, c1, c5, c9], N0, e0⟩
      · refine go _ _ (fun t' k' => XS.ifNo X0.here hx rfl (hb hby d1_37) rfl (Free.XT.i0_eq_f c9) k') ?_
        show G (s₁.setTop (mkF m 40 #[.val (.int u0), .val (.int u1)] []))
        obtain ⟨T10, X10, e10, st10⟩ := getS X0 hx hZ hown (host := "") (hw _ (List.mem_of_getElem? (i := 4) rfl)) Via.refl e0 S3 (g := (mkF m 40 #[.val (.int u0), .val (.int u1)] [])) rfl (hb hby d1_40)
        refine go _ _ st10 ?_
        show G (T10.setTop (mkF m 43 #[.val (.int u0), .val (.int u1)] [(.ref r3)]))
        refine go _ _ (fun t' k' => XS.goto X10.here hx rfl (pc0 := 43) (pc' := 47) rfl (hb hby d1_43) (by decide) (by decide) k') ?_
        show G (T10.setTop (mkF m 47 #[.val (.int u0), .val (.int u1)] [(.ref r3)]))
        refine own_retA rt X10 hx hret rfl rfl (hb hby d1_47) (by decide) (by decide) ?_
        exact ⟨by simp [ofV, c1, c5, c9], N0, e10⟩
theorem pn_0 : plainName "com/example/lotwise/lotwise/report/ReceiptActionOfPinLaw" = true := by first | (simp [plainName, overriddenIn]; done) | decide +kernel
theorem ef_rm0 (m : MethodId) (x0 : Int32) (x1 : Int32) : entryFrame m #[(.int x0), (.int x1)] maxLocals = mkF m 0 #[.val (.int x0), .val (.int x1), .unset, .unset, .unset, .unset, .unset, .unset] [] := by first | (simp [entryFrame, mkF, argsToLocals, Value.category, maxLocals]; done) | rfl
set_option maxRecDepth 65536 in
set_option maxHeartbeats 40000000 in
theorem rm0 (l : Launch) (Z : State) (a0 : Array Value) (hw : ∀ d ∈ tables_1, d.before a0 Z = true) (u0 u1 : Int32) (h0 : Heap) (n0 : Nat) (Z0 : n0 ≤ h0.size) (r0 r1 r2 r3 r4 r5 : Addr) (S0 : Sta Z h0 "com/example/lotwise/lotwise/report/ReceiptAction" "CANCEL" "Lcom/example/lotwise/lotwise/report/ReceiptAction;" (.ref r0)) (S1 : Sta Z h0 "com/example/lotwise/lotwise/report/ReceiptAction" "RESCHEDULE_IN" "Lcom/example/lotwise/lotwise/report/ReceiptAction;" (.ref r1)) (S2 : Sta Z h0 "com/example/lotwise/lotwise/report/ReceiptAction" "RESCHEDULE_OUT" "Lcom/example/lotwise/lotwise/report/ReceiptAction;" (.ref r2)) (S3 : Sta Z h0 "com/example/lotwise/lotwise/report/ReceiptAction" "DECREASE" "Lcom/example/lotwise/lotwise/report/ReceiptAction;" (.ref r3)) (S4 : Sta Z h0 "com/example/lotwise/lotwise/report/ReceiptAction" "RESCHEDULE_IN_AND_DECREASE" "Lcom/example/lotwise/lotwise/report/ReceiptAction;" (.ref r4)) (S5 : Sta Z h0 "com/example/lotwise/lotwise/report/ReceiptAction" "RESCHEDULE_OUT_AND_DECREASE" "Lcom/example/lotwise/lotwise/report/ReceiptAction;" (.ref r5)) (n01 : r0 ≠ r1) (n02 : r0 ≠ r2) (n03 : r0 ≠ r3) (n04 : r0 ≠ r4) (n05 : r0 ≠ r5) (n12 : r1 ≠ r2) (n13 : r1 ≠ r3) (n14 : r1 ≠ r4) (n15 : r1 ≠ r5) (n23 : r2 ≠ r3) (n24 : r2 ≠ r4) (n25 : r2 ≠ r5) (n34 : r3 ≠ r4) (n35 : r3 ≠ r5) (n45 : r4 ≠ r5) :
    Con l Z x code maxLocals ret room_1 #[(.int u0), (.int u1)] h0 (fun v h L => v = some (.int 1) ∧ Fr n0 L) := by
  refine own_body pn_0 ?_
  intro p e s m below meth c s₁ hx hby hml hown hnm hret hZ e0 X0 G go rt
  have N0 := Fr.nil n0
  rw [ef_rm0 m u0 u1]
  show G (s₁.setTop (mkF m 0 #[.val (.int u0), .val (.int u1), .unset, .unset, .unset, .unset, .unset, .unset] []))
  refine go _ _ (fun t' k' => XS.iloadN X0.here hx rfl (hb hby at_0) rfl  k') ?_
  show G (s₁.setTop (mkF m 1 #[.val (.int u0), .val (.int u1), .unset, .unset, .unset, .unset, .unset, .unset] [(.int u1)]))
  refine go _ _ (fun t' k' => XS.iconst X0.here hx rfl (hb hby at_1) k') ?_
  show G (s₁.setTop (mkF m 2 #[.val (.int u0), .val (.int u1), .unset, .unset, .unset, .unset, .unset, .unset] [(.int (1 : Int32)), (.int u1)]))
  refine go _ _ (fun t' k' => XS.iand X0.here hx rfl (hb hby at_2) rfl k') ?_
  show G (s₁.setTop (mkF m 3 #[.val (.int u0), .val (.int u1), .unset, .unset, .unset, .unset, .unset, .unset] [(.int (u1 &&& (1 : Int32)))]))
  by_cases c11 : (u1 &&& (1 : Int32)) = (0 : Int32)
  · refine go _ _ (fun t' k' => XS.ifYes X0.here hx rfl (pc0 := 3) (pc' := 10) rfl (hb hby at_3) rfl (Free.XT.i0_eq_t c11) (by decide) (by decide) k') ?_
    show G (s₁.setTop (mkF m 10 #[.val (.int u0), .val (.int u1), .unset, .unset, .unset, .unset, .unset, .unset] []))
    refine go _ _ (fun t' k' => XS.iconst X0.here hx rfl (hb hby at_10) k') ?_
    show G (s₁.setTop (mkF m 11 #[.val (.int u0), .val (.int u1), .unset, .unset, .unset, .unset, .unset, .unset] [(.int (0 : Int32))]))
    refine go _ _ (fun t' k' => XS.istoreN X0.here hx rfl (hb hby at_11) rfl (l' := #[.val (.int u0), .val (.int u1), .val (.int (0 : Int32)), .unset, .unset, .unset, .unset, .unset]) rfl k') ?_
    show G (s₁.setTop (mkF m 12 #[.val (.int u0), .val (.int u1), .val (.int (0 : Int32)), .unset, .unset, .unset, .unset, .unset] []))
    refine go _ _ (fun t' k' => XS.iloadN X0.here hx rfl (hb hby at_12) rfl  k') ?_
    show G (s₁.setTop (mkF m 13 #[.val (.int u0), .val (.int u1), .val (.int (0 : Int32)), .unset, .unset, .unset, .unset, .unset] [(.int u0)]))
    refine go _ _ (fun t' k' => XS.iloadN X0.here hx rfl (hb hby at_13) rfl  k') ?_
    show G (s₁.setTop (mkF m 14 #[.val (.int u0), .val (.int u1), .val (.int (0 : Int32)), .unset, .unset, .unset, .unset, .unset] [(.int (0 : Int32)), (.int u0)]))
    by_cases c12 : u0 < (0 : Int32)
    · have z13 : ¬ u0 = (0 : Int32) := fun z => absurd (z ▸ c12) (by decide)
      have z14 : ¬ (0 : Int32) < u0 := fun z => Int32.lt_irrefl (Int32.lt_trans z c12)
      refine own_static go X0 hx hZ e0 hown (hw _ (List.mem_of_getElem? (i := 0) rfl)) (hw _ (List.mem_of_getElem? (i := 1) rfl)) (hw _ (List.mem_of_getElem? (i := 2) rfl)) (hw _ (List.mem_of_getElem? (i := 3) rfl)) (by decide) (rm1 l Z a0 hw u0 (0 : Int32) r1 r2 r3 r4 r5 h0 n0 Z0 S1 S2 S3 S4 S5) 0 (by decide) (by decide) (by decide) (by decide) (g := (mkF m 14 #[.val (.int u0), .val (.int u1), .val (.int (0 : Int32)), .unset, .unset, .unset, .unset, .unset] [(.int (0 : Int32)), (.int u0)])) rfl (by rw [hml]; rfl) [(.int u0), (.int (0 : Int32))] [] rfl (lenOf pd_0 rfl) rfl (by show 2 * 0 + _ ≤ _; exact Nat.le_of_eq rfl) (hb hby at_14) ?_
      intro T15 L15 v15 X15 q15
      obtain ⟨rfl, N15, hh15⟩ := q15
      have N16 := Fr.app N0 N15
      rw [show ofV r1 r2 r3 r4 r5 u0 (0 : Int32) = (.ref r1) from by simp [ofV, c11, c12, z13, z14]]
      show G (T15.setTop (mkF m 17 #[.val (.int u0), .val (.int u1), .val (.int (0 : Int32)), .unset, .unset, .unset, .unset, .unset] [(.ref r1)]))
      refine go _ _ (fun t' k' => XS.astoreN X15.here hx rfl (hb hby at_17) rfl rfl (l' := #[.val (.int u0), .val (.int u1), .val (.int (0 : Int32)), .val (.ref r1), .unset, .unset, .unset, .unset]) rfl k') ?_
      show G (T15.setTop (mkF m 18 #[.val (.int u0), .val (.int u1), .val (.int (0 : Int32)), .val (.ref r1), .unset, .unset, .unset, .unset] []))
      refine go _ _ (fun t' k' => XS.aloadN X15.here hx rfl (hb hby at_18) rfl rfl  k') ?_
      show G (T15.setTop (mkF m 19 #[.val (.int u0), .val (.int u1), .val (.int (0 : Int32)), .val (.ref r1), .unset, .unset, .unset, .unset] [(.ref r1)]))
      refine go _ _ (fun t' k' => XS.ifnonnullYes X15.here hx rfl (pc0 := 19) (pc' := 26) rfl (hb hby at_19) rfl (by decide) (by decide) k') ?_
      show G (T15.setTop (mkF m 26 #[.val (.int u0), .val (.int u1), .val (.int (0 : Int32)), .val (.ref r1), .unset, .unset, .unset, .unset] []))
      refine go _ _ (fun t' k' => XS.iconst X15.here hx rfl (hb hby at_26) k') ?_
      show G (T15.setTop (mkF m 27 #[.val (.int u0), .val (.int u1), .val (.int (0 : Int32)), .val (.ref r1), .unset, .unset, .unset, .unset] [(.int (0 : Int32))]))
      refine go _ _ (fun t' k' => XS.istore X15.here hx rfl (hb hby at_27) rfl (l' := #[.val (.int u0), .val (.int u1), .val (.int (0 : Int32)), .val (.ref r1), .val (.int (0 : Int32)), .unset, .unset, .unset]) rfl k') ?_
      show G (T15.setTop (mkF m 29 #[.val (.int u0), .val (.int u1), .val (.int (0 : Int32)), .val (.ref r1), .val (.int (0 : Int32)), .unset, .unset, .unset] []))
      refine go _ _ (fun t' k' => XS.aloadN X15.here hx rfl (hb hby at_29) rfl rfl  k') ?_
      show G (T15.setTop (mkF m 30 #[.val (.int u0), .val (.int u1), .val (.int (0 : Int32)), .val (.ref r1), .val (.int (0 : Int32)), .unset, .unset, .unset] [(.ref r1)]))
      obtain ⟨T17, X17, e17, st17⟩ := getS X15 hx hZ hown (host := "") (hw _ (List.mem_of_getElem? (i := 6) rfl)) Via.refl hh15 S1 (g := (mkF m 30 #[.val (.int u0), .val (.int u1), .val (.int (0 : Int32)), .val (.ref r1), .val (.int (0 : Int32)), .unset, .unset, .unset] [(.ref r1)])) rfl (hb hby at_30)
      refine go _ _ st17 ?_
      show G (T17.setTop (mkF m 33 #[.val (.int u0), .val (.int u1), .val (.int (0 : Int32)), .val (.ref r1), .val (.int (0 : Int32)), .unset, .unset, .unset] [(.ref r1), (.ref r1)]))
      refine go _ _ (fun t' k' => Jvm.RoadKit.acmp (g := (mkF m 33 #[.val (.int u0), .val (.int u1), .val (.int (0 : Int32)), .val (.ref r1), .val (.int (0 : Int32)), .unset, .unset, .unset] [(.ref r1), (.ref r1)])) X17 hx rfl (x := (.ref r1)) (y := (.ref r1)) rfl rfl (rest := []) (pc0 := 33) (pc' := 43) (same := true) rfl (hb hby at_33) rfl (decide_eq_true rfl) (by decide) (by decide) k') ?_
      show G (T17.setTop (mkF m 43 #[.val (.int u0), .val (.int u1), .val (.int (0 : Int32)), .val (.ref r1), .val (.int (0 : Int32)), .unset, .unset, .unset] []))
      refine go _ _ (fun t' k' => XS.iconst X17.here hx rfl (hb hby at_43) k') ?_
      show G (T17.setTop (mkF m 44 #[.val (.int u0), .val (.int u1), .val (.int (0 : Int32)), .val (.ref r1), .val (.int (0 : Int32)), .unset, .unset, .unset] [(.int (1 : Int32))]))
      refine go _ _ (fun t' k' => XS.goto X17.here hx rfl (pc0 := 44) (pc' := 48) rfl (hb hby at_44) (by decide) (by decide) k') ?_
      show G (T17.setTop (mkF m 48 #[.val (.int u0), .val (.int u1), .val (.int (0 : Int32)), .val (.ref r1), .val (.int (0 : Int32)), .unset, .unset, .unset] [(.int (1 : Int32))]))
      refine go _ _ (fun t' k' => XS.istore X17.here hx rfl (hb hby at_48) rfl (l' := #[.val (.int u0), .val (.int u1), .val (.int (0 : Int32)), .val (.ref r1), .val (.int (0 : Int32)), .val (.int (1 : Int32)), .unset, .unset]) rfl k') ?_
      show G (T17.setTop (mkF m 50 #[.val (.int u0), .val (.int u1), .val (.int (0 : Int32)), .val (.ref r1), .val (.int (0 : Int32)), .val (.int (1 : Int32)), .unset, .unset] []))
      refine go _ _ (fun t' k' => XS.aloadN X17.here hx rfl (hb hby at_50) rfl rfl  k') ?_
      show G (T17.setTop (mkF m 51 #[.val (.int u0), .val (.int u1), .val (.int (0 : Int32)), .val (.ref r1), .val (.int (0 : Int32)), .val (.int (1 : Int32)), .unset, .unset] [(.ref r1)]))
      obtain ⟨T18, X18, e18, st18⟩ := getS X17 hx hZ hown (host := "") (hw _ (List.mem_of_getElem? (i := 10) rfl)) Via.refl e17 S2 (g := (mkF m 51 #[.val (.int u0), .val (.int u1), .val (.int (0 : Int32)), .val (.ref r1), .val (.int (0 : Int32)), .val (.int (1 : Int32)), .unset, .unset] [(.ref r1)])) rfl (hb hby at_51)
      refine go _ _ st18 ?_
      show G (T18.setTop (mkF m 54 #[.val (.int u0), .val (.int u1), .val (.int (0 : Int32)), .val (.ref r1), .val (.int (0 : Int32)), .val (.int (1 : Int32)), .unset, .unset] [(.ref r2), (.ref r1)]))
      refine go _ _ (fun t' k' => Jvm.RoadKit.acmp (g := (mkF m 54 #[.val (.int u0), .val (.int u1), .val (.int (0 : Int32)), .val (.ref r1), .val (.int (0 : Int32)), .val (.int (1 : Int32)), .unset, .unset] [(.ref r2), (.ref r1)])) X18 hx rfl (x := (.ref r1)) (y := (.ref r2)) rfl rfl (rest := []) (pc0 := 54) (pc' := 57) (same := false) rfl (hb hby at_54) rfl (decide_eq_false (fun z => n12 (Value.ref.inj z))) (by decide) (by decide) k') ?_
      show G (T18.setTop (mkF m 57 #[.val (.int u0), .val (.int u1), .val (.int (0 : Int32)), .val (.ref r1), .val (.int (0 : Int32)), .val (.int (1 : Int32)), .unset, .unset] []))
      refine go _ _ (fun t' k' => XS.aloadN X18.here hx rfl (hb hby at_57) rfl rfl  k') ?_
      show G (T18.setTop (mkF m 58 #[.val (.int u0), .val (.int u1), .val (.int (0 : Int32)), .val (.ref r1), .val (.int (0 : Int32)), .val (.int (1 : Int32)), .unset, .unset] [(.ref r1)]))
      obtain ⟨T19, X19, e19, st19⟩ := getS X18 hx hZ hown (host := "") (hw _ (List.mem_of_getElem? (i := 12) rfl)) Via.refl e18 S5 (g := (mkF m 58 #[.val (.int u0), .val (.int u1), .val (.int (0 : Int32)), .val (.ref r1), .val (.int (0 : Int32)), .val (.int (1 : Int32)), .unset, .unset] [(.ref r1)])) rfl (hb hby at_58)
      refine go _ _ st19 ?_
      show G (T19.setTop (mkF m 61 #[.val (.int u0), .val (.int u1), .val (.int (0 : Int32)), .val (.ref r1), .val (.int (0 : Int32)), .val (.int (1 : Int32)), .unset, .unset] [(.ref r5), (.ref r1)]))
      refine go _ _ (fun t' k' => Jvm.RoadKit.acmp (g := (mkF m 61 #[.val (.int u0), .val (.int u1), .val (.int (0 : Int32)), .val (.ref r1), .val (.int (0 : Int32)), .val (.int (1 : Int32)), .unset, .unset] [(.ref r5), (.ref r1)])) X19 hx rfl (x := (.ref r1)) (y := (.ref r5)) rfl rfl (rest := []) (pc0 := 61) (pc' := 68) (same := false) rfl (hb hby at_61) rfl (decide_eq_false (fun z => n15 (Value.ref.inj z))) (by decide) (by decide) k') ?_
      show G (T19.setTop (mkF m 68 #[.val (.int u0), .val (.int u1), .val (.int (0 : Int32)), .val (.ref r1), .val (.int (0 : Int32)), .val (.int (1 : Int32)), .unset, .unset] []))
      refine go _ _ (fun t' k' => XS.iconst X19.here hx rfl (hb hby at_68) k') ?_
      show G (T19.setTop (mkF m 69 #[.val (.int u0), .val (.int u1), .val (.int (0 : Int32)), .val (.ref r1), .val (.int (0 : Int32)), .val (.int (1 : Int32)), .unset, .unset] [(.int (0 : Int32))]))
      refine go _ _ (fun t' k' => XS.istore X19.here hx rfl (hb hby at_69) rfl (l' := #[.val (.int u0), .val (.int u1), .val (.int (0 : Int32)), .val (.ref r1), .val (.int (0 : Int32)), .val (.int (1 : Int32)), .val (.int (0 : Int32)), .unset]) rfl k') ?_
      show G (T19.setTop (mkF m 71 #[.val (.int u0), .val (.int u1), .val (.int (0 : Int32)), .val (.ref r1), .val (.int (0 : Int32)), .val (.int (1 : Int32)), .val (.int (0 : Int32)), .unset] []))
      refine go _ _ (fun t' k' => XS.aloadN X19.here hx rfl (hb hby at_71) rfl rfl  k') ?_
      show G (T19.setTop (mkF m 72 #[.val (.int u0), .val (.int u1), .val (.int (0 : Int32)), .val (.ref r1), .val (.int (0 : Int32)), .val (.int (1 : Int32)), .val (.int (0 : Int32)), .unset] [(.ref r1)]))
      obtain ⟨T20, X20, e20, st20⟩ := getS X19 hx hZ hown (host := "") (hw _ (List.mem_of_getElem? (i := 14) rfl)) Via.refl e19 S3 (g := (mkF m 72 #[.val (.int u0), .val (.int u1), .val (.int (0 : Int32)), .val (.ref r1), .val (.int (0 : Int32)), .val (.int (1 : Int32)), .val (.int (0 : Int32)), .unset] [(.ref r1)])) rfl (hb hby at_72)
      refine go _ _ st20 ?_
      show G (T20.setTop (mkF m 75 #[.val (.int u0), .val (.int u1), .val (.int (0 : Int32)), .val (.ref r1), .val (.int (0 : Int32)), .val (.int (1 : Int32)), .val (.int (0 : Int32)), .unset] [(.ref r3), (.ref r1)]))
      refine go _ _ (fun t' k' => Jvm.RoadKit.acmp (g := (mkF m 75 #[.val (.int u0), .val (.int u1), .val (.int (0 : Int32)), .val (.ref r1), .val (.int (0 : Int32)), .val (.int (1 : Int32)), .val (.int (0 : Int32)), .unset] [(.ref r3), (.ref r1)])) X20 hx rfl (x := (.ref r1)) (y := (.ref r3)) rfl rfl (rest := []) (pc0 := 75) (pc' := 78) (same := false) rfl (hb hby at_75) rfl (decide_eq_false (fun z => n13 (Value.ref.inj z))) (by decide) (by decide) k') ?_
      show G (T20.setTop (mkF m 78 #[.val (.int u0), .val (.int u1), .val (.int (0 : Int32)), .val (.ref r1), .val (.int (0 : Int32)), .val (.int (1 : Int32)), .val (.int (0 : Int32)), .unset] []))
      refine go _ _ (fun t' k' => XS.aloadN X20.here hx rfl (hb hby at_78) rfl rfl  k') ?_
      show G (T20.setTop (mkF m 79 #[.val (.int u0), .val (.int u1), .val (.int (0 : Int32)), .val (.ref r1), .val (.int (0 : Int32)), .val (.int (1 : Int32)), .val (.int (0 : Int32)), .unset] [(.ref r1)]))
      obtain ⟨T21, X21, e21, st21⟩ := getS X20 hx hZ hown (host := "") (hw _ (List.mem_of_getElem? (i := 8) rfl)) Via.refl e20 S4 (g := (mkF m 79 #[.val (.int u0), .val (.int u1), .val (.int (0 : Int32)), .val (.ref r1), .val (.int (0 : Int32)), .val (.int (1 : Int32)), .val (.int (0 : Int32)), .unset] [(.ref r1)])) rfl (hb hby at_79)
      refine go _ _ st21 ?_
      show G (T21.setTop (mkF m 82 #[.val (.int u0), .val (.int u1), .val (.int (0 : Int32)), .val (.ref r1), .val (.int (0 : Int32)), .val (.int (1 : Int32)), .val (.int (0 : Int32)), .unset] [(.ref r4), (.ref r1)]))
      refine go _ _ (fun t' k' => Jvm.RoadKit.acmp (g := (mkF m 82 #[.val (.int u0), .val (.int u1), .val (.int (0 : Int32)), .val (.ref r1), .val (.int (0 : Int32)), .val (.int (1 : Int32)), .val (.int (0 : Int32)), .unset] [(.ref r4), (.ref r1)])) X21 hx rfl (x := (.ref r1)) (y := (.ref r4)) rfl rfl (rest := []) (pc0 := 82) (pc' := 85) (same := false) rfl (hb hby at_82) rfl (decide_eq_false (fun z => n14 (Value.ref.inj z))) (by decide) (by decide) k') ?_
      show G (T21.setTop (mkF m 85 #[.val (.int u0), .val (.int u1), .val (.int (0 : Int32)), .val (.ref r1), .val (.int (0 : Int32)), .val (.int (1 : Int32)), .val (.int (0 : Int32)), .unset] []))
      refine go _ _ (fun t' k' => XS.aloadN X21.here hx rfl (hb hby at_85) rfl rfl  k') ?_
      show G (T21.setTop (mkF m 86 #[.val (.int u0), .val (.int u1), .val (.int (0 : Int32)), .val (.ref r1), .val (.int (0 : Int32)), .val (.int (1 : Int32)), .val (.int (0 : Int32)), .unset] [(.ref r1)]))
      obtain ⟨T22, X22, e22, st22⟩ := getS X21 hx hZ hown (host := "") (hw _ (List.mem_of_getElem? (i := 12) rfl)) Via.refl e21 S5 (g := (mkF m 86 #[.val (.int u0), .val (.int u1), .val (.int (0 : Int32)), .val (.ref r1), .val (.int (0 : Int32)), .val (.int (1 : Int32)), .val (.int (0 : Int32)), .unset] [(.ref r1)])) rfl (hb hby at_86)
      refine go _ _ st22 ?_
      show G (T22.setTop (mkF m 89 #[.val (.int u0), .val (.int u1), .val (.int (0 : Int32)), .val (.ref r1), .val (.int (0 : Int32)), .val (.int (1 : Int32)), .val (.int (0 : Int32)), .unset] [(.ref r5), (.ref r1)]))
      refine go _ _ (fun t' k' => Jvm.RoadKit.acmp (g := (mkF m 89 #[.val (.int u0), .val (.int u1), .val (.int (0 : Int32)), .val (.ref r1), .val (.int (0 : Int32)), .val (.int (1 : Int32)), .val (.int (0 : Int32)), .unset] [(.ref r5), (.ref r1)])) X22 hx rfl (x := (.ref r1)) (y := (.ref r5)) rfl rfl (rest := []) (pc0 := 89) (pc' := 96) (same := false) rfl (hb hby at_89) rfl (decide_eq_false (fun z => n15 (Value.ref.inj z))) (by decide) (by decide) k') ?_
      show G (T22.setTop (mkF m 96 #[.val (.int u0), .val (.int u1), .val (.int (0 : Int32)), .val (.ref r1), .val (.int (0 : Int32)), .val (.int (1 : Int32)), .val (.int (0 : Int32)), .unset] []))
      refine go _ _ (fun t' k' => XS.iconst X22.here hx rfl (hb hby at_96) k') ?_
      show G (T22.setTop (mkF m 97 #[.val (.int u0), .val (.int u1), .val (.int (0 : Int32)), .val (.ref r1), .val (.int (0 : Int32)), .val (.int (1 : Int32)), .val (.int (0 : Int32)), .unset] [(.int (0 : Int32))]))
      refine go _ _ (fun t' k' => XS.istore X22.here hx rfl (hb hby at_97) rfl (l' := #[.val (.int u0), .val (.int u1), .val (.int (0 : Int32)), .val (.ref r1), .val (.int (0 : Int32)), .val (.int (1 : Int32)), .val (.int (0 : Int32)), .val (.int (0 : Int32))]) rfl k') ?_
      show G (T22.setTop (mkF m 99 #[.val (.int u0), .val (.int u1), .val (.int (0 : Int32)), .val (.ref r1), .val (.int (0 : Int32)), .val (.int (1 : Int32)), .val (.int (0 : Int32)), .val (.int (0 : Int32))] []))
      refine go _ _ (fun t' k' => XS.iload X22.here hx rfl (hb hby at_99) rfl  k') ?_
      show G (T22.setTop (mkF m 101 #[.val (.int u0), .val (.int u1), .val (.int (0 : Int32)), .val (.ref r1), .val (.int (0 : Int32)), .val (.int (1 : Int32)), .val (.int (0 : Int32)), .val (.int (0 : Int32))] [(.int (0 : Int32))]))
      refine go _ _ (fun t' k' => XS.iloadN X22.here hx rfl (hb hby at_101) rfl  k') ?_
      show G (T22.setTop (mkF m 102 #[.val (.int u0), .val (.int u1), .val (.int (0 : Int32)), .val (.ref r1), .val (.int (0 : Int32)), .val (.int (1 : Int32)), .val (.int (0 : Int32)), .val (.int (0 : Int32))] [(.int u0), (.int (0 : Int32))]))
      refine go _ _ (fun t' k' => XS.ifYes X22.here hx rfl (pc0 := 102) (pc' := 113) rfl (hb hby at_102) rfl (Free.XT.i0_ne_t z13) (by decide) (by decide) k') ?_
      show G (T22.setTop (mkF m 113 #[.val (.int u0), .val (.int u1), .val (.int (0 : Int32)), .val (.ref r1), .val (.int (0 : Int32)), .val (.int (1 : Int32)), .val (.int (0 : Int32)), .val (.int (0 : Int32))] [(.int (0 : Int32))]))
      refine go _ _ (fun t' k' => XS.iconst X22.here hx rfl (hb hby at_113) k') ?_
      show G (T22.setTop (mkF m 114 #[.val (.int u0), .val (.int u1), .val (.int (0 : Int32)), .val (.ref r1), .val (.int (0 : Int32)), .val (.int (1 : Int32)), .val (.int (0 : Int32)), .val (.int (0 : Int32))] [(.int (0 : Int32)), (.int (0 : Int32))]))
      refine go _ _ (fun t' k' => XS.icmpYes X22.here hx rfl (pc0 := 114) (pc' := 119) rfl (hb hby at_114) rfl (Free.XT.ii_eq_t (by decide)) (by decide) (by decide) k') ?_
      show G (T22.setTop (mkF m 119 #[.val (.int u0), .val (.int u1), .val (.int (0 : Int32)), .val (.ref r1), .val (.int (0 : Int32)), .val (.int (1 : Int32)), .val (.int (0 : Int32)), .val (.int (0 : Int32))] []))
      refine go _ _ (fun t' k' => XS.aloadN X22.here hx rfl (hb hby at_119) rfl rfl  k') ?_
      show G (T22.setTop (mkF m 120 #[.val (.int u0), .val (.int u1), .val (.int (0 : Int32)), .val (.ref r1), .val (.int (0 : Int32)), .val (.int (1 : Int32)), .val (.int (0 : Int32)), .val (.int (0 : Int32))] [(.ref r1)]))
      obtain ⟨T23, X23, e23, st23⟩ := getS X22 hx hZ hown (host := "") (hw _ (List.mem_of_getElem? (i := 15) rfl)) Via.refl e22 S0 (g := (mkF m 120 #[.val (.int u0), .val (.int u1), .val (.int (0 : Int32)), .val (.ref r1), .val (.int (0 : Int32)), .val (.int (1 : Int32)), .val (.int (0 : Int32)), .val (.int (0 : Int32))] [(.ref r1)])) rfl (hb hby at_120)
      refine go _ _ st23 ?_
      show G (T23.setTop (mkF m 123 #[.val (.int u0), .val (.int u1), .val (.int (0 : Int32)), .val (.ref r1), .val (.int (0 : Int32)), .val (.int (1 : Int32)), .val (.int (0 : Int32)), .val (.int (0 : Int32))] [(.ref r0), (.ref r1)]))
      refine go _ _ (fun t' k' => Jvm.RoadKit.acmp (g := (mkF m 123 #[.val (.int u0), .val (.int u1), .val (.int (0 : Int32)), .val (.ref r1), .val (.int (0 : Int32)), .val (.int (1 : Int32)), .val (.int (0 : Int32)), .val (.int (0 : Int32))] [(.ref r0), (.ref r1)])) X23 hx rfl (x := (.ref r1)) (y := (.ref r0)) rfl rfl (rest := []) (pc0 := 123) (pc' := 128) (same := false) rfl (hb hby at_123) rfl (decide_eq_false (fun z => (Ne.symm n01) (Value.ref.inj z))) (by decide) (by decide) k') ?_
      show G (T23.setTop (mkF m 128 #[.val (.int u0), .val (.int u1), .val (.int (0 : Int32)), .val (.ref r1), .val (.int (0 : Int32)), .val (.int (1 : Int32)), .val (.int (0 : Int32)), .val (.int (0 : Int32))] []))
      refine go _ _ (fun t' k' => XS.iload X23.here hx rfl (hb hby at_128) rfl  k') ?_
      show G (T23.setTop (mkF m 130 #[.val (.int u0), .val (.int u1), .val (.int (0 : Int32)), .val (.ref r1), .val (.int (0 : Int32)), .val (.int (1 : Int32)), .val (.int (0 : Int32)), .val (.int (0 : Int32))] [(.int (0 : Int32))]))
      refine go _ _ (fun t' k' => XS.ifYes X23.here hx rfl (pc0 := 130) (pc' := 135) rfl (hb hby at_130) rfl (Free.XT.i0_eq_t (by decide)) (by decide) (by decide) k') ?_
      show G (T23.setTop (mkF m 135 #[.val (.int u0), .val (.int u1), .val (.int (0 : Int32)), .val (.ref r1), .val (.int (0 : Int32)), .val (.int (1 : Int32)), .val (.int (0 : Int32)), .val (.int (0 : Int32))] []))
      refine go _ _ (fun t' k' => XS.iload X23.here hx rfl (hb hby at_135) rfl  k') ?_
      show G (T23.setTop (mkF m 137 #[.val (.int u0), .val (.int u1), .val (.int (0 : Int32)), .val (.ref r1), .val (.int (0 : Int32)), .val (.int (1 : Int32)), .val (.int (0 : Int32)), .val (.int (0 : Int32))] [(.int (1 : Int32))]))
      refine go _ _ (fun t' k' => XS.iloadN X23.here hx rfl (hb hby at_137) rfl  k') ?_
      show G (T23.setTop (mkF m 138 #[.val (.int u0), .val (.int u1), .val (.int (0 : Int32)), .val (.ref r1), .val (.int (0 : Int32)), .val (.int (1 : Int32)), .val (.int (0 : Int32)), .val (.int (0 : Int32))] [(.int u0), (.int (1 : Int32))]))
      refine go _ _ (fun t' k' => XS.ifNo X23.here hx rfl (hb hby at_138) rfl (Free.XT.i0_ge_f c12) k') ?_
      show G (T23.setTop (mkF m 141 #[.val (.int u0), .val (.int u1), .val (.int (0 : Int32)), .val (.ref r1), .val (.int (0 : Int32)), .val (.int (1 : Int32)), .val (.int (0 : Int32)), .val (.int (0 : Int32))] [(.int (1 : Int32))]))
      refine go _ _ (fun t' k' => XS.iconst X23.here hx rfl (hb hby at_141) k') ?_
      show G (T23.setTop (mkF m 142 #[.val (.int u0), .val (.int u1), .val (.int (0 : Int32)), .val (.ref r1), .val (.int (0 : Int32)), .val (.int (1 : Int32)), .val (.int (0 : Int32)), .val (.int (0 : Int32))] [(.int (1 : Int32)), (.int (1 : Int32))]))
      refine go _ _ (fun t' k' => XS.goto X23.here hx rfl (pc0 := 142) (pc' := 146) rfl (hb hby at_142) (by decide) (by decide) k') ?_
      show G (T23.setTop (mkF m 146 #[.val (.int u0), .val (.int u1), .val (.int (0 : Int32)), .val (.ref r1), .val (.int (0 : Int32)), .val (.int (1 : Int32)), .val (.int (0 : Int32)), .val (.int (0 : Int32))] [(.int (1 : Int32)), (.int (1 : Int32))]))
      refine go _ _ (fun t' k' => XS.icmpNo X23.here hx rfl (hb hby at_146) rfl (Free.XT.ii_ne_f (by decide)) k') ?_
      show G (T23.setTop (mkF m 149 #[.val (.int u0), .val (.int u1), .val (.int (0 : Int32)), .val (.ref r1), .val (.int (0 : Int32)), .val (.int (1 : Int32)), .val (.int (0 : Int32)), .val (.int (0 : Int32))] []))
      refine go _ _ (fun t' k' => XS.iload X23.here hx rfl (hb hby at_149) rfl  k') ?_
      show G (T23.setTop (mkF m 151 #[.val (.int u0), .val (.int u1), .val (.int (0 : Int32)), .val (.ref r1), .val (.int (0 : Int32)), .val (.int (1 : Int32)), .val (.int (0 : Int32)), .val (.int (0 : Int32))] [(.int (0 : Int32))]))
      refine go _ _ (fun t' k' => XS.iloadN X23.here hx rfl (hb hby at_151) rfl  k') ?_
      show G (T23.setTop (mkF m 152 #[.val (.int u0), .val (.int u1), .val (.int (0 : Int32)), .val (.ref r1), .val (.int (0 : Int32)), .val (.int (1 : Int32)), .val (.int (0 : Int32)), .val (.int (0 : Int32))] [(.int u0), (.int (0 : Int32))]))
      refine go _ _ (fun t' k' => XS.ifYes X23.here hx rfl (pc0 := 152) (pc' := 159) rfl (hb hby at_152) rfl (Free.XT.i0_le_t z14) (by decide) (by decide) k') ?_
      show G (T23.setTop (mkF m 159 #[.val (.int u0), .val (.int u1), .val (.int (0 : Int32)), .val (.ref r1), .val (.int (0 : Int32)), .val (.int (1 : Int32)), .val (.int (0 : Int32)), .val (.int (0 : Int32))] [(.int (0 : Int32))]))
      refine go _ _ (fun t' k' => XS.iconst X23.here hx rfl (hb hby at_159) k') ?_
      show G (T23.setTop (mkF m 160 #[.val (.int u0), .val (.int u1), .val (.int (0 : Int32)), .val (.ref r1), .val (.int (0 : Int32)), .val (.int (1 : Int32)), .val (.int (0 : Int32)), .val (.int (0 : Int32))] [(.int (0 : Int32)), (.int (0 : Int32))]))
      refine go _ _ (fun t' k' => XS.icmpNo X23.here hx rfl (hb hby at_160) rfl (Free.XT.ii_ne_f (by decide)) k') ?_
      show G (T23.setTop (mkF m 163 #[.val (.int u0), .val (.int u1), .val (.int (0 : Int32)), .val (.ref r1), .val (.int (0 : Int32)), .val (.int (1 : Int32)), .val (.int (0 : Int32)), .val (.int (0 : Int32))] []))
      refine go _ _ (fun t' k' => XS.iload X23.here hx rfl (hb hby at_163) rfl  k') ?_
      show G (T23.setTop (mkF m 165 #[.val (.int u0), .val (.int u1), .val (.int (0 : Int32)), .val (.ref r1), .val (.int (0 : Int32)), .val (.int (1 : Int32)), .val (.int (0 : Int32)), .val (.int (0 : Int32))] [(.int (0 : Int32))]))
      refine go _ _ (fun t' k' => XS.iloadN X23.here hx rfl (hb hby at_165) rfl  k') ?_
      show G (T23.setTop (mkF m 166 #[.val (.int u0), .val (.int u1), .val (.int (0 : Int32)), .val (.ref r1), .val (.int (0 : Int32)), .val (.int (1 : Int32)), .val (.int (0 : Int32)), .val (.int (0 : Int32))] [(.int (0 : Int32)), (.int (0 : Int32))]))
      refine go _ _ (fun t' k' => XS.icmpNo X23.here hx rfl (hb hby at_166) rfl (Free.XT.ii_ne_f (by decide)) k') ?_
      show G (T23.setTop (mkF m 169 #[.val (.int u0), .val (.int u1), .val (.int (0 : Int32)), .val (.ref r1), .val (.int (0 : Int32)), .val (.int (1 : Int32)), .val (.int (0 : Int32)), .val (.int (0 : Int32))] []))
      refine go _ _ (fun t' k' => XS.iconst X23.here hx rfl (hb hby at_169) k') ?_
      show G (T23.setTop (mkF m 170 #[.val (.int u0), .val (.int u1), .val (.int (0 : Int32)), .val (.ref r1), .val (.int (0 : Int32)), .val (.int (1 : Int32)), .val (.int (0 : Int32)), .val (.int (0 : Int32))] [(.int (1 : Int32))]))
      refine go _ _ (fun t' k' => XS.goto X23.here hx rfl (pc0 := 170) (pc' := 174) rfl (hb hby at_170) (by decide) (by decide) k') ?_
      show G (T23.setTop (mkF m 174 #[.val (.int u0), .val (.int u1), .val (.int (0 : Int32)), .val (.ref r1), .val (.int (0 : Int32)), .val (.int (1 : Int32)), .val (.int (0 : Int32)), .val (.int (0 : Int32))] [(.int (1 : Int32))]))
      refine own_retZ rt X23 hx (t := .boolean) hret (by simp) (hb hby at_174) (by decide) (by decide) ?_
      exact ⟨rfl, N16⟩
    · by_cases c24 : (0 : Int32) < u0
      · have z25 : ¬ u0 = (0 : Int32) := fun z => absurd (z ▸ c24) (by decide)
        refine own_static go X0 hx hZ e0 hown (hw _ (List.mem_of_getElem? (i := 0) rfl)) (hw _ (List.mem_of_getElem? (i := 1) rfl)) (hw _ (List.mem_of_getElem? (i := 2) rfl)) (hw _ (List.mem_of_getElem? (i := 3) rfl)) (by decide) (rm1 l Z a0 hw u0 (0 : Int32) r1 r2 r3 r4 r5 h0 n0 Z0 S1 S2 S3 S4 S5) 0 (by decide) (by decide) (by decide) (by decide) (g := (mkF m 14 #[.val (.int u0), .val (.int u1), .val (.int (0 : Int32)), .unset, .unset, .unset, .unset, .unset] [(.int (0 : Int32)), (.int u0)])) rfl (by rw [hml]; rfl) [(.int u0), (.int (0 : Int32))] [] rfl (lenOf pd_0 rfl) rfl (by show 2 * 0 + _ ≤ _; exact Nat.le_of_eq rfl) (hb hby at_14) ?_
        intro T26 L26 v26 X26 q26
        obtain ⟨rfl, N26, hh26⟩ := q26
        have N27 := Fr.app N0 N26
        rw [show ofV r1 r2 r3 r4 r5 u0 (0 : Int32) = (.ref r2) from by simp [ofV, c11, c12, c24, z25]]
        show G (T26.setTop (mkF m 17 #[.val (.int u0), .val (.int u1), .val (.int (0 : Int32)), .unset, .unset, .unset, .unset, .unset] [(.ref r2)]))
        refine go _ _ (fun t' k' => XS.astoreN X26.here hx rfl (hb hby at_17) rfl rfl (l' := #[.val (.int u0), .val (.int u1), .val (.int (0 : Int32)), .val (.ref r2), .unset, .unset, .unset, .unset]) rfl k') ?_
        show G (T26.setTop (mkF m 18 #[.val (.int u0), .val (.int u1), .val (.int (0 : Int32)), .val (.ref r2), .unset, .unset, .unset, .unset] []))
        refine go _ _ (fun t' k' => XS.aloadN X26.here hx rfl (hb hby at_18) rfl rfl  k') ?_
        show G (T26.setTop (mkF m 19 #[.val (.int u0), .val (.int u1), .val (.int (0 : Int32)), .val (.ref r2), .unset, .unset, .unset, .unset] [(.ref r2)]))
        refine go _ _ (fun t' k' => XS.ifnonnullYes X26.here hx rfl (pc0 := 19) (pc' := 26) rfl (hb hby at_19) rfl (by decide) (by decide) k') ?_
        show G (T26.setTop (mkF m 26 #[.val (.int u0), .val (.int u1), .val (.int (0 : Int32)), .val (.ref r2), .unset, .unset, .unset, .unset] []))
        refine go _ _ (fun t' k' => XS.iconst X26.here hx rfl (hb hby at_26) k') ?_
        show G (T26.setTop (mkF m 27 #[.val (.int u0), .val (.int u1), .val (.int (0 : Int32)), .val (.ref r2), .unset, .unset, .unset, .unset] [(.int (0 : Int32))]))
        refine go _ _ (fun t' k' => XS.istore X26.here hx rfl (hb hby at_27) rfl (l' := #[.val (.int u0), .val (.int u1), .val (.int (0 : Int32)), .val (.ref r2), .val (.int (0 : Int32)), .unset, .unset, .unset]) rfl k') ?_
        show G (T26.setTop (mkF m 29 #[.val (.int u0), .val (.int u1), .val (.int (0 : Int32)), .val (.ref r2), .val (.int (0 : Int32)), .unset, .unset, .unset] []))
        refine go _ _ (fun t' k' => XS.aloadN X26.here hx rfl (hb hby at_29) rfl rfl  k') ?_
        show G (T26.setTop (mkF m 30 #[.val (.int u0), .val (.int u1), .val (.int (0 : Int32)), .val (.ref r2), .val (.int (0 : Int32)), .unset, .unset, .unset] [(.ref r2)]))
        obtain ⟨T28, X28, e28, st28⟩ := getS X26 hx hZ hown (host := "") (hw _ (List.mem_of_getElem? (i := 6) rfl)) Via.refl hh26 S1 (g := (mkF m 30 #[.val (.int u0), .val (.int u1), .val (.int (0 : Int32)), .val (.ref r2), .val (.int (0 : Int32)), .unset, .unset, .unset] [(.ref r2)])) rfl (hb hby at_30)
        refine go _ _ st28 ?_
        show G (T28.setTop (mkF m 33 #[.val (.int u0), .val (.int u1), .val (.int (0 : Int32)), .val (.ref r2), .val (.int (0 : Int32)), .unset, .unset, .unset] [(.ref r1), (.ref r2)]))
        refine go _ _ (fun t' k' => Jvm.RoadKit.acmp (g := (mkF m 33 #[.val (.int u0), .val (.int u1), .val (.int (0 : Int32)), .val (.ref r2), .val (.int (0 : Int32)), .unset, .unset, .unset] [(.ref r1), (.ref r2)])) X28 hx rfl (x := (.ref r2)) (y := (.ref r1)) rfl rfl (rest := []) (pc0 := 33) (pc' := 36) (same := false) rfl (hb hby at_33) rfl (decide_eq_false (fun z => (Ne.symm n12) (Value.ref.inj z))) (by decide) (by decide) k') ?_
        show G (T28.setTop (mkF m 36 #[.val (.int u0), .val (.int u1), .val (.int (0 : Int32)), .val (.ref r2), .val (.int (0 : Int32)), .unset, .unset, .unset] []))
        refine go _ _ (fun t' k' => XS.aloadN X28.here hx rfl (hb hby at_36) rfl rfl  k') ?_
        show G (T28.setTop (mkF m 37 #[.val (.int u0), .val (.int u1), .val (.int (0 : Int32)), .val (.ref r2), .val (.int (0 : Int32)), .unset, .unset, .unset] [(.ref r2)]))
        obtain ⟨T29, X29, e29, st29⟩ := getS X28 hx hZ hown (host := "") (hw _ (List.mem_of_getElem? (i := 8) rfl)) Via.refl e28 S4 (g := (mkF m 37 #[.val (.int u0), .val (.int u1), .val (.int (0 : Int32)), .val (.ref r2), .val (.int (0 : Int32)), .unset, .unset, .unset] [(.ref r2)])) rfl (hb hby at_37)
        refine go _ _ st29 ?_
        show G (T29.setTop (mkF m 40 #[.val (.int u0), .val (.int u1), .val (.int (0 : Int32)), .val (.ref r2), .val (.int (0 : Int32)), .unset, .unset, .unset] [(.ref r4), (.ref r2)]))
        refine go _ _ (fun t' k' => Jvm.RoadKit.acmp (g := (mkF m 40 #[.val (.int u0), .val (.int u1), .val (.int (0 : Int32)), .val (.ref r2), .val (.int (0 : Int32)), .unset, .unset, .unset] [(.ref r4), (.ref r2)])) X29 hx rfl (x := (.ref r2)) (y := (.ref r4)) rfl rfl (rest := []) (pc0 := 40) (pc' := 47) (same := false) rfl (hb hby at_40) rfl (decide_eq_false (fun z => n24 (Value.ref.inj z))) (by decide) (by decide) k') ?_
        show G (T29.setTop (mkF m 47 #[.val (.int u0), .val (.int u1), .val (.int (0 : Int32)), .val (.ref r2), .val (.int (0 : Int32)), .unset, .unset, .unset] []))
        refine go _ _ (fun t' k' => XS.iconst X29.here hx rfl (hb hby at_47) k') ?_
        show G (T29.setTop (mkF m 48 #[.val (.int u0), .val (.int u1), .val (.int (0 : Int32)), .val (.ref r2), .val (.int (0 : Int32)), .unset, .unset, .unset] [(.int (0 : Int32))]))
        refine go _ _ (fun t' k' => XS.istore X29.here hx rfl (hb hby at_48) rfl (l' := #[.val (.int u0), .val (.int u1), .val (.int (0 : Int32)), .val (.ref r2), .val (.int (0 : Int32)), .val (.int (0 : Int32)), .unset, .unset]) rfl k') ?_
        show G (T29.setTop (mkF m 50 #[.val (.int u0), .val (.int u1), .val (.int (0 : Int32)), .val (.ref r2), .val (.int (0 : Int32)), .val (.int (0 : Int32)), .unset, .unset] []))
        refine go _ _ (fun t' k' => XS.aloadN X29.here hx rfl (hb hby at_50) rfl rfl  k') ?_
        show G (T29.setTop (mkF m 51 #[.val (.int u0), .val (.int u1), .val (.int (0 : Int32)), .val (.ref r2), .val (.int (0 : Int32)), .val (.int (0 : Int32)), .unset, .unset] [(.ref r2)]))
        obtain ⟨T30, X30, e30, st30⟩ := getS X29 hx hZ hown (host := "") (hw _ (List.mem_of_getElem? (i := 10) rfl)) Via.refl e29 S2 (g := (mkF m 51 #[.val (.int u0), .val (.int u1), .val (.int (0 : Int32)), .val (.ref r2), .val (.int (0 : Int32)), .val (.int (0 : Int32)), .unset, .unset] [(.ref r2)])) rfl (hb hby at_51)
        refine go _ _ st30 ?_
        show G (T30.setTop (mkF m 54 #[.val (.int u0), .val (.int u1), .val (.int (0 : Int32)), .val (.ref r2), .val (.int (0 : Int32)), .val (.int (0 : Int32)), .unset, .unset] [(.ref r2), (.ref r2)]))
        refine go _ _ (fun t' k' => Jvm.RoadKit.acmp (g := (mkF m 54 #[.val (.int u0), .val (.int u1), .val (.int (0 : Int32)), .val (.ref r2), .val (.int (0 : Int32)), .val (.int (0 : Int32)), .unset, .unset] [(.ref r2), (.ref r2)])) X30 hx rfl (x := (.ref r2)) (y := (.ref r2)) rfl rfl (rest := []) (pc0 := 54) (pc' := 64) (same := true) rfl (hb hby at_54) rfl (decide_eq_true rfl) (by decide) (by decide) k') ?_
        show G (T30.setTop (mkF m 64 #[.val (.int u0), .val (.int u1), .val (.int (0 : Int32)), .val (.ref r2), .val (.int (0 : Int32)), .val (.int (0 : Int32)), .unset, .unset] []))
        refine go _ _ (fun t' k' => XS.iconst X30.here hx rfl (hb hby at_64) k') ?_
        show G (T30.setTop (mkF m 65 #[.val (.int u0), .val (.int u1), .val (.int (0 : Int32)), .val (.ref r2), .val (.int (0 : Int32)), .val (.int (0 : Int32)), .unset, .unset] [(.int (1 : Int32))]))
        refine go _ _ (fun t' k' => XS.goto X30.here hx rfl (pc0 := 65) (pc' := 69) rfl (hb hby at_65) (by decide) (by decide) k') ?_
        show G (T30.setTop (mkF m 69 #[.val (.int u0), .val (.int u1), .val (.int (0 : Int32)), .val (.ref r2), .val (.int (0 : Int32)), .val (.int (0 : Int32)), .unset, .unset] [(.int (1 : Int32))]))
        refine go _ _ (fun t' k' => XS.istore X30.here hx rfl (hb hby at_69) rfl (l' := #[.val (.int u0), .val (.int u1), .val (.int (0 : Int32)), .val (.ref r2), .val (.int (0 : Int32)), .val (.int (0 : Int32)), .val (.int (1 : Int32)), .unset]) rfl k') ?_
        show G (T30.setTop (mkF m 71 #[.val (.int u0), .val (.int u1), .val (.int (0 : Int32)), .val (.ref r2), .val (.int (0 : Int32)), .val (.int (0 : Int32)), .val (.int (1 : Int32)), .unset] []))
        refine go _ _ (fun t' k' => XS.aloadN X30.here hx rfl (hb hby at_71) rfl rfl  k') ?_
        show G (T30.setTop (mkF m 72 #[.val (.int u0), .val (.int u1), .val (.int (0 : Int32)), .val (.ref r2), .val (.int (0 : Int32)), .val (.int (0 : Int32)), .val (.int (1 : Int32)), .unset] [(.ref r2)]))
        obtain ⟨T31, X31, e31, st31⟩ := getS X30 hx hZ hown (host := "") (hw _ (List.mem_of_getElem? (i := 14) rfl)) Via.refl e30 S3 (g := (mkF m 72 #[.val (.int u0), .val (.int u1), .val (.int (0 : Int32)), .val (.ref r2), .val (.int (0 : Int32)), .val (.int (0 : Int32)), .val (.int (1 : Int32)), .unset] [(.ref r2)])) rfl (hb hby at_72)
        refine go _ _ st31 ?_
        show G (T31.setTop (mkF m 75 #[.val (.int u0), .val (.int u1), .val (.int (0 : Int32)), .val (.ref r2), .val (.int (0 : Int32)), .val (.int (0 : Int32)), .val (.int (1 : Int32)), .unset] [(.ref r3), (.ref r2)]))
        refine go _ _ (fun t' k' => Jvm.RoadKit.acmp (g := (mkF m 75 #[.val (.int u0), .val (.int u1), .val (.int (0 : Int32)), .val (.ref r2), .val (.int (0 : Int32)), .val (.int (0 : Int32)), .val (.int (1 : Int32)), .unset] [(.ref r3), (.ref r2)])) X31 hx rfl (x := (.ref r2)) (y := (.ref r3)) rfl rfl (rest := []) (pc0 := 75) (pc' := 78) (same := false) rfl (hb hby at_75) rfl (decide_eq_false (fun z => n23 (Value.ref.inj z))) (by decide) (by decide) k') ?_
        show G (T31.setTop (mkF m 78 #[.val (.int u0), .val (.int u1), .val (.int (0 : Int32)), .val (.ref r2), .val (.int (0 : Int32)), .val (.int (0 : Int32)), .val (.int (1 : Int32)), .unset] []))
        refine go _ _ (fun t' k' => XS.aloadN X31.here hx rfl (hb hby at_78) rfl rfl  k') ?_
        show G (T31.setTop (mkF m 79 #[.val (.int u0), .val (.int u1), .val (.int (0 : Int32)), .val (.ref r2), .val (.int (0 : Int32)), .val (.int (0 : Int32)), .val (.int (1 : Int32)), .unset] [(.ref r2)]))
        obtain ⟨T32, X32, e32, st32⟩ := getS X31 hx hZ hown (host := "") (hw _ (List.mem_of_getElem? (i := 8) rfl)) Via.refl e31 S4 (g := (mkF m 79 #[.val (.int u0), .val (.int u1), .val (.int (0 : Int32)), .val (.ref r2), .val (.int (0 : Int32)), .val (.int (0 : Int32)), .val (.int (1 : Int32)), .unset] [(.ref r2)])) rfl (hb hby at_79)
        refine go _ _ st32 ?_
        show G (T32.setTop (mkF m 82 #[.val (.int u0), .val (.int u1), .val (.int (0 : Int32)), .val (.ref r2), .val (.int (0 : Int32)), .val (.int (0 : Int32)), .val (.int (1 : Int32)), .unset] [(.ref r4), (.ref r2)]))
        refine go _ _ (fun t' k' => Jvm.RoadKit.acmp (g := (mkF m 82 #[.val (.int u0), .val (.int u1), .val (.int (0 : Int32)), .val (.ref r2), .val (.int (0 : Int32)), .val (.int (0 : Int32)), .val (.int (1 : Int32)), .unset] [(.ref r4), (.ref r2)])) X32 hx rfl (x := (.ref r2)) (y := (.ref r4)) rfl rfl (rest := []) (pc0 := 82) (pc' := 85) (same := false) rfl (hb hby at_82) rfl (decide_eq_false (fun z => n24 (Value.ref.inj z))) (by decide) (by decide) k') ?_
        show G (T32.setTop (mkF m 85 #[.val (.int u0), .val (.int u1), .val (.int (0 : Int32)), .val (.ref r2), .val (.int (0 : Int32)), .val (.int (0 : Int32)), .val (.int (1 : Int32)), .unset] []))
        refine go _ _ (fun t' k' => XS.aloadN X32.here hx rfl (hb hby at_85) rfl rfl  k') ?_
        show G (T32.setTop (mkF m 86 #[.val (.int u0), .val (.int u1), .val (.int (0 : Int32)), .val (.ref r2), .val (.int (0 : Int32)), .val (.int (0 : Int32)), .val (.int (1 : Int32)), .unset] [(.ref r2)]))
        obtain ⟨T33, X33, e33, st33⟩ := getS X32 hx hZ hown (host := "") (hw _ (List.mem_of_getElem? (i := 12) rfl)) Via.refl e32 S5 (g := (mkF m 86 #[.val (.int u0), .val (.int u1), .val (.int (0 : Int32)), .val (.ref r2), .val (.int (0 : Int32)), .val (.int (0 : Int32)), .val (.int (1 : Int32)), .unset] [(.ref r2)])) rfl (hb hby at_86)
        refine go _ _ st33 ?_
        show G (T33.setTop (mkF m 89 #[.val (.int u0), .val (.int u1), .val (.int (0 : Int32)), .val (.ref r2), .val (.int (0 : Int32)), .val (.int (0 : Int32)), .val (.int (1 : Int32)), .unset] [(.ref r5), (.ref r2)]))
        refine go _ _ (fun t' k' => Jvm.RoadKit.acmp (g := (mkF m 89 #[.val (.int u0), .val (.int u1), .val (.int (0 : Int32)), .val (.ref r2), .val (.int (0 : Int32)), .val (.int (0 : Int32)), .val (.int (1 : Int32)), .unset] [(.ref r5), (.ref r2)])) X33 hx rfl (x := (.ref r2)) (y := (.ref r5)) rfl rfl (rest := []) (pc0 := 89) (pc' := 96) (same := false) rfl (hb hby at_89) rfl (decide_eq_false (fun z => n25 (Value.ref.inj z))) (by decide) (by decide) k') ?_
        show G (T33.setTop (mkF m 96 #[.val (.int u0), .val (.int u1), .val (.int (0 : Int32)), .val (.ref r2), .val (.int (0 : Int32)), .val (.int (0 : Int32)), .val (.int (1 : Int32)), .unset] []))
        refine go _ _ (fun t' k' => XS.iconst X33.here hx rfl (hb hby at_96) k') ?_
        show G (T33.setTop (mkF m 97 #[.val (.int u0), .val (.int u1), .val (.int (0 : Int32)), .val (.ref r2), .val (.int (0 : Int32)), .val (.int (0 : Int32)), .val (.int (1 : Int32)), .unset] [(.int (0 : Int32))]))
        refine go _ _ (fun t' k' => XS.istore X33.here hx rfl (hb hby at_97) rfl (l' := #[.val (.int u0), .val (.int u1), .val (.int (0 : Int32)), .val (.ref r2), .val (.int (0 : Int32)), .val (.int (0 : Int32)), .val (.int (1 : Int32)), .val (.int (0 : Int32))]) rfl k') ?_
        show G (T33.setTop (mkF m 99 #[.val (.int u0), .val (.int u1), .val (.int (0 : Int32)), .val (.ref r2), .val (.int (0 : Int32)), .val (.int (0 : Int32)), .val (.int (1 : Int32)), .val (.int (0 : Int32))] []))
        refine go _ _ (fun t' k' => XS.iload X33.here hx rfl (hb hby at_99) rfl  k') ?_
        show G (T33.setTop (mkF m 101 #[.val (.int u0), .val (.int u1), .val (.int (0 : Int32)), .val (.ref r2), .val (.int (0 : Int32)), .val (.int (0 : Int32)), .val (.int (1 : Int32)), .val (.int (0 : Int32))] [(.int (0 : Int32))]))
        refine go _ _ (fun t' k' => XS.iloadN X33.here hx rfl (hb hby at_101) rfl  k') ?_
        show G (T33.setTop (mkF m 102 #[.val (.int u0), .val (.int u1), .val (.int (0 : Int32)), .val (.ref r2), .val (.int (0 : Int32)), .val (.int (0 : Int32)), .val (.int (1 : Int32)), .val (.int (0 : Int32))] [(.int u0), (.int (0 : Int32))]))
        refine go _ _ (fun t' k' => XS.ifYes X33.here hx rfl (pc0 := 102) (pc' := 113) rfl (hb hby at_102) rfl (Free.XT.i0_ne_t z25) (by decide) (by decide) k') ?_
        show G (T33.setTop (mkF m 113 #[.val (.int u0), .val (.int u1), .val (.int (0 : Int32)), .val (.ref r2), .val (.int (0 : Int32)), .val (.int (0 : Int32)), .val (.int (1 : Int32)), .val (.int (0 : Int32))] [(.int (0 : Int32))]))
        refine go _ _ (fun t' k' => XS.iconst X33.here hx rfl (hb hby at_113) k') ?_
        show G (T33.setTop (mkF m 114 #[.val (.int u0), .val (.int u1), .val (.int (0 : Int32)), .val (.ref r2), .val (.int (0 : Int32)), .val (.int (0 : Int32)), .val (.int (1 : Int32)), .val (.int (0 : Int32))] [(.int (0 : Int32)), (.int (0 : Int32))]))
        refine go _ _ (fun t' k' => XS.icmpYes X33.here hx rfl (pc0 := 114) (pc' := 119) rfl (hb hby at_114) rfl (Free.XT.ii_eq_t (by decide)) (by decide) (by decide) k') ?_
        show G (T33.setTop (mkF m 119 #[.val (.int u0), .val (.int u1), .val (.int (0 : Int32)), .val (.ref r2), .val (.int (0 : Int32)), .val (.int (0 : Int32)), .val (.int (1 : Int32)), .val (.int (0 : Int32))] []))
        refine go _ _ (fun t' k' => XS.aloadN X33.here hx rfl (hb hby at_119) rfl rfl  k') ?_
        show G (T33.setTop (mkF m 120 #[.val (.int u0), .val (.int u1), .val (.int (0 : Int32)), .val (.ref r2), .val (.int (0 : Int32)), .val (.int (0 : Int32)), .val (.int (1 : Int32)), .val (.int (0 : Int32))] [(.ref r2)]))
        obtain ⟨T34, X34, e34, st34⟩ := getS X33 hx hZ hown (host := "") (hw _ (List.mem_of_getElem? (i := 15) rfl)) Via.refl e33 S0 (g := (mkF m 120 #[.val (.int u0), .val (.int u1), .val (.int (0 : Int32)), .val (.ref r2), .val (.int (0 : Int32)), .val (.int (0 : Int32)), .val (.int (1 : Int32)), .val (.int (0 : Int32))] [(.ref r2)])) rfl (hb hby at_120)
        refine go _ _ st34 ?_
        show G (T34.setTop (mkF m 123 #[.val (.int u0), .val (.int u1), .val (.int (0 : Int32)), .val (.ref r2), .val (.int (0 : Int32)), .val (.int (0 : Int32)), .val (.int (1 : Int32)), .val (.int (0 : Int32))] [(.ref r0), (.ref r2)]))
        refine go _ _ (fun t' k' => Jvm.RoadKit.acmp (g := (mkF m 123 #[.val (.int u0), .val (.int u1), .val (.int (0 : Int32)), .val (.ref r2), .val (.int (0 : Int32)), .val (.int (0 : Int32)), .val (.int (1 : Int32)), .val (.int (0 : Int32))] [(.ref r0), (.ref r2)])) X34 hx rfl (x := (.ref r2)) (y := (.ref r0)) rfl rfl (rest := []) (pc0 := 123) (pc' := 128) (same := false) rfl (hb hby at_123) rfl (decide_eq_false (fun z => (Ne.symm n02) (Value.ref.inj z))) (by decide) (by decide) k') ?_
        show G (T34.setTop (mkF m 128 #[.val (.int u0), .val (.int u1), .val (.int (0 : Int32)), .val (.ref r2), .val (.int (0 : Int32)), .val (.int (0 : Int32)), .val (.int (1 : Int32)), .val (.int (0 : Int32))] []))
        refine go _ _ (fun t' k' => XS.iload X34.here hx rfl (hb hby at_128) rfl  k') ?_
        show G (T34.setTop (mkF m 130 #[.val (.int u0), .val (.int u1), .val (.int (0 : Int32)), .val (.ref r2), .val (.int (0 : Int32)), .val (.int (0 : Int32)), .val (.int (1 : Int32)), .val (.int (0 : Int32))] [(.int (0 : Int32))]))
        refine go _ _ (fun t' k' => XS.ifYes X34.here hx rfl (pc0 := 130) (pc' := 135) rfl (hb hby at_130) rfl (Free.XT.i0_eq_t (by decide)) (by decide) (by decide) k') ?_
        show G (T34.setTop (mkF m 135 #[.val (.int u0), .val (.int u1), .val (.int (0 : Int32)), .val (.ref r2), .val (.int (0 : Int32)), .val (.int (0 : Int32)), .val (.int (1 : Int32)), .val (.int (0 : Int32))] []))
        refine go _ _ (fun t' k' => XS.iload X34.here hx rfl (hb hby at_135) rfl  k') ?_
        show G (T34.setTop (mkF m 137 #[.val (.int u0), .val (.int u1), .val (.int (0 : Int32)), .val (.ref r2), .val (.int (0 : Int32)), .val (.int (0 : Int32)), .val (.int (1 : Int32)), .val (.int (0 : Int32))] [(.int (0 : Int32))]))
        refine go _ _ (fun t' k' => XS.iloadN X34.here hx rfl (hb hby at_137) rfl  k') ?_
        show G (T34.setTop (mkF m 138 #[.val (.int u0), .val (.int u1), .val (.int (0 : Int32)), .val (.ref r2), .val (.int (0 : Int32)), .val (.int (0 : Int32)), .val (.int (1 : Int32)), .val (.int (0 : Int32))] [(.int u0), (.int (0 : Int32))]))
        refine go _ _ (fun t' k' => XS.ifYes X34.here hx rfl (pc0 := 138) (pc' := 145) rfl (hb hby at_138) rfl (Free.XT.i0_ge_t c12) (by decide) (by decide) k') ?_
        show G (T34.setTop (mkF m 145 #[.val (.int u0), .val (.int u1), .val (.int (0 : Int32)), .val (.ref r2), .val (.int (0 : Int32)), .val (.int (0 : Int32)), .val (.int (1 : Int32)), .val (.int (0 : Int32))] [(.int (0 : Int32))]))
        refine go _ _ (fun t' k' => XS.iconst X34.here hx rfl (hb hby at_145) k') ?_
        show G (T34.setTop (mkF m 146 #[.val (.int u0), .val (.int u1), .val (.int (0 : Int32)), .val (.ref r2), .val (.int (0 : Int32)), .val (.int (0 : Int32)), .val (.int (1 : Int32)), .val (.int (0 : Int32))] [(.int (0 : Int32)), (.int (0 : Int32))]))
        refine go _ _ (fun t' k' => XS.icmpNo X34.here hx rfl (hb hby at_146) rfl (Free.XT.ii_ne_f (by decide)) k') ?_
        show G (T34.setTop (mkF m 149 #[.val (.int u0), .val (.int u1), .val (.int (0 : Int32)), .val (.ref r2), .val (.int (0 : Int32)), .val (.int (0 : Int32)), .val (.int (1 : Int32)), .val (.int (0 : Int32))] []))
        refine go _ _ (fun t' k' => XS.iload X34.here hx rfl (hb hby at_149) rfl  k') ?_
        show G (T34.setTop (mkF m 151 #[.val (.int u0), .val (.int u1), .val (.int (0 : Int32)), .val (.ref r2), .val (.int (0 : Int32)), .val (.int (0 : Int32)), .val (.int (1 : Int32)), .val (.int (0 : Int32))] [(.int (1 : Int32))]))
        refine go _ _ (fun t' k' => XS.iloadN X34.here hx rfl (hb hby at_151) rfl  k') ?_
        show G (T34.setTop (mkF m 152 #[.val (.int u0), .val (.int u1), .val (.int (0 : Int32)), .val (.ref r2), .val (.int (0 : Int32)), .val (.int (0 : Int32)), .val (.int (1 : Int32)), .val (.int (0 : Int32))] [(.int u0), (.int (1 : Int32))]))
        refine go _ _ (fun t' k' => XS.ifNo X34.here hx rfl (hb hby at_152) rfl (Free.XT.i0_le_f c24) k') ?_
        show G (T34.setTop (mkF m 155 #[.val (.int u0), .val (.int u1), .val (.int (0 : Int32)), .val (.ref r2), .val (.int (0 : Int32)), .val (.int (0 : Int32)), .val (.int (1 : Int32)), .val (.int (0 : Int32))] [(.int (1 : Int32))]))
        refine go _ _ (fun t' k' => XS.iconst X34.here hx rfl (hb hby at_155) k') ?_
        show G (T34.setTop (mkF m 156 #[.val (.int u0), .val (.int u1), .val (.int (0 : Int32)), .val (.ref r2), .val (.int (0 : Int32)), .val (.int (0 : Int32)), .val (.int (1 : Int32)), .val (.int (0 : Int32))] [(.int (1 : Int32)), (.int (1 : Int32))]))
        refine go _ _ (fun t' k' => XS.goto X34.here hx rfl (pc0 := 156) (pc' := 160) rfl (hb hby at_156) (by decide) (by decide) k') ?_
        show G (T34.setTop (mkF m 160 #[.val (.int u0), .val (.int u1), .val (.int (0 : Int32)), .val (.ref r2), .val (.int (0 : Int32)), .val (.int (0 : Int32)), .val (.int (1 : Int32)), .val (.int (0 : Int32))] [(.int (1 : Int32)), (.int (1 : Int32))]))
        refine go _ _ (fun t' k' => XS.icmpNo X34.here hx rfl (hb hby at_160) rfl (Free.XT.ii_ne_f (by decide)) k') ?_
        show G (T34.setTop (mkF m 163 #[.val (.int u0), .val (.int u1), .val (.int (0 : Int32)), .val (.ref r2), .val (.int (0 : Int32)), .val (.int (0 : Int32)), .val (.int (1 : Int32)), .val (.int (0 : Int32))] []))
        refine go _ _ (fun t' k' => XS.iload X34.here hx rfl (hb hby at_163) rfl  k') ?_
        show G (T34.setTop (mkF m 165 #[.val (.int u0), .val (.int u1), .val (.int (0 : Int32)), .val (.ref r2), .val (.int (0 : Int32)), .val (.int (0 : Int32)), .val (.int (1 : Int32)), .val (.int (0 : Int32))] [(.int (0 : Int32))]))
        refine go _ _ (fun t' k' => XS.iloadN X34.here hx rfl (hb hby at_165) rfl  k') ?_
        show G (T34.setTop (mkF m 166 #[.val (.int u0), .val (.int u1), .val (.int (0 : Int32)), .val (.ref r2), .val (.int (0 : Int32)), .val (.int (0 : Int32)), .val (.int (1 : Int32)), .val (.int (0 : Int32))] [(.int (0 : Int32)), (.int (0 : Int32))]))
        refine go _ _ (fun t' k' => XS.icmpNo X34.here hx rfl (hb hby at_166) rfl (Free.XT.ii_ne_f (by decide)) k') ?_
        show G (T34.setTop (mkF m 169 #[.val (.int u0), .val (.int u1), .val (.int (0 : Int32)), .val (.ref r2), .val (.int (0 : Int32)), .val (.int (0 : Int32)), .val (.int (1 : Int32)), .val (.int (0 : Int32))] []))
        refine go _ _ (fun t' k' => XS.iconst X34.here hx rfl (hb hby at_169) k') ?_
        show G (T34.setTop (mkF m 170 #[.val (.int u0), .val (.int u1), .val (.int (0 : Int32)), .val (.ref r2), .val (.int (0 : Int32)), .val (.int (0 : Int32)), .val (.int (1 : Int32)), .val (.int (0 : Int32))] [(.int (1 : Int32))]))
        refine go _ _ (fun t' k' => XS.goto X34.here hx rfl (pc0 := 170) (pc' := 174) rfl (hb hby at_170) (by decide) (by decide) k') ?_
        show G (T34.setTop (mkF m 174 #[.val (.int u0), .val (.int u1), .val (.int (0 : Int32)), .val (.ref r2), .val (.int (0 : Int32)), .val (.int (0 : Int32)), .val (.int (1 : Int32)), .val (.int (0 : Int32))] [(.int (1 : Int32))]))
        refine own_retZ rt X34 hx (t := .boolean) hret (by simp) (hb hby at_174) (by decide) (by decide) ?_
        exact ⟨rfl, N27⟩
      · have z35 : u0 = (0 : Int32) := Int32.le_antisymm (Int32.not_lt.mp c24) (Int32.not_lt.mp c12)
        refine own_static go X0 hx hZ e0 hown (hw _ (List.mem_of_getElem? (i := 0) rfl)) (hw _ (List.mem_of_getElem? (i := 1) rfl)) (hw _ (List.mem_of_getElem? (i := 2) rfl)) (hw _ (List.mem_of_getElem? (i := 3) rfl)) (by decide) (rm1 l Z a0 hw u0 (0 : Int32) r1 r2 r3 r4 r5 h0 n0 Z0 S1 S2 S3 S4 S5) 0 (by decide) (by decide) (by decide) (by decide) (g := (mkF m 14 #[.val (.int u0), .val (.int u1), .val (.int (0 : Int32)), .unset, .unset, .unset, .unset, .unset] [(.int (0 : Int32)), (.int u0)])) rfl (by rw [hml]; rfl) [(.int u0), (.int (0 : Int32))] [] rfl (lenOf pd_0 rfl) rfl (by show 2 * 0 + _ ≤ _; exact Nat.le_of_eq rfl) (hb hby at_14) ?_
        intro T36 L36 v36 X36 q36
        obtain ⟨rfl, N36, hh36⟩ := q36
        have N37 := Fr.app N0 N36
        rw [show ofV r1 r2 r3 r4 r5 u0 (0 : Int32) = .null from by simp [ofV, c11, c12, c24, z35]]
        show G (T36.setTop (mkF m 17 #[.val (.int u0), .val (.int u1), .val (.int (0 : Int32)), .unset, .unset, .unset, .unset, .unset] [.null]))
        refine go _ _ (fun t' k' => XS.astoreN X36.here hx rfl (hb hby at_17) rfl rfl (l' := #[.val (.int u0), .val (.int u1), .val (.int (0 : Int32)), .val .null, .unset, .unset, .unset, .unset]) rfl k') ?_
        show G (T36.setTop (mkF m 18 #[.val (.int u0), .val (.int u1), .val (.int (0 : Int32)), .val .null, .unset, .unset, .unset, .unset] []))
        refine go _ _ (fun t' k' => XS.aloadN X36.here hx rfl (hb hby at_18) rfl rfl  k') ?_
        show G (T36.setTop (mkF m 19 #[.val (.int u0), .val (.int u1), .val (.int (0 : Int32)), .val .null, .unset, .unset, .unset, .unset] [.null]))
        refine go _ _ (fun t' k' => XS.ifnonnullNo X36.here hx rfl (hb hby at_19) rfl k') ?_
        show G (T36.setTop (mkF m 22 #[.val (.int u0), .val (.int u1), .val (.int (0 : Int32)), .val .null, .unset, .unset, .unset, .unset] []))
        refine go _ _ (fun t' k' => XS.iconst X36.here hx rfl (hb hby at_22) k') ?_
        show G (T36.setTop (mkF m 23 #[.val (.int u0), .val (.int u1), .val (.int (0 : Int32)), .val .null, .unset, .unset, .unset, .unset] [(.int (1 : Int32))]))
        refine go _ _ (fun t' k' => XS.goto X36.here hx rfl (pc0 := 23) (pc' := 27) rfl (hb hby at_23) (by decide) (by decide) k') ?_
        show G (T36.setTop (mkF m 27 #[.val (.int u0), .val (.int u1), .val (.int (0 : Int32)), .val .null, .unset, .unset, .unset, .unset] [(.int (1 : Int32))]))
        refine go _ _ (fun t' k' => XS.istore X36.here hx rfl (hb hby at_27) rfl (l' := #[.val (.int u0), .val (.int u1), .val (.int (0 : Int32)), .val .null, .val (.int (1 : Int32)), .unset, .unset, .unset]) rfl k') ?_
        show G (T36.setTop (mkF m 29 #[.val (.int u0), .val (.int u1), .val (.int (0 : Int32)), .val .null, .val (.int (1 : Int32)), .unset, .unset, .unset] []))
        refine go _ _ (fun t' k' => XS.aloadN X36.here hx rfl (hb hby at_29) rfl rfl  k') ?_
        show G (T36.setTop (mkF m 30 #[.val (.int u0), .val (.int u1), .val (.int (0 : Int32)), .val .null, .val (.int (1 : Int32)), .unset, .unset, .unset] [.null]))
        obtain ⟨T38, X38, e38, st38⟩ := getS X36 hx hZ hown (host := "") (hw _ (List.mem_of_getElem? (i := 6) rfl)) Via.refl hh36 S1 (g := (mkF m 30 #[.val (.int u0), .val (.int u1), .val (.int (0 : Int32)), .val .null, .val (.int (1 : Int32)), .unset, .unset, .unset] [.null])) rfl (hb hby at_30)
        refine go _ _ st38 ?_
        show G (T38.setTop (mkF m 33 #[.val (.int u0), .val (.int u1), .val (.int (0 : Int32)), .val .null, .val (.int (1 : Int32)), .unset, .unset, .unset] [(.ref r1), .null]))
        refine go _ _ (fun t' k' => Jvm.RoadKit.acmp (g := (mkF m 33 #[.val (.int u0), .val (.int u1), .val (.int (0 : Int32)), .val .null, .val (.int (1 : Int32)), .unset, .unset, .unset] [(.ref r1), .null])) X38 hx rfl (x := .null) (y := (.ref r1)) rfl rfl (rest := []) (pc0 := 33) (pc' := 36) (same := false) rfl (hb hby at_33) rfl (decide_eq_false (fun z => nomatch z)) (by decide) (by decide) k') ?_
        show G (T38.setTop (mkF m 36 #[.val (.int u0), .val (.int u1), .val (.int (0 : Int32)), .val .null, .val (.int (1 : Int32)), .unset, .unset, .unset] []))
        refine go _ _ (fun t' k' => XS.aloadN X38.here hx rfl (hb hby at_36) rfl rfl  k') ?_
        show G (T38.setTop (mkF m 37 #[.val (.int u0), .val (.int u1), .val (.int (0 : Int32)), .val .null, .val (.int (1 : Int32)), .unset, .unset, .unset] [.null]))
        obtain ⟨T39, X39, e39, st39⟩ := getS X38 hx hZ hown (host := "") (hw _ (List.mem_of_getElem? (i := 8) rfl)) Via.refl e38 S4 (g := (mkF m 37 #[.val (.int u0), .val (.int u1), .val (.int (0 : Int32)), .val .null, .val (.int (1 : Int32)), .unset, .unset, .unset] [.null])) rfl (hb hby at_37)
        refine go _ _ st39 ?_
        show G (T39.setTop (mkF m 40 #[.val (.int u0), .val (.int u1), .val (.int (0 : Int32)), .val .null, .val (.int (1 : Int32)), .unset, .unset, .unset] [(.ref r4), .null]))
        refine go _ _ (fun t' k' => Jvm.RoadKit.acmp (g := (mkF m 40 #[.val (.int u0), .val (.int u1), .val (.int (0 : Int32)), .val .null, .val (.int (1 : Int32)), .unset, .unset, .unset] [(.ref r4), .null])) X39 hx rfl (x := .null) (y := (.ref r4)) rfl rfl (rest := []) (pc0 := 40) (pc' := 47) (same := false) rfl (hb hby at_40) rfl (decide_eq_false (fun z => nomatch z)) (by decide) (by decide) k') ?_
        show G (T39.setTop (mkF m 47 #[.val (.int u0), .val (.int u1), .val (.int (0 : Int32)), .val .null, .val (.int (1 : Int32)), .unset, .unset, .unset] []))
        refine go _ _ (fun t' k' => XS.iconst X39.here hx rfl (hb hby at_47) k') ?_
        show G (T39.setTop (mkF m 48 #[.val (.int u0), .val (.int u1), .val (.int (0 : Int32)), .val .null, .val (.int (1 : Int32)), .unset, .unset, .unset] [(.int (0 : Int32))]))
        refine go _ _ (fun t' k' => XS.istore X39.here hx rfl (hb hby at_48) rfl (l' := #[.val (.int u0), .val (.int u1), .val (.int (0 : Int32)), .val .null, .val (.int (1 : Int32)), .val (.int (0 : Int32)), .unset, .unset]) rfl k') ?_
        show G (T39.setTop (mkF m 50 #[.val (.int u0), .val (.int u1), .val (.int (0 : Int32)), .val .null, .val (.int (1 : Int32)), .val (.int (0 : Int32)), .unset, .unset] []))
        refine go _ _ (fun t' k' => XS.aloadN X39.here hx rfl (hb hby at_50) rfl rfl  k') ?_
        show G (T39.setTop (mkF m 51 #[.val (.int u0), .val (.int u1), .val (.int (0 : Int32)), .val .null, .val (.int (1 : Int32)), .val (.int (0 : Int32)), .unset, .unset] [.null]))
        obtain ⟨T40, X40, e40, st40⟩ := getS X39 hx hZ hown (host := "") (hw _ (List.mem_of_getElem? (i := 10) rfl)) Via.refl e39 S2 (g := (mkF m 51 #[.val (.int u0), .val (.int u1), .val (.int (0 : Int32)), .val .null, .val (.int (1 : Int32)), .val (.int (0 : Int32)), .unset, .unset] [.null])) rfl (hb hby at_51)
        refine go _ _ st40 ?_
        show G (T40.setTop (mkF m 54 #[.val (.int u0), .val (.int u1), .val (.int (0 : Int32)), .val .null, .val (.int (1 : Int32)), .val (.int (0 : Int32)), .unset, .unset] [(.ref r2), .null]))
        refine go _ _ (fun t' k' => Jvm.RoadKit.acmp (g := (mkF m 54 #[.val (.int u0), .val (.int u1), .val (.int (0 : Int32)), .val .null, .val (.int (1 : Int32)), .val (.int (0 : Int32)), .unset, .unset] [(.ref r2), .null])) X40 hx rfl (x := .null) (y := (.ref r2)) rfl rfl (rest := []) (pc0 := 54) (pc' := 57) (same := false) rfl (hb hby at_54) rfl (decide_eq_false (fun z => nomatch z)) (by decide) (by decide) k') ?_
        show G (T40.setTop (mkF m 57 #[.val (.int u0), .val (.int u1), .val (.int (0 : Int32)), .val .null, .val (.int (1 : Int32)), .val (.int (0 : Int32)), .unset, .unset] []))
        refine go _ _ (fun t' k' => XS.aloadN X40.here hx rfl (hb hby at_57) rfl rfl  k') ?_
        show G (T40.setTop (mkF m 58 #[.val (.int u0), .val (.int u1), .val (.int (0 : Int32)), .val .null, .val (.int (1 : Int32)), .val (.int (0 : Int32)), .unset, .unset] [.null]))
        obtain ⟨T41, X41, e41, st41⟩ := getS X40 hx hZ hown (host := "") (hw _ (List.mem_of_getElem? (i := 12) rfl)) Via.refl e40 S5 (g := (mkF m 58 #[.val (.int u0), .val (.int u1), .val (.int (0 : Int32)), .val .null, .val (.int (1 : Int32)), .val (.int (0 : Int32)), .unset, .unset] [.null])) rfl (hb hby at_58)
        refine go _ _ st41 ?_
        show G (T41.setTop (mkF m 61 #[.val (.int u0), .val (.int u1), .val (.int (0 : Int32)), .val .null, .val (.int (1 : Int32)), .val (.int (0 : Int32)), .unset, .unset] [(.ref r5), .null]))
        refine go _ _ (fun t' k' => Jvm.RoadKit.acmp (g := (mkF m 61 #[.val (.int u0), .val (.int u1), .val (.int (0 : Int32)), .val .null, .val (.int (1 : Int32)), .val (.int (0 : Int32)), .unset, .unset] [(.ref r5), .null])) X41 hx rfl (x := .null) (y := (.ref r5)) rfl rfl (rest := []) (pc0 := 61) (pc' := 68) (same := false) rfl (hb hby at_61) rfl (decide_eq_false (fun z => nomatch z)) (by decide) (by decide) k') ?_
        show G (T41.setTop (mkF m 68 #[.val (.int u0), .val (.int u1), .val (.int (0 : Int32)), .val .null, .val (.int (1 : Int32)), .val (.int (0 : Int32)), .unset, .unset] []))
        refine go _ _ (fun t' k' => XS.iconst X41.here hx rfl (hb hby at_68) k') ?_
        show G (T41.setTop (mkF m 69 #[.val (.int u0), .val (.int u1), .val (.int (0 : Int32)), .val .null, .val (.int (1 : Int32)), .val (.int (0 : Int32)), .unset, .unset] [(.int (0 : Int32))]))
        refine go _ _ (fun t' k' => XS.istore X41.here hx rfl (hb hby at_69) rfl (l' := #[.val (.int u0), .val (.int u1), .val (.int (0 : Int32)), .val .null, .val (.int (1 : Int32)), .val (.int (0 : Int32)), .val (.int (0 : Int32)), .unset]) rfl k') ?_
        show G (T41.setTop (mkF m 71 #[.val (.int u0), .val (.int u1), .val (.int (0 : Int32)), .val .null, .val (.int (1 : Int32)), .val (.int (0 : Int32)), .val (.int (0 : Int32)), .unset] []))
        refine go _ _ (fun t' k' => XS.aloadN X41.here hx rfl (hb hby at_71) rfl rfl  k') ?_
        show G (T41.setTop (mkF m 72 #[.val (.int u0), .val (.int u1), .val (.int (0 : Int32)), .val .null, .val (.int (1 : Int32)), .val (.int (0 : Int32)), .val (.int (0 : Int32)), .unset] [.null]))
        obtain ⟨T42, X42, e42, st42⟩ := getS X41 hx hZ hown (host := "") (hw _ (List.mem_of_getElem? (i := 14) rfl)) Via.refl e41 S3 (g := (mkF m 72 #[.val (.int u0), .val (.int u1), .val (.int (0 : Int32)), .val .null, .val (.int (1 : Int32)), .val (.int (0 : Int32)), .val (.int (0 : Int32)), .unset] [.null])) rfl (hb hby at_72)
        refine go _ _ st42 ?_
        show G (T42.setTop (mkF m 75 #[.val (.int u0), .val (.int u1), .val (.int (0 : Int32)), .val .null, .val (.int (1 : Int32)), .val (.int (0 : Int32)), .val (.int (0 : Int32)), .unset] [(.ref r3), .null]))
        refine go _ _ (fun t' k' => Jvm.RoadKit.acmp (g := (mkF m 75 #[.val (.int u0), .val (.int u1), .val (.int (0 : Int32)), .val .null, .val (.int (1 : Int32)), .val (.int (0 : Int32)), .val (.int (0 : Int32)), .unset] [(.ref r3), .null])) X42 hx rfl (x := .null) (y := (.ref r3)) rfl rfl (rest := []) (pc0 := 75) (pc' := 78) (same := false) rfl (hb hby at_75) rfl (decide_eq_false (fun z => nomatch z)) (by decide) (by decide) k') ?_
        show G (T42.setTop (mkF m 78 #[.val (.int u0), .val (.int u1), .val (.int (0 : Int32)), .val .null, .val (.int (1 : Int32)), .val (.int (0 : Int32)), .val (.int (0 : Int32)), .unset] []))
        refine go _ _ (fun t' k' => XS.aloadN X42.here hx rfl (hb hby at_78) rfl rfl  k') ?_
        show G (T42.setTop (mkF m 79 #[.val (.int u0), .val (.int u1), .val (.int (0 : Int32)), .val .null, .val (.int (1 : Int32)), .val (.int (0 : Int32)), .val (.int (0 : Int32)), .unset] [.null]))
        obtain ⟨T43, X43, e43, st43⟩ := getS X42 hx hZ hown (host := "") (hw _ (List.mem_of_getElem? (i := 8) rfl)) Via.refl e42 S4 (g := (mkF m 79 #[.val (.int u0), .val (.int u1), .val (.int (0 : Int32)), .val .null, .val (.int (1 : Int32)), .val (.int (0 : Int32)), .val (.int (0 : Int32)), .unset] [.null])) rfl (hb hby at_79)
        refine go _ _ st43 ?_
        show G (T43.setTop (mkF m 82 #[.val (.int u0), .val (.int u1), .val (.int (0 : Int32)), .val .null, .val (.int (1 : Int32)), .val (.int (0 : Int32)), .val (.int (0 : Int32)), .unset] [(.ref r4), .null]))
        refine go _ _ (fun t' k' => Jvm.RoadKit.acmp (g := (mkF m 82 #[.val (.int u0), .val (.int u1), .val (.int (0 : Int32)), .val .null, .val (.int (1 : Int32)), .val (.int (0 : Int32)), .val (.int (0 : Int32)), .unset] [(.ref r4), .null])) X43 hx rfl (x := .null) (y := (.ref r4)) rfl rfl (rest := []) (pc0 := 82) (pc' := 85) (same := false) rfl (hb hby at_82) rfl (decide_eq_false (fun z => nomatch z)) (by decide) (by decide) k') ?_
        show G (T43.setTop (mkF m 85 #[.val (.int u0), .val (.int u1), .val (.int (0 : Int32)), .val .null, .val (.int (1 : Int32)), .val (.int (0 : Int32)), .val (.int (0 : Int32)), .unset] []))
        refine go _ _ (fun t' k' => XS.aloadN X43.here hx rfl (hb hby at_85) rfl rfl  k') ?_
        show G (T43.setTop (mkF m 86 #[.val (.int u0), .val (.int u1), .val (.int (0 : Int32)), .val .null, .val (.int (1 : Int32)), .val (.int (0 : Int32)), .val (.int (0 : Int32)), .unset] [.null]))
        obtain ⟨T44, X44, e44, st44⟩ := getS X43 hx hZ hown (host := "") (hw _ (List.mem_of_getElem? (i := 12) rfl)) Via.refl e43 S5 (g := (mkF m 86 #[.val (.int u0), .val (.int u1), .val (.int (0 : Int32)), .val .null, .val (.int (1 : Int32)), .val (.int (0 : Int32)), .val (.int (0 : Int32)), .unset] [.null])) rfl (hb hby at_86)
        refine go _ _ st44 ?_
        show G (T44.setTop (mkF m 89 #[.val (.int u0), .val (.int u1), .val (.int (0 : Int32)), .val .null, .val (.int (1 : Int32)), .val (.int (0 : Int32)), .val (.int (0 : Int32)), .unset] [(.ref r5), .null]))
        refine go _ _ (fun t' k' => Jvm.RoadKit.acmp (g := (mkF m 89 #[.val (.int u0), .val (.int u1), .val (.int (0 : Int32)), .val .null, .val (.int (1 : Int32)), .val (.int (0 : Int32)), .val (.int (0 : Int32)), .unset] [(.ref r5), .null])) X44 hx rfl (x := .null) (y := (.ref r5)) rfl rfl (rest := []) (pc0 := 89) (pc' := 96) (same := false) rfl (hb hby at_89) rfl (decide_eq_false (fun z => nomatch z)) (by decide) (by decide) k') ?_
        show G (T44.setTop (mkF m 96 #[.val (.int u0), .val (.int u1), .val (.int (0 : Int32)), .val .null, .val (.int (1 : Int32)), .val (.int (0 : Int32)), .val (.int (0 : Int32)), .unset] []))
        refine go _ _ (fun t' k' => XS.iconst X44.here hx rfl (hb hby at_96) k') ?_
        show G (T44.setTop (mkF m 97 #[.val (.int u0), .val (.int u1), .val (.int (0 : Int32)), .val .null, .val (.int (1 : Int32)), .val (.int (0 : Int32)), .val (.int (0 : Int32)), .unset] [(.int (0 : Int32))]))
        refine go _ _ (fun t' k' => XS.istore X44.here hx rfl (hb hby at_97) rfl (l' := #[.val (.int u0), .val (.int u1), .val (.int (0 : Int32)), .val .null, .val (.int (1 : Int32)), .val (.int (0 : Int32)), .val (.int (0 : Int32)), .val (.int (0 : Int32))]) rfl k') ?_
        show G (T44.setTop (mkF m 99 #[.val (.int u0), .val (.int u1), .val (.int (0 : Int32)), .val .null, .val (.int (1 : Int32)), .val (.int (0 : Int32)), .val (.int (0 : Int32)), .val (.int (0 : Int32))] []))
        refine go _ _ (fun t' k' => XS.iload X44.here hx rfl (hb hby at_99) rfl  k') ?_
        show G (T44.setTop (mkF m 101 #[.val (.int u0), .val (.int u1), .val (.int (0 : Int32)), .val .null, .val (.int (1 : Int32)), .val (.int (0 : Int32)), .val (.int (0 : Int32)), .val (.int (0 : Int32))] [(.int (1 : Int32))]))
        refine go _ _ (fun t' k' => XS.iloadN X44.here hx rfl (hb hby at_101) rfl  k') ?_
        show G (T44.setTop (mkF m 102 #[.val (.int u0), .val (.int u1), .val (.int (0 : Int32)), .val .null, .val (.int (1 : Int32)), .val (.int (0 : Int32)), .val (.int (0 : Int32)), .val (.int (0 : Int32))] [(.int u0), (.int (1 : Int32))]))
        refine go _ _ (fun t' k' => XS.ifNo X44.here hx rfl (hb hby at_102) rfl (Free.XT.i0_ne_f z35) k') ?_
        show G (T44.setTop (mkF m 105 #[.val (.int u0), .val (.int u1), .val (.int (0 : Int32)), .val .null, .val (.int (1 : Int32)), .val (.int (0 : Int32)), .val (.int (0 : Int32)), .val (.int (0 : Int32))] [(.int (1 : Int32))]))
        refine go _ _ (fun t' k' => XS.iloadN X44.here hx rfl (hb hby at_105) rfl  k') ?_
        show G (T44.setTop (mkF m 106 #[.val (.int u0), .val (.int u1), .val (.int (0 : Int32)), .val .null, .val (.int (1 : Int32)), .val (.int (0 : Int32)), .val (.int (0 : Int32)), .val (.int (0 : Int32))] [(.int (0 : Int32)), (.int (1 : Int32))]))
        refine go _ _ (fun t' k' => XS.ifNo X44.here hx rfl (hb hby at_106) rfl (Free.XT.i0_ne_f (by decide)) k') ?_
        show G (T44.setTop (mkF m 109 #[.val (.int u0), .val (.int u1), .val (.int (0 : Int32)), .val .null, .val (.int (1 : Int32)), .val (.int (0 : Int32)), .val (.int (0 : Int32)), .val (.int (0 : Int32))] [(.int (1 : Int32))]))
        refine go _ _ (fun t' k' => XS.iconst X44.here hx rfl (hb hby at_109) k') ?_
        show G (T44.setTop (mkF m 110 #[.val (.int u0), .val (.int u1), .val (.int (0 : Int32)), .val .null, .val (.int (1 : Int32)), .val (.int (0 : Int32)), .val (.int (0 : Int32)), .val (.int (0 : Int32))] [(.int (1 : Int32)), (.int (1 : Int32))]))
        refine go _ _ (fun t' k' => XS.goto X44.here hx rfl (pc0 := 110) (pc' := 114) rfl (hb hby at_110) (by decide) (by decide) k') ?_
        show G (T44.setTop (mkF m 114 #[.val (.int u0), .val (.int u1), .val (.int (0 : Int32)), .val .null, .val (.int (1 : Int32)), .val (.int (0 : Int32)), .val (.int (0 : Int32)), .val (.int (0 : Int32))] [(.int (1 : Int32)), (.int (1 : Int32))]))
        refine go _ _ (fun t' k' => XS.icmpYes X44.here hx rfl (pc0 := 114) (pc' := 119) rfl (hb hby at_114) rfl (Free.XT.ii_eq_t (by decide)) (by decide) (by decide) k') ?_
        show G (T44.setTop (mkF m 119 #[.val (.int u0), .val (.int u1), .val (.int (0 : Int32)), .val .null, .val (.int (1 : Int32)), .val (.int (0 : Int32)), .val (.int (0 : Int32)), .val (.int (0 : Int32))] []))
        refine go _ _ (fun t' k' => XS.aloadN X44.here hx rfl (hb hby at_119) rfl rfl  k') ?_
        show G (T44.setTop (mkF m 120 #[.val (.int u0), .val (.int u1), .val (.int (0 : Int32)), .val .null, .val (.int (1 : Int32)), .val (.int (0 : Int32)), .val (.int (0 : Int32)), .val (.int (0 : Int32))] [.null]))
        obtain ⟨T45, X45, e45, st45⟩ := getS X44 hx hZ hown (host := "") (hw _ (List.mem_of_getElem? (i := 15) rfl)) Via.refl e44 S0 (g := (mkF m 120 #[.val (.int u0), .val (.int u1), .val (.int (0 : Int32)), .val .null, .val (.int (1 : Int32)), .val (.int (0 : Int32)), .val (.int (0 : Int32)), .val (.int (0 : Int32))] [.null])) rfl (hb hby at_120)
        refine go _ _ st45 ?_
        show G (T45.setTop (mkF m 123 #[.val (.int u0), .val (.int u1), .val (.int (0 : Int32)), .val .null, .val (.int (1 : Int32)), .val (.int (0 : Int32)), .val (.int (0 : Int32)), .val (.int (0 : Int32))] [(.ref r0), .null]))
        refine go _ _ (fun t' k' => Jvm.RoadKit.acmp (g := (mkF m 123 #[.val (.int u0), .val (.int u1), .val (.int (0 : Int32)), .val .null, .val (.int (1 : Int32)), .val (.int (0 : Int32)), .val (.int (0 : Int32)), .val (.int (0 : Int32))] [(.ref r0), .null])) X45 hx rfl (x := .null) (y := (.ref r0)) rfl rfl (rest := []) (pc0 := 123) (pc' := 128) (same := false) rfl (hb hby at_123) rfl (decide_eq_false (fun z => nomatch z)) (by decide) (by decide) k') ?_
        show G (T45.setTop (mkF m 128 #[.val (.int u0), .val (.int u1), .val (.int (0 : Int32)), .val .null, .val (.int (1 : Int32)), .val (.int (0 : Int32)), .val (.int (0 : Int32)), .val (.int (0 : Int32))] []))
        refine go _ _ (fun t' k' => XS.iload X45.here hx rfl (hb hby at_128) rfl  k') ?_
        show G (T45.setTop (mkF m 130 #[.val (.int u0), .val (.int u1), .val (.int (0 : Int32)), .val .null, .val (.int (1 : Int32)), .val (.int (0 : Int32)), .val (.int (0 : Int32)), .val (.int (0 : Int32))] [(.int (1 : Int32))]))
        refine go _ _ (fun t' k' => XS.ifNo X45.here hx rfl (hb hby at_130) rfl (Free.XT.i0_eq_f (by decide)) k') ?_
        show G (T45.setTop (mkF m 133 #[.val (.int u0), .val (.int u1), .val (.int (0 : Int32)), .val .null, .val (.int (1 : Int32)), .val (.int (0 : Int32)), .val (.int (0 : Int32)), .val (.int (0 : Int32))] []))
        refine go _ _ (fun t' k' => XS.iconst X45.here hx rfl (hb hby at_133) k') ?_
        show G (T45.setTop (mkF m 134 #[.val (.int u0), .val (.int u1), .val (.int (0 : Int32)), .val .null, .val (.int (1 : Int32)), .val (.int (0 : Int32)), .val (.int (0 : Int32)), .val (.int (0 : Int32))] [(.int (1 : Int32))]))
        refine own_retZ rt X45 hx (t := .boolean) hret (by simp) (hb hby at_134) (by decide) (by decide) ?_
        exact ⟨rfl, N37⟩
  · refine go _ _ (fun t' k' => XS.ifNo X0.here hx rfl (hb hby at_3) rfl (Free.XT.i0_eq_f c11) k') ?_
    show G (s₁.setTop (mkF m 6 #[.val (.int u0), .val (.int u1), .unset, .unset, .unset, .unset, .unset, .unset] []))
    refine go _ _ (fun t' k' => XS.iconst X0.here hx rfl (hb hby at_6) k') ?_
    show G (s₁.setTop (mkF m 7 #[.val (.int u0), .val (.int u1), .unset, .unset, .unset, .unset, .unset, .unset] [(.int (1 : Int32))]))
    refine go _ _ (fun t' k' => XS.goto X0.here hx rfl (pc0 := 7) (pc' := 11) rfl (hb hby at_7) (by decide) (by decide) k') ?_
    show G (s₁.setTop (mkF m 11 #[.val (.int u0), .val (.int u1), .unset, .unset, .unset, .unset, .unset, .unset] [(.int (1 : Int32))]))
    refine go _ _ (fun t' k' => XS.istoreN X0.here hx rfl (hb hby at_11) rfl (l' := #[.val (.int u0), .val (.int u1), .val (.int (1 : Int32)), .unset, .unset, .unset, .unset, .unset]) rfl k') ?_
    show G (s₁.setTop (mkF m 12 #[.val (.int u0), .val (.int u1), .val (.int (1 : Int32)), .unset, .unset, .unset, .unset, .unset] []))
    refine go _ _ (fun t' k' => XS.iloadN X0.here hx rfl (hb hby at_12) rfl  k') ?_
    show G (s₁.setTop (mkF m 13 #[.val (.int u0), .val (.int u1), .val (.int (1 : Int32)), .unset, .unset, .unset, .unset, .unset] [(.int u0)]))
    refine go _ _ (fun t' k' => XS.iloadN X0.here hx rfl (hb hby at_13) rfl  k') ?_
    show G (s₁.setTop (mkF m 14 #[.val (.int u0), .val (.int u1), .val (.int (1 : Int32)), .unset, .unset, .unset, .unset, .unset] [(.int (1 : Int32)), (.int u0)]))
    by_cases c46 : u0 < (0 : Int32)
    · have z47 : ¬ u0 = (0 : Int32) := fun z => absurd (z ▸ c46) (by decide)
      have z48 : ¬ (0 : Int32) < u0 := fun z => Int32.lt_irrefl (Int32.lt_trans z c46)
      refine own_static go X0 hx hZ e0 hown (hw _ (List.mem_of_getElem? (i := 0) rfl)) (hw _ (List.mem_of_getElem? (i := 1) rfl)) (hw _ (List.mem_of_getElem? (i := 2) rfl)) (hw _ (List.mem_of_getElem? (i := 3) rfl)) (by decide) (rm1 l Z a0 hw u0 (1 : Int32) r1 r2 r3 r4 r5 h0 n0 Z0 S1 S2 S3 S4 S5) 0 (by decide) (by decide) (by decide) (by decide) (g := (mkF m 14 #[.val (.int u0), .val (.int u1), .val (.int (1 : Int32)), .unset, .unset, .unset, .unset, .unset] [(.int (1 : Int32)), (.int u0)])) rfl (by rw [hml]; rfl) [(.int u0), (.int (1 : Int32))] [] rfl (lenOf pd_0 rfl) rfl (by show 2 * 0 + _ ≤ _; exact Nat.le_of_eq rfl) (hb hby at_14) ?_
      intro T49 L49 v49 X49 q49
      obtain ⟨rfl, N49, hh49⟩ := q49
      have N50 := Fr.app N0 N49
      rw [show ofV r1 r2 r3 r4 r5 u0 (1 : Int32) = (.ref r4) from by simp [ofV, c11, c46, z47, z48]]
      show G (T49.setTop (mkF m 17 #[.val (.int u0), .val (.int u1), .val (.int (1 : Int32)), .unset, .unset, .unset, .unset, .unset] [(.ref r4)]))
      refine go _ _ (fun t' k' => XS.astoreN X49.here hx rfl (hb hby at_17) rfl rfl (l' := #[.val (.int u0), .val (.int u1), .val (.int (1 : Int32)), .val (.ref r4), .unset, .unset, .unset, .unset]) rfl k') ?_
      show G (T49.setTop (mkF m 18 #[.val (.int u0), .val (.int u1), .val (.int (1 : Int32)), .val (.ref r4), .unset, .unset, .unset, .unset] []))
      refine go _ _ (fun t' k' => XS.aloadN X49.here hx rfl (hb hby at_18) rfl rfl  k') ?_
      show G (T49.setTop (mkF m 19 #[.val (.int u0), .val (.int u1), .val (.int (1 : Int32)), .val (.ref r4), .unset, .unset, .unset, .unset] [(.ref r4)]))
      refine go _ _ (fun t' k' => XS.ifnonnullYes X49.here hx rfl (pc0 := 19) (pc' := 26) rfl (hb hby at_19) rfl (by decide) (by decide) k') ?_
      show G (T49.setTop (mkF m 26 #[.val (.int u0), .val (.int u1), .val (.int (1 : Int32)), .val (.ref r4), .unset, .unset, .unset, .unset] []))
      refine go _ _ (fun t' k' => XS.iconst X49.here hx rfl (hb hby at_26) k') ?_
      show G (T49.setTop (mkF m 27 #[.val (.int u0), .val (.int u1), .val (.int (1 : Int32)), .val (.ref r4), .unset, .unset, .unset, .unset] [(.int (0 : Int32))]))
      refine go _ _ (fun t' k' => XS.istore X49.here hx rfl (hb hby at_27) rfl (l' := #[.val (.int u0), .val (.int u1), .val (.int (1 : Int32)), .val (.ref r4), .val (.int (0 : Int32)), .unset, .unset, .unset]) rfl k') ?_
      show G (T49.setTop (mkF m 29 #[.val (.int u0), .val (.int u1), .val (.int (1 : Int32)), .val (.ref r4), .val (.int (0 : Int32)), .unset, .unset, .unset] []))
      refine go _ _ (fun t' k' => XS.aloadN X49.here hx rfl (hb hby at_29) rfl rfl  k') ?_
      show G (T49.setTop (mkF m 30 #[.val (.int u0), .val (.int u1), .val (.int (1 : Int32)), .val (.ref r4), .val (.int (0 : Int32)), .unset, .unset, .unset] [(.ref r4)]))
      obtain ⟨T51, X51, e51, st51⟩ := getS X49 hx hZ hown (host := "") (hw _ (List.mem_of_getElem? (i := 6) rfl)) Via.refl hh49 S1 (g := (mkF m 30 #[.val (.int u0), .val (.int u1), .val (.int (1 : Int32)), .val (.ref r4), .val (.int (0 : Int32)), .unset, .unset, .unset] [(.ref r4)])) rfl (hb hby at_30)
      refine go _ _ st51 ?_
      show G (T51.setTop (mkF m 33 #[.val (.int u0), .val (.int u1), .val (.int (1 : Int32)), .val (.ref r4), .val (.int (0 : Int32)), .unset, .unset, .unset] [(.ref r1), (.ref r4)]))
      refine go _ _ (fun t' k' => Jvm.RoadKit.acmp (g := (mkF m 33 #[.val (.int u0), .val (.int u1), .val (.int (1 : Int32)), .val (.ref r4), .val (.int (0 : Int32)), .unset, .unset, .unset] [(.ref r1), (.ref r4)])) X51 hx rfl (x := (.ref r4)) (y := (.ref r1)) rfl rfl (rest := []) (pc0 := 33) (pc' := 36) (same := false) rfl (hb hby at_33) rfl (decide_eq_false (fun z => (Ne.symm n14) (Value.ref.inj z))) (by decide) (by decide) k') ?_
      show G (T51.setTop (mkF m 36 #[.val (.int u0), .val (.int u1), .val (.int (1 : Int32)), .val (.ref r4), .val (.int (0 : Int32)), .unset, .unset, .unset] []))
      refine go _ _ (fun t' k' => XS.aloadN X51.here hx rfl (hb hby at_36) rfl rfl  k') ?_
      show G (T51.setTop (mkF m 37 #[.val (.int u0), .val (.int u1), .val (.int (1 : Int32)), .val (.ref r4), .val (.int (0 : Int32)), .unset, .unset, .unset] [(.ref r4)]))
      obtain ⟨T52, X52, e52, st52⟩ := getS X51 hx hZ hown (host := "") (hw _ (List.mem_of_getElem? (i := 8) rfl)) Via.refl e51 S4 (g := (mkF m 37 #[.val (.int u0), .val (.int u1), .val (.int (1 : Int32)), .val (.ref r4), .val (.int (0 : Int32)), .unset, .unset, .unset] [(.ref r4)])) rfl (hb hby at_37)
      refine go _ _ st52 ?_
      show G (T52.setTop (mkF m 40 #[.val (.int u0), .val (.int u1), .val (.int (1 : Int32)), .val (.ref r4), .val (.int (0 : Int32)), .unset, .unset, .unset] [(.ref r4), (.ref r4)]))
      refine go _ _ (fun t' k' => Jvm.RoadKit.acmp (g := (mkF m 40 #[.val (.int u0), .val (.int u1), .val (.int (1 : Int32)), .val (.ref r4), .val (.int (0 : Int32)), .unset, .unset, .unset] [(.ref r4), (.ref r4)])) X52 hx rfl (x := (.ref r4)) (y := (.ref r4)) rfl rfl (rest := []) (pc0 := 40) (pc' := 43) (same := true) rfl (hb hby at_40) rfl (decide_eq_true rfl) (by decide) (by decide) k') ?_
      show G (T52.setTop (mkF m 43 #[.val (.int u0), .val (.int u1), .val (.int (1 : Int32)), .val (.ref r4), .val (.int (0 : Int32)), .unset, .unset, .unset] []))
      refine go _ _ (fun t' k' => XS.iconst X52.here hx rfl (hb hby at_43) k') ?_
      show G (T52.setTop (mkF m 44 #[.val (.int u0), .val (.int u1), .val (.int (1 : Int32)), .val (.ref r4), .val (.int (0 : Int32)), .unset, .unset, .unset] [(.int (1 : Int32))]))
      refine go _ _ (fun t' k' => XS.goto X52.here hx rfl (pc0 := 44) (pc' := 48) rfl (hb hby at_44) (by decide) (by decide) k') ?_
      show G (T52.setTop (mkF m 48 #[.val (.int u0), .val (.int u1), .val (.int (1 : Int32)), .val (.ref r4), .val (.int (0 : Int32)), .unset, .unset, .unset] [(.int (1 : Int32))]))
      refine go _ _ (fun t' k' => XS.istore X52.here hx rfl (hb hby at_48) rfl (l' := #[.val (.int u0), .val (.int u1), .val (.int (1 : Int32)), .val (.ref r4), .val (.int (0 : Int32)), .val (.int (1 : Int32)), .unset, .unset]) rfl k') ?_
      show G (T52.setTop (mkF m 50 #[.val (.int u0), .val (.int u1), .val (.int (1 : Int32)), .val (.ref r4), .val (.int (0 : Int32)), .val (.int (1 : Int32)), .unset, .unset] []))
      refine go _ _ (fun t' k' => XS.aloadN X52.here hx rfl (hb hby at_50) rfl rfl  k') ?_
      show G (T52.setTop (mkF m 51 #[.val (.int u0), .val (.int u1), .val (.int (1 : Int32)), .val (.ref r4), .val (.int (0 : Int32)), .val (.int (1 : Int32)), .unset, .unset] [(.ref r4)]))
      obtain ⟨T53, X53, e53, st53⟩ := getS X52 hx hZ hown (host := "") (hw _ (List.mem_of_getElem? (i := 10) rfl)) Via.refl e52 S2 (g := (mkF m 51 #[.val (.int u0), .val (.int u1), .val (.int (1 : Int32)), .val (.ref r4), .val (.int (0 : Int32)), .val (.int (1 : Int32)), .unset, .unset] [(.ref r4)])) rfl (hb hby at_51)
      refine go _ _ st53 ?_
      show G (T53.setTop (mkF m 54 #[.val (.int u0), .val (.int u1), .val (.int (1 : Int32)), .val (.ref r4), .val (.int (0 : Int32)), .val (.int (1 : Int32)), .unset, .unset] [(.ref r2), (.ref r4)]))
      refine go _ _ (fun t' k' => Jvm.RoadKit.acmp (g := (mkF m 54 #[.val (.int u0), .val (.int u1), .val (.int (1 : Int32)), .val (.ref r4), .val (.int (0 : Int32)), .val (.int (1 : Int32)), .unset, .unset] [(.ref r2), (.ref r4)])) X53 hx rfl (x := (.ref r4)) (y := (.ref r2)) rfl rfl (rest := []) (pc0 := 54) (pc' := 57) (same := false) rfl (hb hby at_54) rfl (decide_eq_false (fun z => (Ne.symm n24) (Value.ref.inj z))) (by decide) (by decide) k') ?_
      show G (T53.setTop (mkF m 57 #[.val (.int u0), .val (.int u1), .val (.int (1 : Int32)), .val (.ref r4), .val (.int (0 : Int32)), .val (.int (1 : Int32)), .unset, .unset] []))
      refine go _ _ (fun t' k' => XS.aloadN X53.here hx rfl (hb hby at_57) rfl rfl  k') ?_
      show G (T53.setTop (mkF m 58 #[.val (.int u0), .val (.int u1), .val (.int (1 : Int32)), .val (.ref r4), .val (.int (0 : Int32)), .val (.int (1 : Int32)), .unset, .unset] [(.ref r4)]))
      obtain ⟨T54, X54, e54, st54⟩ := getS X53 hx hZ hown (host := "") (hw _ (List.mem_of_getElem? (i := 12) rfl)) Via.refl e53 S5 (g := (mkF m 58 #[.val (.int u0), .val (.int u1), .val (.int (1 : Int32)), .val (.ref r4), .val (.int (0 : Int32)), .val (.int (1 : Int32)), .unset, .unset] [(.ref r4)])) rfl (hb hby at_58)
      refine go _ _ st54 ?_
      show G (T54.setTop (mkF m 61 #[.val (.int u0), .val (.int u1), .val (.int (1 : Int32)), .val (.ref r4), .val (.int (0 : Int32)), .val (.int (1 : Int32)), .unset, .unset] [(.ref r5), (.ref r4)]))
      refine go _ _ (fun t' k' => Jvm.RoadKit.acmp (g := (mkF m 61 #[.val (.int u0), .val (.int u1), .val (.int (1 : Int32)), .val (.ref r4), .val (.int (0 : Int32)), .val (.int (1 : Int32)), .unset, .unset] [(.ref r5), (.ref r4)])) X54 hx rfl (x := (.ref r4)) (y := (.ref r5)) rfl rfl (rest := []) (pc0 := 61) (pc' := 68) (same := false) rfl (hb hby at_61) rfl (decide_eq_false (fun z => n45 (Value.ref.inj z))) (by decide) (by decide) k') ?_
      show G (T54.setTop (mkF m 68 #[.val (.int u0), .val (.int u1), .val (.int (1 : Int32)), .val (.ref r4), .val (.int (0 : Int32)), .val (.int (1 : Int32)), .unset, .unset] []))
      refine go _ _ (fun t' k' => XS.iconst X54.here hx rfl (hb hby at_68) k') ?_
      show G (T54.setTop (mkF m 69 #[.val (.int u0), .val (.int u1), .val (.int (1 : Int32)), .val (.ref r4), .val (.int (0 : Int32)), .val (.int (1 : Int32)), .unset, .unset] [(.int (0 : Int32))]))
      refine go _ _ (fun t' k' => XS.istore X54.here hx rfl (hb hby at_69) rfl (l' := #[.val (.int u0), .val (.int u1), .val (.int (1 : Int32)), .val (.ref r4), .val (.int (0 : Int32)), .val (.int (1 : Int32)), .val (.int (0 : Int32)), .unset]) rfl k') ?_
      show G (T54.setTop (mkF m 71 #[.val (.int u0), .val (.int u1), .val (.int (1 : Int32)), .val (.ref r4), .val (.int (0 : Int32)), .val (.int (1 : Int32)), .val (.int (0 : Int32)), .unset] []))
      refine go _ _ (fun t' k' => XS.aloadN X54.here hx rfl (hb hby at_71) rfl rfl  k') ?_
      show G (T54.setTop (mkF m 72 #[.val (.int u0), .val (.int u1), .val (.int (1 : Int32)), .val (.ref r4), .val (.int (0 : Int32)), .val (.int (1 : Int32)), .val (.int (0 : Int32)), .unset] [(.ref r4)]))
      obtain ⟨T55, X55, e55, st55⟩ := getS X54 hx hZ hown (host := "") (hw _ (List.mem_of_getElem? (i := 14) rfl)) Via.refl e54 S3 (g := (mkF m 72 #[.val (.int u0), .val (.int u1), .val (.int (1 : Int32)), .val (.ref r4), .val (.int (0 : Int32)), .val (.int (1 : Int32)), .val (.int (0 : Int32)), .unset] [(.ref r4)])) rfl (hb hby at_72)
      refine go _ _ st55 ?_
      show G (T55.setTop (mkF m 75 #[.val (.int u0), .val (.int u1), .val (.int (1 : Int32)), .val (.ref r4), .val (.int (0 : Int32)), .val (.int (1 : Int32)), .val (.int (0 : Int32)), .unset] [(.ref r3), (.ref r4)]))
      refine go _ _ (fun t' k' => Jvm.RoadKit.acmp (g := (mkF m 75 #[.val (.int u0), .val (.int u1), .val (.int (1 : Int32)), .val (.ref r4), .val (.int (0 : Int32)), .val (.int (1 : Int32)), .val (.int (0 : Int32)), .unset] [(.ref r3), (.ref r4)])) X55 hx rfl (x := (.ref r4)) (y := (.ref r3)) rfl rfl (rest := []) (pc0 := 75) (pc' := 78) (same := false) rfl (hb hby at_75) rfl (decide_eq_false (fun z => (Ne.symm n34) (Value.ref.inj z))) (by decide) (by decide) k') ?_
      show G (T55.setTop (mkF m 78 #[.val (.int u0), .val (.int u1), .val (.int (1 : Int32)), .val (.ref r4), .val (.int (0 : Int32)), .val (.int (1 : Int32)), .val (.int (0 : Int32)), .unset] []))
      refine go _ _ (fun t' k' => XS.aloadN X55.here hx rfl (hb hby at_78) rfl rfl  k') ?_
      show G (T55.setTop (mkF m 79 #[.val (.int u0), .val (.int u1), .val (.int (1 : Int32)), .val (.ref r4), .val (.int (0 : Int32)), .val (.int (1 : Int32)), .val (.int (0 : Int32)), .unset] [(.ref r4)]))
      obtain ⟨T56, X56, e56, st56⟩ := getS X55 hx hZ hown (host := "") (hw _ (List.mem_of_getElem? (i := 8) rfl)) Via.refl e55 S4 (g := (mkF m 79 #[.val (.int u0), .val (.int u1), .val (.int (1 : Int32)), .val (.ref r4), .val (.int (0 : Int32)), .val (.int (1 : Int32)), .val (.int (0 : Int32)), .unset] [(.ref r4)])) rfl (hb hby at_79)
      refine go _ _ st56 ?_
      show G (T56.setTop (mkF m 82 #[.val (.int u0), .val (.int u1), .val (.int (1 : Int32)), .val (.ref r4), .val (.int (0 : Int32)), .val (.int (1 : Int32)), .val (.int (0 : Int32)), .unset] [(.ref r4), (.ref r4)]))
      refine go _ _ (fun t' k' => Jvm.RoadKit.acmp (g := (mkF m 82 #[.val (.int u0), .val (.int u1), .val (.int (1 : Int32)), .val (.ref r4), .val (.int (0 : Int32)), .val (.int (1 : Int32)), .val (.int (0 : Int32)), .unset] [(.ref r4), (.ref r4)])) X56 hx rfl (x := (.ref r4)) (y := (.ref r4)) rfl rfl (rest := []) (pc0 := 82) (pc' := 92) (same := true) rfl (hb hby at_82) rfl (decide_eq_true rfl) (by decide) (by decide) k') ?_
      show G (T56.setTop (mkF m 92 #[.val (.int u0), .val (.int u1), .val (.int (1 : Int32)), .val (.ref r4), .val (.int (0 : Int32)), .val (.int (1 : Int32)), .val (.int (0 : Int32)), .unset] []))
      refine go _ _ (fun t' k' => XS.iconst X56.here hx rfl (hb hby at_92) k') ?_
      show G (T56.setTop (mkF m 93 #[.val (.int u0), .val (.int u1), .val (.int (1 : Int32)), .val (.ref r4), .val (.int (0 : Int32)), .val (.int (1 : Int32)), .val (.int (0 : Int32)), .unset] [(.int (1 : Int32))]))
      refine go _ _ (fun t' k' => XS.goto X56.here hx rfl (pc0 := 93) (pc' := 97) rfl (hb hby at_93) (by decide) (by decide) k') ?_
      show G (T56.setTop (mkF m 97 #[.val (.int u0), .val (.int u1), .val (.int (1 : Int32)), .val (.ref r4), .val (.int (0 : Int32)), .val (.int (1 : Int32)), .val (.int (0 : Int32)), .unset] [(.int (1 : Int32))]))
      refine go _ _ (fun t' k' => XS.istore X56.here hx rfl (hb hby at_97) rfl (l' := #[.val (.int u0), .val (.int u1), .val (.int (1 : Int32)), .val (.ref r4), .val (.int (0 : Int32)), .val (.int (1 : Int32)), .val (.int (0 : Int32)), .val (.int (1 : Int32))]) rfl k') ?_
      show G (T56.setTop (mkF m 99 #[.val (.int u0), .val (.int u1), .val (.int (1 : Int32)), .val (.ref r4), .val (.int (0 : Int32)), .val (.int (1 : Int32)), .val (.int (0 : Int32)), .val (.int (1 : Int32))] []))
      refine go _ _ (fun t' k' => XS.iload X56.here hx rfl (hb hby at_99) rfl  k') ?_
      show G (T56.setTop (mkF m 101 #[.val (.int u0), .val (.int u1), .val (.int (1 : Int32)), .val (.ref r4), .val (.int (0 : Int32)), .val (.int (1 : Int32)), .val (.int (0 : Int32)), .val (.int (1 : Int32))] [(.int (0 : Int32))]))
      refine go _ _ (fun t' k' => XS.iloadN X56.here hx rfl (hb hby at_101) rfl  k') ?_
      show G (T56.setTop (mkF m 102 #[.val (.int u0), .val (.int u1), .val (.int (1 : Int32)), .val (.ref r4), .val (.int (0 : Int32)), .val (.int (1 : Int32)), .val (.int (0 : Int32)), .val (.int (1 : Int32))] [(.int u0), (.int (0 : Int32))]))
      refine go _ _ (fun t' k' => XS.ifYes X56.here hx rfl (pc0 := 102) (pc' := 113) rfl (hb hby at_102) rfl (Free.XT.i0_ne_t z47) (by decide) (by decide) k') ?_
      show G (T56.setTop (mkF m 113 #[.val (.int u0), .val (.int u1), .val (.int (1 : Int32)), .val (.ref r4), .val (.int (0 : Int32)), .val (.int (1 : Int32)), .val (.int (0 : Int32)), .val (.int (1 : Int32))] [(.int (0 : Int32))]))
      refine go _ _ (fun t' k' => XS.iconst X56.here hx rfl (hb hby at_113) k') ?_
      show G (T56.setTop (mkF m 114 #[.val (.int u0), .val (.int u1), .val (.int (1 : Int32)), .val (.ref r4), .val (.int (0 : Int32)), .val (.int (1 : Int32)), .val (.int (0 : Int32)), .val (.int (1 : Int32))] [(.int (0 : Int32)), (.int (0 : Int32))]))
      refine go _ _ (fun t' k' => XS.icmpYes X56.here hx rfl (pc0 := 114) (pc' := 119) rfl (hb hby at_114) rfl (Free.XT.ii_eq_t (by decide)) (by decide) (by decide) k') ?_
      show G (T56.setTop (mkF m 119 #[.val (.int u0), .val (.int u1), .val (.int (1 : Int32)), .val (.ref r4), .val (.int (0 : Int32)), .val (.int (1 : Int32)), .val (.int (0 : Int32)), .val (.int (1 : Int32))] []))
      refine go _ _ (fun t' k' => XS.aloadN X56.here hx rfl (hb hby at_119) rfl rfl  k') ?_
      show G (T56.setTop (mkF m 120 #[.val (.int u0), .val (.int u1), .val (.int (1 : Int32)), .val (.ref r4), .val (.int (0 : Int32)), .val (.int (1 : Int32)), .val (.int (0 : Int32)), .val (.int (1 : Int32))] [(.ref r4)]))
      obtain ⟨T57, X57, e57, st57⟩ := getS X56 hx hZ hown (host := "") (hw _ (List.mem_of_getElem? (i := 15) rfl)) Via.refl e56 S0 (g := (mkF m 120 #[.val (.int u0), .val (.int u1), .val (.int (1 : Int32)), .val (.ref r4), .val (.int (0 : Int32)), .val (.int (1 : Int32)), .val (.int (0 : Int32)), .val (.int (1 : Int32))] [(.ref r4)])) rfl (hb hby at_120)
      refine go _ _ st57 ?_
      show G (T57.setTop (mkF m 123 #[.val (.int u0), .val (.int u1), .val (.int (1 : Int32)), .val (.ref r4), .val (.int (0 : Int32)), .val (.int (1 : Int32)), .val (.int (0 : Int32)), .val (.int (1 : Int32))] [(.ref r0), (.ref r4)]))
      refine go _ _ (fun t' k' => Jvm.RoadKit.acmp (g := (mkF m 123 #[.val (.int u0), .val (.int u1), .val (.int (1 : Int32)), .val (.ref r4), .val (.int (0 : Int32)), .val (.int (1 : Int32)), .val (.int (0 : Int32)), .val (.int (1 : Int32))] [(.ref r0), (.ref r4)])) X57 hx rfl (x := (.ref r4)) (y := (.ref r0)) rfl rfl (rest := []) (pc0 := 123) (pc' := 128) (same := false) rfl (hb hby at_123) rfl (decide_eq_false (fun z => (Ne.symm n04) (Value.ref.inj z))) (by decide) (by decide) k') ?_
      show G (T57.setTop (mkF m 128 #[.val (.int u0), .val (.int u1), .val (.int (1 : Int32)), .val (.ref r4), .val (.int (0 : Int32)), .val (.int (1 : Int32)), .val (.int (0 : Int32)), .val (.int (1 : Int32))] []))
      refine go _ _ (fun t' k' => XS.iload X57.here hx rfl (hb hby at_128) rfl  k') ?_
      show G (T57.setTop (mkF m 130 #[.val (.int u0), .val (.int u1), .val (.int (1 : Int32)), .val (.ref r4), .val (.int (0 : Int32)), .val (.int (1 : Int32)), .val (.int (0 : Int32)), .val (.int (1 : Int32))] [(.int (0 : Int32))]))
      refine go _ _ (fun t' k' => XS.ifYes X57.here hx rfl (pc0 := 130) (pc' := 135) rfl (hb hby at_130) rfl (Free.XT.i0_eq_t (by decide)) (by decide) (by decide) k') ?_
      show G (T57.setTop (mkF m 135 #[.val (.int u0), .val (.int u1), .val (.int (1 : Int32)), .val (.ref r4), .val (.int (0 : Int32)), .val (.int (1 : Int32)), .val (.int (0 : Int32)), .val (.int (1 : Int32))] []))
      refine go _ _ (fun t' k' => XS.iload X57.here hx rfl (hb hby at_135) rfl  k') ?_
      show G (T57.setTop (mkF m 137 #[.val (.int u0), .val (.int u1), .val (.int (1 : Int32)), .val (.ref r4), .val (.int (0 : Int32)), .val (.int (1 : Int32)), .val (.int (0 : Int32)), .val (.int (1 : Int32))] [(.int (1 : Int32))]))
      refine go _ _ (fun t' k' => XS.iloadN X57.here hx rfl (hb hby at_137) rfl  k') ?_
      show G (T57.setTop (mkF m 138 #[.val (.int u0), .val (.int u1), .val (.int (1 : Int32)), .val (.ref r4), .val (.int (0 : Int32)), .val (.int (1 : Int32)), .val (.int (0 : Int32)), .val (.int (1 : Int32))] [(.int u0), (.int (1 : Int32))]))
      refine go _ _ (fun t' k' => XS.ifNo X57.here hx rfl (hb hby at_138) rfl (Free.XT.i0_ge_f c46) k') ?_
      show G (T57.setTop (mkF m 141 #[.val (.int u0), .val (.int u1), .val (.int (1 : Int32)), .val (.ref r4), .val (.int (0 : Int32)), .val (.int (1 : Int32)), .val (.int (0 : Int32)), .val (.int (1 : Int32))] [(.int (1 : Int32))]))
      refine go _ _ (fun t' k' => XS.iconst X57.here hx rfl (hb hby at_141) k') ?_
      show G (T57.setTop (mkF m 142 #[.val (.int u0), .val (.int u1), .val (.int (1 : Int32)), .val (.ref r4), .val (.int (0 : Int32)), .val (.int (1 : Int32)), .val (.int (0 : Int32)), .val (.int (1 : Int32))] [(.int (1 : Int32)), (.int (1 : Int32))]))
      refine go _ _ (fun t' k' => XS.goto X57.here hx rfl (pc0 := 142) (pc' := 146) rfl (hb hby at_142) (by decide) (by decide) k') ?_
      show G (T57.setTop (mkF m 146 #[.val (.int u0), .val (.int u1), .val (.int (1 : Int32)), .val (.ref r4), .val (.int (0 : Int32)), .val (.int (1 : Int32)), .val (.int (0 : Int32)), .val (.int (1 : Int32))] [(.int (1 : Int32)), (.int (1 : Int32))]))
      refine go _ _ (fun t' k' => XS.icmpNo X57.here hx rfl (hb hby at_146) rfl (Free.XT.ii_ne_f (by decide)) k') ?_
      show G (T57.setTop (mkF m 149 #[.val (.int u0), .val (.int u1), .val (.int (1 : Int32)), .val (.ref r4), .val (.int (0 : Int32)), .val (.int (1 : Int32)), .val (.int (0 : Int32)), .val (.int (1 : Int32))] []))
      refine go _ _ (fun t' k' => XS.iload X57.here hx rfl (hb hby at_149) rfl  k') ?_
      show G (T57.setTop (mkF m 151 #[.val (.int u0), .val (.int u1), .val (.int (1 : Int32)), .val (.ref r4), .val (.int (0 : Int32)), .val (.int (1 : Int32)), .val (.int (0 : Int32)), .val (.int (1 : Int32))] [(.int (0 : Int32))]))
      refine go _ _ (fun t' k' => XS.iloadN X57.here hx rfl (hb hby at_151) rfl  k') ?_
      show G (T57.setTop (mkF m 152 #[.val (.int u0), .val (.int u1), .val (.int (1 : Int32)), .val (.ref r4), .val (.int (0 : Int32)), .val (.int (1 : Int32)), .val (.int (0 : Int32)), .val (.int (1 : Int32))] [(.int u0), (.int (0 : Int32))]))
      refine go _ _ (fun t' k' => XS.ifYes X57.here hx rfl (pc0 := 152) (pc' := 159) rfl (hb hby at_152) rfl (Free.XT.i0_le_t z48) (by decide) (by decide) k') ?_
      show G (T57.setTop (mkF m 159 #[.val (.int u0), .val (.int u1), .val (.int (1 : Int32)), .val (.ref r4), .val (.int (0 : Int32)), .val (.int (1 : Int32)), .val (.int (0 : Int32)), .val (.int (1 : Int32))] [(.int (0 : Int32))]))
      refine go _ _ (fun t' k' => XS.iconst X57.here hx rfl (hb hby at_159) k') ?_
      show G (T57.setTop (mkF m 160 #[.val (.int u0), .val (.int u1), .val (.int (1 : Int32)), .val (.ref r4), .val (.int (0 : Int32)), .val (.int (1 : Int32)), .val (.int (0 : Int32)), .val (.int (1 : Int32))] [(.int (0 : Int32)), (.int (0 : Int32))]))
      refine go _ _ (fun t' k' => XS.icmpNo X57.here hx rfl (hb hby at_160) rfl (Free.XT.ii_ne_f (by decide)) k') ?_
      show G (T57.setTop (mkF m 163 #[.val (.int u0), .val (.int u1), .val (.int (1 : Int32)), .val (.ref r4), .val (.int (0 : Int32)), .val (.int (1 : Int32)), .val (.int (0 : Int32)), .val (.int (1 : Int32))] []))
      refine go _ _ (fun t' k' => XS.iload X57.here hx rfl (hb hby at_163) rfl  k') ?_
      show G (T57.setTop (mkF m 165 #[.val (.int u0), .val (.int u1), .val (.int (1 : Int32)), .val (.ref r4), .val (.int (0 : Int32)), .val (.int (1 : Int32)), .val (.int (0 : Int32)), .val (.int (1 : Int32))] [(.int (1 : Int32))]))
      refine go _ _ (fun t' k' => XS.iloadN X57.here hx rfl (hb hby at_165) rfl  k') ?_
      show G (T57.setTop (mkF m 166 #[.val (.int u0), .val (.int u1), .val (.int (1 : Int32)), .val (.ref r4), .val (.int (0 : Int32)), .val (.int (1 : Int32)), .val (.int (0 : Int32)), .val (.int (1 : Int32))] [(.int (1 : Int32)), (.int (1 : Int32))]))
      refine go _ _ (fun t' k' => XS.icmpNo X57.here hx rfl (hb hby at_166) rfl (Free.XT.ii_ne_f (by decide)) k') ?_
      show G (T57.setTop (mkF m 169 #[.val (.int u0), .val (.int u1), .val (.int (1 : Int32)), .val (.ref r4), .val (.int (0 : Int32)), .val (.int (1 : Int32)), .val (.int (0 : Int32)), .val (.int (1 : Int32))] []))
      refine go _ _ (fun t' k' => XS.iconst X57.here hx rfl (hb hby at_169) k') ?_
      show G (T57.setTop (mkF m 170 #[.val (.int u0), .val (.int u1), .val (.int (1 : Int32)), .val (.ref r4), .val (.int (0 : Int32)), .val (.int (1 : Int32)), .val (.int (0 : Int32)), .val (.int (1 : Int32))] [(.int (1 : Int32))]))
      refine go _ _ (fun t' k' => XS.goto X57.here hx rfl (pc0 := 170) (pc' := 174) rfl (hb hby at_170) (by decide) (by decide) k') ?_
      show G (T57.setTop (mkF m 174 #[.val (.int u0), .val (.int u1), .val (.int (1 : Int32)), .val (.ref r4), .val (.int (0 : Int32)), .val (.int (1 : Int32)), .val (.int (0 : Int32)), .val (.int (1 : Int32))] [(.int (1 : Int32))]))
      refine own_retZ rt X57 hx (t := .boolean) hret (by simp) (hb hby at_174) (by decide) (by decide) ?_
      exact ⟨rfl, N50⟩
    · by_cases c58 : (0 : Int32) < u0
      · have z59 : ¬ u0 = (0 : Int32) := fun z => absurd (z ▸ c58) (by decide)
        refine own_static go X0 hx hZ e0 hown (hw _ (List.mem_of_getElem? (i := 0) rfl)) (hw _ (List.mem_of_getElem? (i := 1) rfl)) (hw _ (List.mem_of_getElem? (i := 2) rfl)) (hw _ (List.mem_of_getElem? (i := 3) rfl)) (by decide) (rm1 l Z a0 hw u0 (1 : Int32) r1 r2 r3 r4 r5 h0 n0 Z0 S1 S2 S3 S4 S5) 0 (by decide) (by decide) (by decide) (by decide) (g := (mkF m 14 #[.val (.int u0), .val (.int u1), .val (.int (1 : Int32)), .unset, .unset, .unset, .unset, .unset] [(.int (1 : Int32)), (.int u0)])) rfl (by rw [hml]; rfl) [(.int u0), (.int (1 : Int32))] [] rfl (lenOf pd_0 rfl) rfl (by show 2 * 0 + _ ≤ _; exact Nat.le_of_eq rfl) (hb hby at_14) ?_
        intro T60 L60 v60 X60 q60
        obtain ⟨rfl, N60, hh60⟩ := q60
        have N61 := Fr.app N0 N60
        rw [show ofV r1 r2 r3 r4 r5 u0 (1 : Int32) = (.ref r5) from by simp [ofV, c11, c46, c58, z59]]
        show G (T60.setTop (mkF m 17 #[.val (.int u0), .val (.int u1), .val (.int (1 : Int32)), .unset, .unset, .unset, .unset, .unset] [(.ref r5)]))
        refine go _ _ (fun t' k' => XS.astoreN X60.here hx rfl (hb hby at_17) rfl rfl (l' := #[.val (.int u0), .val (.int u1), .val (.int (1 : Int32)), .val (.ref r5), .unset, .unset, .unset, .unset]) rfl k') ?_
        show G (T60.setTop (mkF m 18 #[.val (.int u0), .val (.int u1), .val (.int (1 : Int32)), .val (.ref r5), .unset, .unset, .unset, .unset] []))
        refine go _ _ (fun t' k' => XS.aloadN X60.here hx rfl (hb hby at_18) rfl rfl  k') ?_
        show G (T60.setTop (mkF m 19 #[.val (.int u0), .val (.int u1), .val (.int (1 : Int32)), .val (.ref r5), .unset, .unset, .unset, .unset] [(.ref r5)]))
        refine go _ _ (fun t' k' => XS.ifnonnullYes X60.here hx rfl (pc0 := 19) (pc' := 26) rfl (hb hby at_19) rfl (by decide) (by decide) k') ?_
        show G (T60.setTop (mkF m 26 #[.val (.int u0), .val (.int u1), .val (.int (1 : Int32)), .val (.ref r5), .unset, .unset, .unset, .unset] []))
        refine go _ _ (fun t' k' => XS.iconst X60.here hx rfl (hb hby at_26) k') ?_
        show G (T60.setTop (mkF m 27 #[.val (.int u0), .val (.int u1), .val (.int (1 : Int32)), .val (.ref r5), .unset, .unset, .unset, .unset] [(.int (0 : Int32))]))
        refine go _ _ (fun t' k' => XS.istore X60.here hx rfl (hb hby at_27) rfl (l' := #[.val (.int u0), .val (.int u1), .val (.int (1 : Int32)), .val (.ref r5), .val (.int (0 : Int32)), .unset, .unset, .unset]) rfl k') ?_
        show G (T60.setTop (mkF m 29 #[.val (.int u0), .val (.int u1), .val (.int (1 : Int32)), .val (.ref r5), .val (.int (0 : Int32)), .unset, .unset, .unset] []))
        refine go _ _ (fun t' k' => XS.aloadN X60.here hx rfl (hb hby at_29) rfl rfl  k') ?_
        show G (T60.setTop (mkF m 30 #[.val (.int u0), .val (.int u1), .val (.int (1 : Int32)), .val (.ref r5), .val (.int (0 : Int32)), .unset, .unset, .unset] [(.ref r5)]))
        obtain ⟨T62, X62, e62, st62⟩ := getS X60 hx hZ hown (host := "") (hw _ (List.mem_of_getElem? (i := 6) rfl)) Via.refl hh60 S1 (g := (mkF m 30 #[.val (.int u0), .val (.int u1), .val (.int (1 : Int32)), .val (.ref r5), .val (.int (0 : Int32)), .unset, .unset, .unset] [(.ref r5)])) rfl (hb hby at_30)
        refine go _ _ st62 ?_
        show G (T62.setTop (mkF m 33 #[.val (.int u0), .val (.int u1), .val (.int (1 : Int32)), .val (.ref r5), .val (.int (0 : Int32)), .unset, .unset, .unset] [(.ref r1), (.ref r5)]))
        refine go _ _ (fun t' k' => Jvm.RoadKit.acmp (g := (mkF m 33 #[.val (.int u0), .val (.int u1), .val (.int (1 : Int32)), .val (.ref r5), .val (.int (0 : Int32)), .unset, .unset, .unset] [(.ref r1), (.ref r5)])) X62 hx rfl (x := (.ref r5)) (y := (.ref r1)) rfl rfl (rest := []) (pc0 := 33) (pc' := 36) (same := false) rfl (hb hby at_33) rfl (decide_eq_false (fun z => (Ne.symm n15) (Value.ref.inj z))) (by decide) (by decide) k') ?_
        show G (T62.setTop (mkF m 36 #[.val (.int u0), .val (.int u1), .val (.int (1 : Int32)), .val (.ref r5), .val (.int (0 : Int32)), .unset, .unset, .unset] []))
        refine go _ _ (fun t' k' => XS.aloadN X62.here hx rfl (hb hby at_36) rfl rfl  k') ?_
        show G (T62.setTop (mkF m 37 #[.val (.int u0), .val (.int u1), .val (.int (1 : Int32)), .val (.ref r5), .val (.int (0 : Int32)), .unset, .unset, .unset] [(.ref r5)]))
        obtain ⟨T63, X63, e63, st63⟩ := getS X62 hx hZ hown (host := "") (hw _ (List.mem_of_getElem? (i := 8) rfl)) Via.refl e62 S4 (g := (mkF m 37 #[.val (.int u0), .val (.int u1), .val (.int (1 : Int32)), .val (.ref r5), .val (.int (0 : Int32)), .unset, .unset, .unset] [(.ref r5)])) rfl (hb hby at_37)
        refine go _ _ st63 ?_
        show G (T63.setTop (mkF m 40 #[.val (.int u0), .val (.int u1), .val (.int (1 : Int32)), .val (.ref r5), .val (.int (0 : Int32)), .unset, .unset, .unset] [(.ref r4), (.ref r5)]))
        refine go _ _ (fun t' k' => Jvm.RoadKit.acmp (g := (mkF m 40 #[.val (.int u0), .val (.int u1), .val (.int (1 : Int32)), .val (.ref r5), .val (.int (0 : Int32)), .unset, .unset, .unset] [(.ref r4), (.ref r5)])) X63 hx rfl (x := (.ref r5)) (y := (.ref r4)) rfl rfl (rest := []) (pc0 := 40) (pc' := 47) (same := false) rfl (hb hby at_40) rfl (decide_eq_false (fun z => (Ne.symm n45) (Value.ref.inj z))) (by decide) (by decide) k') ?_
        show G (T63.setTop (mkF m 47 #[.val (.int u0), .val (.int u1), .val (.int (1 : Int32)), .val (.ref r5), .val (.int (0 : Int32)), .unset, .unset, .unset] []))
        refine go _ _ (fun t' k' => XS.iconst X63.here hx rfl (hb hby at_47) k') ?_
        show G (T63.setTop (mkF m 48 #[.val (.int u0), .val (.int u1), .val (.int (1 : Int32)), .val (.ref r5), .val (.int (0 : Int32)), .unset, .unset, .unset] [(.int (0 : Int32))]))
        refine go _ _ (fun t' k' => XS.istore X63.here hx rfl (hb hby at_48) rfl (l' := #[.val (.int u0), .val (.int u1), .val (.int (1 : Int32)), .val (.ref r5), .val (.int (0 : Int32)), .val (.int (0 : Int32)), .unset, .unset]) rfl k') ?_
        show G (T63.setTop (mkF m 50 #[.val (.int u0), .val (.int u1), .val (.int (1 : Int32)), .val (.ref r5), .val (.int (0 : Int32)), .val (.int (0 : Int32)), .unset, .unset] []))
        refine go _ _ (fun t' k' => XS.aloadN X63.here hx rfl (hb hby at_50) rfl rfl  k') ?_
        show G (T63.setTop (mkF m 51 #[.val (.int u0), .val (.int u1), .val (.int (1 : Int32)), .val (.ref r5), .val (.int (0 : Int32)), .val (.int (0 : Int32)), .unset, .unset] [(.ref r5)]))
        obtain ⟨T64, X64, e64, st64⟩ := getS X63 hx hZ hown (host := "") (hw _ (List.mem_of_getElem? (i := 10) rfl)) Via.refl e63 S2 (g := (mkF m 51 #[.val (.int u0), .val (.int u1), .val (.int (1 : Int32)), .val (.ref r5), .val (.int (0 : Int32)), .val (.int (0 : Int32)), .unset, .unset] [(.ref r5)])) rfl (hb hby at_51)
        refine go _ _ st64 ?_
        show G (T64.setTop (mkF m 54 #[.val (.int u0), .val (.int u1), .val (.int (1 : Int32)), .val (.ref r5), .val (.int (0 : Int32)), .val (.int (0 : Int32)), .unset, .unset] [(.ref r2), (.ref r5)]))
        refine go _ _ (fun t' k' => Jvm.RoadKit.acmp (g := (mkF m 54 #[.val (.int u0), .val (.int u1), .val (.int (1 : Int32)), .val (.ref r5), .val (.int (0 : Int32)), .val (.int (0 : Int32)), .unset, .unset] [(.ref r2), (.ref r5)])) X64 hx rfl (x := (.ref r5)) (y := (.ref r2)) rfl rfl (rest := []) (pc0 := 54) (pc' := 57) (same := false) rfl (hb hby at_54) rfl (decide_eq_false (fun z => (Ne.symm n25) (Value.ref.inj z))) (by decide) (by decide) k') ?_
        show G (T64.setTop (mkF m 57 #[.val (.int u0), .val (.int u1), .val (.int (1 : Int32)), .val (.ref r5), .val (.int (0 : Int32)), .val (.int (0 : Int32)), .unset, .unset] []))
        refine go _ _ (fun t' k' => XS.aloadN X64.here hx rfl (hb hby at_57) rfl rfl  k') ?_
        show G (T64.setTop (mkF m 58 #[.val (.int u0), .val (.int u1), .val (.int (1 : Int32)), .val (.ref r5), .val (.int (0 : Int32)), .val (.int (0 : Int32)), .unset, .unset] [(.ref r5)]))
        obtain ⟨T65, X65, e65, st65⟩ := getS X64 hx hZ hown (host := "") (hw _ (List.mem_of_getElem? (i := 12) rfl)) Via.refl e64 S5 (g := (mkF m 58 #[.val (.int u0), .val (.int u1), .val (.int (1 : Int32)), .val (.ref r5), .val (.int (0 : Int32)), .val (.int (0 : Int32)), .unset, .unset] [(.ref r5)])) rfl (hb hby at_58)
        refine go _ _ st65 ?_
        show G (T65.setTop (mkF m 61 #[.val (.int u0), .val (.int u1), .val (.int (1 : Int32)), .val (.ref r5), .val (.int (0 : Int32)), .val (.int (0 : Int32)), .unset, .unset] [(.ref r5), (.ref r5)]))
        refine go _ _ (fun t' k' => Jvm.RoadKit.acmp (g := (mkF m 61 #[.val (.int u0), .val (.int u1), .val (.int (1 : Int32)), .val (.ref r5), .val (.int (0 : Int32)), .val (.int (0 : Int32)), .unset, .unset] [(.ref r5), (.ref r5)])) X65 hx rfl (x := (.ref r5)) (y := (.ref r5)) rfl rfl (rest := []) (pc0 := 61) (pc' := 64) (same := true) rfl (hb hby at_61) rfl (decide_eq_true rfl) (by decide) (by decide) k') ?_
        show G (T65.setTop (mkF m 64 #[.val (.int u0), .val (.int u1), .val (.int (1 : Int32)), .val (.ref r5), .val (.int (0 : Int32)), .val (.int (0 : Int32)), .unset, .unset] []))
        refine go _ _ (fun t' k' => XS.iconst X65.here hx rfl (hb hby at_64) k') ?_
        show G (T65.setTop (mkF m 65 #[.val (.int u0), .val (.int u1), .val (.int (1 : Int32)), .val (.ref r5), .val (.int (0 : Int32)), .val (.int (0 : Int32)), .unset, .unset] [(.int (1 : Int32))]))
        refine go _ _ (fun t' k' => XS.goto X65.here hx rfl (pc0 := 65) (pc' := 69) rfl (hb hby at_65) (by decide) (by decide) k') ?_
        show G (T65.setTop (mkF m 69 #[.val (.int u0), .val (.int u1), .val (.int (1 : Int32)), .val (.ref r5), .val (.int (0 : Int32)), .val (.int (0 : Int32)), .unset, .unset] [(.int (1 : Int32))]))
        refine go _ _ (fun t' k' => XS.istore X65.here hx rfl (hb hby at_69) rfl (l' := #[.val (.int u0), .val (.int u1), .val (.int (1 : Int32)), .val (.ref r5), .val (.int (0 : Int32)), .val (.int (0 : Int32)), .val (.int (1 : Int32)), .unset]) rfl k') ?_
        show G (T65.setTop (mkF m 71 #[.val (.int u0), .val (.int u1), .val (.int (1 : Int32)), .val (.ref r5), .val (.int (0 : Int32)), .val (.int (0 : Int32)), .val (.int (1 : Int32)), .unset] []))
        refine go _ _ (fun t' k' => XS.aloadN X65.here hx rfl (hb hby at_71) rfl rfl  k') ?_
        show G (T65.setTop (mkF m 72 #[.val (.int u0), .val (.int u1), .val (.int (1 : Int32)), .val (.ref r5), .val (.int (0 : Int32)), .val (.int (0 : Int32)), .val (.int (1 : Int32)), .unset] [(.ref r5)]))
        obtain ⟨T66, X66, e66, st66⟩ := getS X65 hx hZ hown (host := "") (hw _ (List.mem_of_getElem? (i := 14) rfl)) Via.refl e65 S3 (g := (mkF m 72 #[.val (.int u0), .val (.int u1), .val (.int (1 : Int32)), .val (.ref r5), .val (.int (0 : Int32)), .val (.int (0 : Int32)), .val (.int (1 : Int32)), .unset] [(.ref r5)])) rfl (hb hby at_72)
        refine go _ _ st66 ?_
        show G (T66.setTop (mkF m 75 #[.val (.int u0), .val (.int u1), .val (.int (1 : Int32)), .val (.ref r5), .val (.int (0 : Int32)), .val (.int (0 : Int32)), .val (.int (1 : Int32)), .unset] [(.ref r3), (.ref r5)]))
        refine go _ _ (fun t' k' => Jvm.RoadKit.acmp (g := (mkF m 75 #[.val (.int u0), .val (.int u1), .val (.int (1 : Int32)), .val (.ref r5), .val (.int (0 : Int32)), .val (.int (0 : Int32)), .val (.int (1 : Int32)), .unset] [(.ref r3), (.ref r5)])) X66 hx rfl (x := (.ref r5)) (y := (.ref r3)) rfl rfl (rest := []) (pc0 := 75) (pc' := 78) (same := false) rfl (hb hby at_75) rfl (decide_eq_false (fun z => (Ne.symm n35) (Value.ref.inj z))) (by decide) (by decide) k') ?_
        show G (T66.setTop (mkF m 78 #[.val (.int u0), .val (.int u1), .val (.int (1 : Int32)), .val (.ref r5), .val (.int (0 : Int32)), .val (.int (0 : Int32)), .val (.int (1 : Int32)), .unset] []))
        refine go _ _ (fun t' k' => XS.aloadN X66.here hx rfl (hb hby at_78) rfl rfl  k') ?_
        show G (T66.setTop (mkF m 79 #[.val (.int u0), .val (.int u1), .val (.int (1 : Int32)), .val (.ref r5), .val (.int (0 : Int32)), .val (.int (0 : Int32)), .val (.int (1 : Int32)), .unset] [(.ref r5)]))
        obtain ⟨T67, X67, e67, st67⟩ := getS X66 hx hZ hown (host := "") (hw _ (List.mem_of_getElem? (i := 8) rfl)) Via.refl e66 S4 (g := (mkF m 79 #[.val (.int u0), .val (.int u1), .val (.int (1 : Int32)), .val (.ref r5), .val (.int (0 : Int32)), .val (.int (0 : Int32)), .val (.int (1 : Int32)), .unset] [(.ref r5)])) rfl (hb hby at_79)
        refine go _ _ st67 ?_
        show G (T67.setTop (mkF m 82 #[.val (.int u0), .val (.int u1), .val (.int (1 : Int32)), .val (.ref r5), .val (.int (0 : Int32)), .val (.int (0 : Int32)), .val (.int (1 : Int32)), .unset] [(.ref r4), (.ref r5)]))
        refine go _ _ (fun t' k' => Jvm.RoadKit.acmp (g := (mkF m 82 #[.val (.int u0), .val (.int u1), .val (.int (1 : Int32)), .val (.ref r5), .val (.int (0 : Int32)), .val (.int (0 : Int32)), .val (.int (1 : Int32)), .unset] [(.ref r4), (.ref r5)])) X67 hx rfl (x := (.ref r5)) (y := (.ref r4)) rfl rfl (rest := []) (pc0 := 82) (pc' := 85) (same := false) rfl (hb hby at_82) rfl (decide_eq_false (fun z => (Ne.symm n45) (Value.ref.inj z))) (by decide) (by decide) k') ?_
        show G (T67.setTop (mkF m 85 #[.val (.int u0), .val (.int u1), .val (.int (1 : Int32)), .val (.ref r5), .val (.int (0 : Int32)), .val (.int (0 : Int32)), .val (.int (1 : Int32)), .unset] []))
        refine go _ _ (fun t' k' => XS.aloadN X67.here hx rfl (hb hby at_85) rfl rfl  k') ?_
        show G (T67.setTop (mkF m 86 #[.val (.int u0), .val (.int u1), .val (.int (1 : Int32)), .val (.ref r5), .val (.int (0 : Int32)), .val (.int (0 : Int32)), .val (.int (1 : Int32)), .unset] [(.ref r5)]))
        obtain ⟨T68, X68, e68, st68⟩ := getS X67 hx hZ hown (host := "") (hw _ (List.mem_of_getElem? (i := 12) rfl)) Via.refl e67 S5 (g := (mkF m 86 #[.val (.int u0), .val (.int u1), .val (.int (1 : Int32)), .val (.ref r5), .val (.int (0 : Int32)), .val (.int (0 : Int32)), .val (.int (1 : Int32)), .unset] [(.ref r5)])) rfl (hb hby at_86)
        refine go _ _ st68 ?_
        show G (T68.setTop (mkF m 89 #[.val (.int u0), .val (.int u1), .val (.int (1 : Int32)), .val (.ref r5), .val (.int (0 : Int32)), .val (.int (0 : Int32)), .val (.int (1 : Int32)), .unset] [(.ref r5), (.ref r5)]))
        refine go _ _ (fun t' k' => Jvm.RoadKit.acmp (g := (mkF m 89 #[.val (.int u0), .val (.int u1), .val (.int (1 : Int32)), .val (.ref r5), .val (.int (0 : Int32)), .val (.int (0 : Int32)), .val (.int (1 : Int32)), .unset] [(.ref r5), (.ref r5)])) X68 hx rfl (x := (.ref r5)) (y := (.ref r5)) rfl rfl (rest := []) (pc0 := 89) (pc' := 92) (same := true) rfl (hb hby at_89) rfl (decide_eq_true rfl) (by decide) (by decide) k') ?_
        show G (T68.setTop (mkF m 92 #[.val (.int u0), .val (.int u1), .val (.int (1 : Int32)), .val (.ref r5), .val (.int (0 : Int32)), .val (.int (0 : Int32)), .val (.int (1 : Int32)), .unset] []))
        refine go _ _ (fun t' k' => XS.iconst X68.here hx rfl (hb hby at_92) k') ?_
        show G (T68.setTop (mkF m 93 #[.val (.int u0), .val (.int u1), .val (.int (1 : Int32)), .val (.ref r5), .val (.int (0 : Int32)), .val (.int (0 : Int32)), .val (.int (1 : Int32)), .unset] [(.int (1 : Int32))]))
        refine go _ _ (fun t' k' => XS.goto X68.here hx rfl (pc0 := 93) (pc' := 97) rfl (hb hby at_93) (by decide) (by decide) k') ?_
        show G (T68.setTop (mkF m 97 #[.val (.int u0), .val (.int u1), .val (.int (1 : Int32)), .val (.ref r5), .val (.int (0 : Int32)), .val (.int (0 : Int32)), .val (.int (1 : Int32)), .unset] [(.int (1 : Int32))]))
        refine go _ _ (fun t' k' => XS.istore X68.here hx rfl (hb hby at_97) rfl (l' := #[.val (.int u0), .val (.int u1), .val (.int (1 : Int32)), .val (.ref r5), .val (.int (0 : Int32)), .val (.int (0 : Int32)), .val (.int (1 : Int32)), .val (.int (1 : Int32))]) rfl k') ?_
        show G (T68.setTop (mkF m 99 #[.val (.int u0), .val (.int u1), .val (.int (1 : Int32)), .val (.ref r5), .val (.int (0 : Int32)), .val (.int (0 : Int32)), .val (.int (1 : Int32)), .val (.int (1 : Int32))] []))
        refine go _ _ (fun t' k' => XS.iload X68.here hx rfl (hb hby at_99) rfl  k') ?_
        show G (T68.setTop (mkF m 101 #[.val (.int u0), .val (.int u1), .val (.int (1 : Int32)), .val (.ref r5), .val (.int (0 : Int32)), .val (.int (0 : Int32)), .val (.int (1 : Int32)), .val (.int (1 : Int32))] [(.int (0 : Int32))]))
        refine go _ _ (fun t' k' => XS.iloadN X68.here hx rfl (hb hby at_101) rfl  k') ?_
        show G (T68.setTop (mkF m 102 #[.val (.int u0), .val (.int u1), .val (.int (1 : Int32)), .val (.ref r5), .val (.int (0 : Int32)), .val (.int (0 : Int32)), .val (.int (1 : Int32)), .val (.int (1 : Int32))] [(.int u0), (.int (0 : Int32))]))
        refine go _ _ (fun t' k' => XS.ifYes X68.here hx rfl (pc0 := 102) (pc' := 113) rfl (hb hby at_102) rfl (Free.XT.i0_ne_t z59) (by decide) (by decide) k') ?_
        show G (T68.setTop (mkF m 113 #[.val (.int u0), .val (.int u1), .val (.int (1 : Int32)), .val (.ref r5), .val (.int (0 : Int32)), .val (.int (0 : Int32)), .val (.int (1 : Int32)), .val (.int (1 : Int32))] [(.int (0 : Int32))]))
        refine go _ _ (fun t' k' => XS.iconst X68.here hx rfl (hb hby at_113) k') ?_
        show G (T68.setTop (mkF m 114 #[.val (.int u0), .val (.int u1), .val (.int (1 : Int32)), .val (.ref r5), .val (.int (0 : Int32)), .val (.int (0 : Int32)), .val (.int (1 : Int32)), .val (.int (1 : Int32))] [(.int (0 : Int32)), (.int (0 : Int32))]))
        refine go _ _ (fun t' k' => XS.icmpYes X68.here hx rfl (pc0 := 114) (pc' := 119) rfl (hb hby at_114) rfl (Free.XT.ii_eq_t (by decide)) (by decide) (by decide) k') ?_
        show G (T68.setTop (mkF m 119 #[.val (.int u0), .val (.int u1), .val (.int (1 : Int32)), .val (.ref r5), .val (.int (0 : Int32)), .val (.int (0 : Int32)), .val (.int (1 : Int32)), .val (.int (1 : Int32))] []))
        refine go _ _ (fun t' k' => XS.aloadN X68.here hx rfl (hb hby at_119) rfl rfl  k') ?_
        show G (T68.setTop (mkF m 120 #[.val (.int u0), .val (.int u1), .val (.int (1 : Int32)), .val (.ref r5), .val (.int (0 : Int32)), .val (.int (0 : Int32)), .val (.int (1 : Int32)), .val (.int (1 : Int32))] [(.ref r5)]))
        obtain ⟨T69, X69, e69, st69⟩ := getS X68 hx hZ hown (host := "") (hw _ (List.mem_of_getElem? (i := 15) rfl)) Via.refl e68 S0 (g := (mkF m 120 #[.val (.int u0), .val (.int u1), .val (.int (1 : Int32)), .val (.ref r5), .val (.int (0 : Int32)), .val (.int (0 : Int32)), .val (.int (1 : Int32)), .val (.int (1 : Int32))] [(.ref r5)])) rfl (hb hby at_120)
        refine go _ _ st69 ?_
        show G (T69.setTop (mkF m 123 #[.val (.int u0), .val (.int u1), .val (.int (1 : Int32)), .val (.ref r5), .val (.int (0 : Int32)), .val (.int (0 : Int32)), .val (.int (1 : Int32)), .val (.int (1 : Int32))] [(.ref r0), (.ref r5)]))
        refine go _ _ (fun t' k' => Jvm.RoadKit.acmp (g := (mkF m 123 #[.val (.int u0), .val (.int u1), .val (.int (1 : Int32)), .val (.ref r5), .val (.int (0 : Int32)), .val (.int (0 : Int32)), .val (.int (1 : Int32)), .val (.int (1 : Int32))] [(.ref r0), (.ref r5)])) X69 hx rfl (x := (.ref r5)) (y := (.ref r0)) rfl rfl (rest := []) (pc0 := 123) (pc' := 128) (same := false) rfl (hb hby at_123) rfl (decide_eq_false (fun z => (Ne.symm n05) (Value.ref.inj z))) (by decide) (by decide) k') ?_
        show G (T69.setTop (mkF m 128 #[.val (.int u0), .val (.int u1), .val (.int (1 : Int32)), .val (.ref r5), .val (.int (0 : Int32)), .val (.int (0 : Int32)), .val (.int (1 : Int32)), .val (.int (1 : Int32))] []))
        refine go _ _ (fun t' k' => XS.iload X69.here hx rfl (hb hby at_128) rfl  k') ?_
        show G (T69.setTop (mkF m 130 #[.val (.int u0), .val (.int u1), .val (.int (1 : Int32)), .val (.ref r5), .val (.int (0 : Int32)), .val (.int (0 : Int32)), .val (.int (1 : Int32)), .val (.int (1 : Int32))] [(.int (0 : Int32))]))
        refine go _ _ (fun t' k' => XS.ifYes X69.here hx rfl (pc0 := 130) (pc' := 135) rfl (hb hby at_130) rfl (Free.XT.i0_eq_t (by decide)) (by decide) (by decide) k') ?_
        show G (T69.setTop (mkF m 135 #[.val (.int u0), .val (.int u1), .val (.int (1 : Int32)), .val (.ref r5), .val (.int (0 : Int32)), .val (.int (0 : Int32)), .val (.int (1 : Int32)), .val (.int (1 : Int32))] []))
        refine go _ _ (fun t' k' => XS.iload X69.here hx rfl (hb hby at_135) rfl  k') ?_
        show G (T69.setTop (mkF m 137 #[.val (.int u0), .val (.int u1), .val (.int (1 : Int32)), .val (.ref r5), .val (.int (0 : Int32)), .val (.int (0 : Int32)), .val (.int (1 : Int32)), .val (.int (1 : Int32))] [(.int (0 : Int32))]))
        refine go _ _ (fun t' k' => XS.iloadN X69.here hx rfl (hb hby at_137) rfl  k') ?_
        show G (T69.setTop (mkF m 138 #[.val (.int u0), .val (.int u1), .val (.int (1 : Int32)), .val (.ref r5), .val (.int (0 : Int32)), .val (.int (0 : Int32)), .val (.int (1 : Int32)), .val (.int (1 : Int32))] [(.int u0), (.int (0 : Int32))]))
        refine go _ _ (fun t' k' => XS.ifYes X69.here hx rfl (pc0 := 138) (pc' := 145) rfl (hb hby at_138) rfl (Free.XT.i0_ge_t c46) (by decide) (by decide) k') ?_
        show G (T69.setTop (mkF m 145 #[.val (.int u0), .val (.int u1), .val (.int (1 : Int32)), .val (.ref r5), .val (.int (0 : Int32)), .val (.int (0 : Int32)), .val (.int (1 : Int32)), .val (.int (1 : Int32))] [(.int (0 : Int32))]))
        refine go _ _ (fun t' k' => XS.iconst X69.here hx rfl (hb hby at_145) k') ?_
        show G (T69.setTop (mkF m 146 #[.val (.int u0), .val (.int u1), .val (.int (1 : Int32)), .val (.ref r5), .val (.int (0 : Int32)), .val (.int (0 : Int32)), .val (.int (1 : Int32)), .val (.int (1 : Int32))] [(.int (0 : Int32)), (.int (0 : Int32))]))
        refine go _ _ (fun t' k' => XS.icmpNo X69.here hx rfl (hb hby at_146) rfl (Free.XT.ii_ne_f (by decide)) k') ?_
        show G (T69.setTop (mkF m 149 #[.val (.int u0), .val (.int u1), .val (.int (1 : Int32)), .val (.ref r5), .val (.int (0 : Int32)), .val (.int (0 : Int32)), .val (.int (1 : Int32)), .val (.int (1 : Int32))] []))
        refine go _ _ (fun t' k' => XS.iload X69.here hx rfl (hb hby at_149) rfl  k') ?_
        show G (T69.setTop (mkF m 151 #[.val (.int u0), .val (.int u1), .val (.int (1 : Int32)), .val (.ref r5), .val (.int (0 : Int32)), .val (.int (0 : Int32)), .val (.int (1 : Int32)), .val (.int (1 : Int32))] [(.int (1 : Int32))]))
        refine go _ _ (fun t' k' => XS.iloadN X69.here hx rfl (hb hby at_151) rfl  k') ?_
        show G (T69.setTop (mkF m 152 #[.val (.int u0), .val (.int u1), .val (.int (1 : Int32)), .val (.ref r5), .val (.int (0 : Int32)), .val (.int (0 : Int32)), .val (.int (1 : Int32)), .val (.int (1 : Int32))] [(.int u0), (.int (1 : Int32))]))
        refine go _ _ (fun t' k' => XS.ifNo X69.here hx rfl (hb hby at_152) rfl (Free.XT.i0_le_f c58) k') ?_
        show G (T69.setTop (mkF m 155 #[.val (.int u0), .val (.int u1), .val (.int (1 : Int32)), .val (.ref r5), .val (.int (0 : Int32)), .val (.int (0 : Int32)), .val (.int (1 : Int32)), .val (.int (1 : Int32))] [(.int (1 : Int32))]))
        refine go _ _ (fun t' k' => XS.iconst X69.here hx rfl (hb hby at_155) k') ?_
        show G (T69.setTop (mkF m 156 #[.val (.int u0), .val (.int u1), .val (.int (1 : Int32)), .val (.ref r5), .val (.int (0 : Int32)), .val (.int (0 : Int32)), .val (.int (1 : Int32)), .val (.int (1 : Int32))] [(.int (1 : Int32)), (.int (1 : Int32))]))
        refine go _ _ (fun t' k' => XS.goto X69.here hx rfl (pc0 := 156) (pc' := 160) rfl (hb hby at_156) (by decide) (by decide) k') ?_
        show G (T69.setTop (mkF m 160 #[.val (.int u0), .val (.int u1), .val (.int (1 : Int32)), .val (.ref r5), .val (.int (0 : Int32)), .val (.int (0 : Int32)), .val (.int (1 : Int32)), .val (.int (1 : Int32))] [(.int (1 : Int32)), (.int (1 : Int32))]))
        refine go _ _ (fun t' k' => XS.icmpNo X69.here hx rfl (hb hby at_160) rfl (Free.XT.ii_ne_f (by decide)) k') ?_
        show G (T69.setTop (mkF m 163 #[.val (.int u0), .val (.int u1), .val (.int (1 : Int32)), .val (.ref r5), .val (.int (0 : Int32)), .val (.int (0 : Int32)), .val (.int (1 : Int32)), .val (.int (1 : Int32))] []))
        refine go _ _ (fun t' k' => XS.iload X69.here hx rfl (hb hby at_163) rfl  k') ?_
        show G (T69.setTop (mkF m 165 #[.val (.int u0), .val (.int u1), .val (.int (1 : Int32)), .val (.ref r5), .val (.int (0 : Int32)), .val (.int (0 : Int32)), .val (.int (1 : Int32)), .val (.int (1 : Int32))] [(.int (1 : Int32))]))
        refine go _ _ (fun t' k' => XS.iloadN X69.here hx rfl (hb hby at_165) rfl  k') ?_
        show G (T69.setTop (mkF m 166 #[.val (.int u0), .val (.int u1), .val (.int (1 : Int32)), .val (.ref r5), .val (.int (0 : Int32)), .val (.int (0 : Int32)), .val (.int (1 : Int32)), .val (.int (1 : Int32))] [(.int (1 : Int32)), (.int (1 : Int32))]))
        refine go _ _ (fun t' k' => XS.icmpNo X69.here hx rfl (hb hby at_166) rfl (Free.XT.ii_ne_f (by decide)) k') ?_
        show G (T69.setTop (mkF m 169 #[.val (.int u0), .val (.int u1), .val (.int (1 : Int32)), .val (.ref r5), .val (.int (0 : Int32)), .val (.int (0 : Int32)), .val (.int (1 : Int32)), .val (.int (1 : Int32))] []))
        refine go _ _ (fun t' k' => XS.iconst X69.here hx rfl (hb hby at_169) k') ?_
        show G (T69.setTop (mkF m 170 #[.val (.int u0), .val (.int u1), .val (.int (1 : Int32)), .val (.ref r5), .val (.int (0 : Int32)), .val (.int (0 : Int32)), .val (.int (1 : Int32)), .val (.int (1 : Int32))] [(.int (1 : Int32))]))
        refine go _ _ (fun t' k' => XS.goto X69.here hx rfl (pc0 := 170) (pc' := 174) rfl (hb hby at_170) (by decide) (by decide) k') ?_
        show G (T69.setTop (mkF m 174 #[.val (.int u0), .val (.int u1), .val (.int (1 : Int32)), .val (.ref r5), .val (.int (0 : Int32)), .val (.int (0 : Int32)), .val (.int (1 : Int32)), .val (.int (1 : Int32))] [(.int (1 : Int32))]))
        refine own_retZ rt X69 hx (t := .boolean) hret (by simp) (hb hby at_174) (by decide) (by decide) ?_
        exact ⟨rfl, N61⟩
      · have z70 : u0 = (0 : Int32) := Int32.le_antisymm (Int32.not_lt.mp c58) (Int32.not_lt.mp c46)
        refine own_static go X0 hx hZ e0 hown (hw _ (List.mem_of_getElem? (i := 0) rfl)) (hw _ (List.mem_of_getElem? (i := 1) rfl)) (hw _ (List.mem_of_getElem? (i := 2) rfl)) (hw _ (List.mem_of_getElem? (i := 3) rfl)) (by decide) (rm1 l Z a0 hw u0 (1 : Int32) r1 r2 r3 r4 r5 h0 n0 Z0 S1 S2 S3 S4 S5) 0 (by decide) (by decide) (by decide) (by decide) (g := (mkF m 14 #[.val (.int u0), .val (.int u1), .val (.int (1 : Int32)), .unset, .unset, .unset, .unset, .unset] [(.int (1 : Int32)), (.int u0)])) rfl (by rw [hml]; rfl) [(.int u0), (.int (1 : Int32))] [] rfl (lenOf pd_0 rfl) rfl (by show 2 * 0 + _ ≤ _; exact Nat.le_of_eq rfl) (hb hby at_14) ?_
        intro T71 L71 v71 X71 q71
        obtain ⟨rfl, N71, hh71⟩ := q71
        have N72 := Fr.app N0 N71
        rw [show ofV r1 r2 r3 r4 r5 u0 (1 : Int32) = (.ref r3) from by simp [ofV, c11, c46, c58, z70]]
        show G (T71.setTop (mkF m 17 #[.val (.int u0), .val (.int u1), .val (.int (1 : Int32)), .unset, .unset, .unset, .unset, .unset] [(.ref r3)]))
        refine go _ _ (fun t' k' => XS.astoreN X71.here hx rfl (hb hby at_17) rfl rfl (l' := #[.val (.int u0), .val (.int u1), .val (.int (1 : Int32)), .val (.ref r3), .unset, .unset, .unset, .unset]) rfl k') ?_
        show G (T71.setTop (mkF m 18 #[.val (.int u0), .val (.int u1), .val (.int (1 : Int32)), .val (.ref r3), .unset, .unset, .unset, .unset] []))
        refine go _ _ (fun t' k' => XS.aloadN X71.here hx rfl (hb hby at_18) rfl rfl  k') ?_
        show G (T71.setTop (mkF m 19 #[.val (.int u0), .val (.int u1), .val (.int (1 : Int32)), .val (.ref r3), .unset, .unset, .unset, .unset] [(.ref r3)]))
        refine go _ _ (fun t' k' => XS.ifnonnullYes X71.here hx rfl (pc0 := 19) (pc' := 26) rfl (hb hby at_19) rfl (by decide) (by decide) k') ?_
        show G (T71.setTop (mkF m 26 #[.val (.int u0), .val (.int u1), .val (.int (1 : Int32)), .val (.ref r3), .unset, .unset, .unset, .unset] []))
        refine go _ _ (fun t' k' => XS.iconst X71.here hx rfl (hb hby at_26) k') ?_
        show G (T71.setTop (mkF m 27 #[.val (.int u0), .val (.int u1), .val (.int (1 : Int32)), .val (.ref r3), .unset, .unset, .unset, .unset] [(.int (0 : Int32))]))
        refine go _ _ (fun t' k' => XS.istore X71.here hx rfl (hb hby at_27) rfl (l' := #[.val (.int u0), .val (.int u1), .val (.int (1 : Int32)), .val (.ref r3), .val (.int (0 : Int32)), .unset, .unset, .unset]) rfl k') ?_
        show G (T71.setTop (mkF m 29 #[.val (.int u0), .val (.int u1), .val (.int (1 : Int32)), .val (.ref r3), .val (.int (0 : Int32)), .unset, .unset, .unset] []))
        refine go _ _ (fun t' k' => XS.aloadN X71.here hx rfl (hb hby at_29) rfl rfl  k') ?_
        show G (T71.setTop (mkF m 30 #[.val (.int u0), .val (.int u1), .val (.int (1 : Int32)), .val (.ref r3), .val (.int (0 : Int32)), .unset, .unset, .unset] [(.ref r3)]))
        obtain ⟨T73, X73, e73, st73⟩ := getS X71 hx hZ hown (host := "") (hw _ (List.mem_of_getElem? (i := 6) rfl)) Via.refl hh71 S1 (g := (mkF m 30 #[.val (.int u0), .val (.int u1), .val (.int (1 : Int32)), .val (.ref r3), .val (.int (0 : Int32)), .unset, .unset, .unset] [(.ref r3)])) rfl (hb hby at_30)
        refine go _ _ st73 ?_
        show G (T73.setTop (mkF m 33 #[.val (.int u0), .val (.int u1), .val (.int (1 : Int32)), .val (.ref r3), .val (.int (0 : Int32)), .unset, .unset, .unset] [(.ref r1), (.ref r3)]))
        refine go _ _ (fun t' k' => Jvm.RoadKit.acmp (g := (mkF m 33 #[.val (.int u0), .val (.int u1), .val (.int (1 : Int32)), .val (.ref r3), .val (.int (0 : Int32)), .unset, .unset, .unset] [(.ref r1), (.ref r3)])) X73 hx rfl (x := (.ref r3)) (y := (.ref r1)) rfl rfl (rest := []) (pc0 := 33) (pc' := 36) (same := false) rfl (hb hby at_33) rfl (decide_eq_false (fun z => (Ne.symm n13) (Value.ref.inj z))) (by decide) (by decide) k') ?_
        show G (T73.setTop (mkF m 36 #[.val (.int u0), .val (.int u1), .val (.int (1 : Int32)), .val (.ref r3), .val (.int (0 : Int32)), .unset, .unset, .unset] []))
        refine go _ _ (fun t' k' => XS.aloadN X73.here hx rfl (hb hby at_36) rfl rfl  k') ?_
        show G (T73.setTop (mkF m 37 #[.val (.int u0), .val (.int u1), .val (.int (1 : Int32)), .val (.ref r3), .val (.int (0 : Int32)), .unset, .unset, .unset] [(.ref r3)]))
        obtain ⟨T74, X74, e74, st74⟩ := getS X73 hx hZ hown (host := "") (hw _ (List.mem_of_getElem? (i := 8) rfl)) Via.refl e73 S4 (g := (mkF m 37 #[.val (.int u0), .val (.int u1), .val (.int (1 : Int32)), .val (.ref r3), .val (.int (0 : Int32)), .unset, .unset, .unset] [(.ref r3)])) rfl (hb hby at_37)
        refine go _ _ st74 ?_
        show G (T74.setTop (mkF m 40 #[.val (.int u0), .val (.int u1), .val (.int (1 : Int32)), .val (.ref r3), .val (.int (0 : Int32)), .unset, .unset, .unset] [(.ref r4), (.ref r3)]))
        refine go _ _ (fun t' k' => Jvm.RoadKit.acmp (g := (mkF m 40 #[.val (.int u0), .val (.int u1), .val (.int (1 : Int32)), .val (.ref r3), .val (.int (0 : Int32)), .unset, .unset, .unset] [(.ref r4), (.ref r3)])) X74 hx rfl (x := (.ref r3)) (y := (.ref r4)) rfl rfl (rest := []) (pc0 := 40) (pc' := 47) (same := false) rfl (hb hby at_40) rfl (decide_eq_false (fun z => n34 (Value.ref.inj z))) (by decide) (by decide) k') ?_
        show G (T74.setTop (mkF m 47 #[.val (.int u0), .val (.int u1), .val (.int (1 : Int32)), .val (.ref r3), .val (.int (0 : Int32)), .unset, .unset, .unset] []))
        refine go _ _ (fun t' k' => XS.iconst X74.here hx rfl (hb hby at_47) k') ?_
        show G (T74.setTop (mkF m 48 #[.val (.int u0), .val (.int u1), .val (.int (1 : Int32)), .val (.ref r3), .val (.int (0 : Int32)), .unset, .unset, .unset] [(.int (0 : Int32))]))
        refine go _ _ (fun t' k' => XS.istore X74.here hx rfl (hb hby at_48) rfl (l' := #[.val (.int u0), .val (.int u1), .val (.int (1 : Int32)), .val (.ref r3), .val (.int (0 : Int32)), .val (.int (0 : Int32)), .unset, .unset]) rfl k') ?_
        show G (T74.setTop (mkF m 50 #[.val (.int u0), .val (.int u1), .val (.int (1 : Int32)), .val (.ref r3), .val (.int (0 : Int32)), .val (.int (0 : Int32)), .unset, .unset] []))
        refine go _ _ (fun t' k' => XS.aloadN X74.here hx rfl (hb hby at_50) rfl rfl  k') ?_
        show G (T74.setTop (mkF m 51 #[.val (.int u0), .val (.int u1), .val (.int (1 : Int32)), .val (.ref r3), .val (.int (0 : Int32)), .val (.int (0 : Int32)), .unset, .unset] [(.ref r3)]))
        obtain ⟨T75, X75, e75, st75⟩ := getS X74 hx hZ hown (host := "") (hw _ (List.mem_of_getElem? (i := 10) rfl)) Via.refl e74 S2 (g := (mkF m 51 #[.val (.int u0), .val (.int u1), .val (.int (1 : Int32)), .val (.ref r3), .val (.int (0 : Int32)), .val (.int (0 : Int32)), .unset, .unset] [(.ref r3)])) rfl (hb hby at_51)
        refine go _ _ st75 ?_
        show G (T75.setTop (mkF m 54 #[.val (.int u0), .val (.int u1), .val (.int (1 : Int32)), .val (.ref r3), .val (.int (0 : Int32)), .val (.int (0 : Int32)), .unset, .unset] [(.ref r2), (.ref r3)]))
        refine go _ _ (fun t' k' => Jvm.RoadKit.acmp (g := (mkF m 54 #[.val (.int u0), .val (.int u1), .val (.int (1 : Int32)), .val (.ref r3), .val (.int (0 : Int32)), .val (.int (0 : Int32)), .unset, .unset] [(.ref r2), (.ref r3)])) X75 hx rfl (x := (.ref r3)) (y := (.ref r2)) rfl rfl (rest := []) (pc0 := 54) (pc' := 57) (same := false) rfl (hb hby at_54) rfl (decide_eq_false (fun z => (Ne.symm n23) (Value.ref.inj z))) (by decide) (by decide) k') ?_
        show G (T75.setTop (mkF m 57 #[.val (.int u0), .val (.int u1), .val (.int (1 : Int32)), .val (.ref r3), .val (.int (0 : Int32)), .val (.int (0 : Int32)), .unset, .unset] []))
        refine go _ _ (fun t' k' => XS.aloadN X75.here hx rfl (hb hby at_57) rfl rfl  k') ?_
        show G (T75.setTop (mkF m 58 #[.val (.int u0), .val (.int u1), .val (.int (1 : Int32)), .val (.ref r3), .val (.int (0 : Int32)), .val (.int (0 : Int32)), .unset, .unset] [(.ref r3)]))
        obtain ⟨T76, X76, e76, st76⟩ := getS X75 hx hZ hown (host := "") (hw _ (List.mem_of_getElem? (i := 12) rfl)) Via.refl e75 S5 (g := (mkF m 58 #[.val (.int u0), .val (.int u1), .val (.int (1 : Int32)), .val (.ref r3), .val (.int (0 : Int32)), .val (.int (0 : Int32)), .unset, .unset] [(.ref r3)])) rfl (hb hby at_58)
        refine go _ _ st76 ?_
        show G (T76.setTop (mkF m 61 #[.val (.int u0), .val (.int u1), .val (.int (1 : Int32)), .val (.ref r3), .val (.int (0 : Int32)), .val (.int (0 : Int32)), .unset, .unset] [(.ref r5), (.ref r3)]))
        refine go _ _ (fun t' k' => Jvm.RoadKit.acmp (g := (mkF m 61 #[.val (.int u0), .val (.int u1), .val (.int (1 : Int32)), .val (.ref r3), .val (.int (0 : Int32)), .val (.int (0 : Int32)), .unset, .unset] [(.ref r5), (.ref r3)])) X76 hx rfl (x := (.ref r3)) (y := (.ref r5)) rfl rfl (rest := []) (pc0 := 61) (pc' := 68) (same := false) rfl (hb hby at_61) rfl (decide_eq_false (fun z => n35 (Value.ref.inj z))) (by decide) (by decide) k') ?_
        show G (T76.setTop (mkF m 68 #[.val (.int u0), .val (.int u1), .val (.int (1 : Int32)), .val (.ref r3), .val (.int (0 : Int32)), .val (.int (0 : Int32)), .unset, .unset] []))
        refine go _ _ (fun t' k' => XS.iconst X76.here hx rfl (hb hby at_68) k') ?_
        show G (T76.setTop (mkF m 69 #[.val (.int u0), .val (.int u1), .val (.int (1 : Int32)), .val (.ref r3), .val (.int (0 : Int32)), .val (.int (0 : Int32)), .unset, .unset] [(.int (0 : Int32))]))
        refine go _ _ (fun t' k' => XS.istore X76.here hx rfl (hb hby at_69) rfl (l' := #[.val (.int u0), .val (.int u1), .val (.int (1 : Int32)), .val (.ref r3), .val (.int (0 : Int32)), .val (.int (0 : Int32)), .val (.int (0 : Int32)), .unset]) rfl k') ?_
        show G (T76.setTop (mkF m 71 #[.val (.int u0), .val (.int u1), .val (.int (1 : Int32)), .val (.ref r3), .val (.int (0 : Int32)), .val (.int (0 : Int32)), .val (.int (0 : Int32)), .unset] []))
        refine go _ _ (fun t' k' => XS.aloadN X76.here hx rfl (hb hby at_71) rfl rfl  k') ?_
        show G (T76.setTop (mkF m 72 #[.val (.int u0), .val (.int u1), .val (.int (1 : Int32)), .val (.ref r3), .val (.int (0 : Int32)), .val (.int (0 : Int32)), .val (.int (0 : Int32)), .unset] [(.ref r3)]))
        obtain ⟨T77, X77, e77, st77⟩ := getS X76 hx hZ hown (host := "") (hw _ (List.mem_of_getElem? (i := 14) rfl)) Via.refl e76 S3 (g := (mkF m 72 #[.val (.int u0), .val (.int u1), .val (.int (1 : Int32)), .val (.ref r3), .val (.int (0 : Int32)), .val (.int (0 : Int32)), .val (.int (0 : Int32)), .unset] [(.ref r3)])) rfl (hb hby at_72)
        refine go _ _ st77 ?_
        show G (T77.setTop (mkF m 75 #[.val (.int u0), .val (.int u1), .val (.int (1 : Int32)), .val (.ref r3), .val (.int (0 : Int32)), .val (.int (0 : Int32)), .val (.int (0 : Int32)), .unset] [(.ref r3), (.ref r3)]))
        refine go _ _ (fun t' k' => Jvm.RoadKit.acmp (g := (mkF m 75 #[.val (.int u0), .val (.int u1), .val (.int (1 : Int32)), .val (.ref r3), .val (.int (0 : Int32)), .val (.int (0 : Int32)), .val (.int (0 : Int32)), .unset] [(.ref r3), (.ref r3)])) X77 hx rfl (x := (.ref r3)) (y := (.ref r3)) rfl rfl (rest := []) (pc0 := 75) (pc' := 92) (same := true) rfl (hb hby at_75) rfl (decide_eq_true rfl) (by decide) (by decide) k') ?_
        show G (T77.setTop (mkF m 92 #[.val (.int u0), .val (.int u1), .val (.int (1 : Int32)), .val (.ref r3), .val (.int (0 : Int32)), .val (.int (0 : Int32)), .val (.int (0 : Int32)), .unset] []))
        refine go _ _ (fun t' k' => XS.iconst X77.here hx rfl (hb hby at_92) k') ?_
        show G (T77.setTop (mkF m 93 #[.val (.int u0), .val (.int u1), .val (.int (1 : Int32)), .val (.ref r3), .val (.int (0 : Int32)), .val (.int (0 : Int32)), .val (.int (0 : Int32)), .unset] [(.int (1 : Int32))]))
        refine go _ _ (fun t' k' => XS.goto X77.here hx rfl (pc0 := 93) (pc' := 97) rfl (hb hby at_93) (by decide) (by decide) k') ?_
        show G (T77.setTop (mkF m 97 #[.val (.int u0), .val (.int u1), .val (.int (1 : Int32)), .val (.ref r3), .val (.int (0 : Int32)), .val (.int (0 : Int32)), .val (.int (0 : Int32)), .unset] [(.int (1 : Int32))]))
        refine go _ _ (fun t' k' => XS.istore X77.here hx rfl (hb hby at_97) rfl (l' := #[.val (.int u0), .val (.int u1), .val (.int (1 : Int32)), .val (.ref r3), .val (.int (0 : Int32)), .val (.int (0 : Int32)), .val (.int (0 : Int32)), .val (.int (1 : Int32))]) rfl k') ?_
        show G (T77.setTop (mkF m 99 #[.val (.int u0), .val (.int u1), .val (.int (1 : Int32)), .val (.ref r3), .val (.int (0 : Int32)), .val (.int (0 : Int32)), .val (.int (0 : Int32)), .val (.int (1 : Int32))] []))
        refine go _ _ (fun t' k' => XS.iload X77.here hx rfl (hb hby at_99) rfl  k') ?_
        show G (T77.setTop (mkF m 101 #[.val (.int u0), .val (.int u1), .val (.int (1 : Int32)), .val (.ref r3), .val (.int (0 : Int32)), .val (.int (0 : Int32)), .val (.int (0 : Int32)), .val (.int (1 : Int32))] [(.int (0 : Int32))]))
        refine go _ _ (fun t' k' => XS.iloadN X77.here hx rfl (hb hby at_101) rfl  k') ?_
        show G (T77.setTop (mkF m 102 #[.val (.int u0), .val (.int u1), .val (.int (1 : Int32)), .val (.ref r3), .val (.int (0 : Int32)), .val (.int (0 : Int32)), .val (.int (0 : Int32)), .val (.int (1 : Int32))] [(.int u0), (.int (0 : Int32))]))
        refine go _ _ (fun t' k' => XS.ifNo X77.here hx rfl (hb hby at_102) rfl (Free.XT.i0_ne_f z70) k') ?_
        show G (T77.setTop (mkF m 105 #[.val (.int u0), .val (.int u1), .val (.int (1 : Int32)), .val (.ref r3), .val (.int (0 : Int32)), .val (.int (0 : Int32)), .val (.int (0 : Int32)), .val (.int (1 : Int32))] [(.int (0 : Int32))]))
        refine go _ _ (fun t' k' => XS.iloadN X77.here hx rfl (hb hby at_105) rfl  k') ?_
        show G (T77.setTop (mkF m 106 #[.val (.int u0), .val (.int u1), .val (.int (1 : Int32)), .val (.ref r3), .val (.int (0 : Int32)), .val (.int (0 : Int32)), .val (.int (0 : Int32)), .val (.int (1 : Int32))] [(.int (1 : Int32)), (.int (0 : Int32))]))
        refine go _ _ (fun t' k' => XS.ifYes X77.here hx rfl (pc0 := 106) (pc' := 113) rfl (hb hby at_106) rfl (Free.XT.i0_ne_t (by decide)) (by decide) (by decide) k') ?_
        show G (T77.setTop (mkF m 113 #[.val (.int u0), .val (.int u1), .val (.int (1 : Int32)), .val (.ref r3), .val (.int (0 : Int32)), .val (.int (0 : Int32)), .val (.int (0 : Int32)), .val (.int (1 : Int32))] [(.int (0 : Int32))]))
        refine go _ _ (fun t' k' => XS.iconst X77.here hx rfl (hb hby at_113) k') ?_
        show G (T77.setTop (mkF m 114 #[.val (.int u0), .val (.int u1), .val (.int (1 : Int32)), .val (.ref r3), .val (.int (0 : Int32)), .val (.int (0 : Int32)), .val (.int (0 : Int32)), .val (.int (1 : Int32))] [(.int (0 : Int32)), (.int (0 : Int32))]))
        refine go _ _ (fun t' k' => XS.icmpYes X77.here hx rfl (pc0 := 114) (pc' := 119) rfl (hb hby at_114) rfl (Free.XT.ii_eq_t (by decide)) (by decide) (by decide) k') ?_
        show G (T77.setTop (mkF m 119 #[.val (.int u0), .val (.int u1), .val (.int (1 : Int32)), .val (.ref r3), .val (.int (0 : Int32)), .val (.int (0 : Int32)), .val (.int (0 : Int32)), .val (.int (1 : Int32))] []))
        refine go _ _ (fun t' k' => XS.aloadN X77.here hx rfl (hb hby at_119) rfl rfl  k') ?_
        show G (T77.setTop (mkF m 120 #[.val (.int u0), .val (.int u1), .val (.int (1 : Int32)), .val (.ref r3), .val (.int (0 : Int32)), .val (.int (0 : Int32)), .val (.int (0 : Int32)), .val (.int (1 : Int32))] [(.ref r3)]))
        obtain ⟨T78, X78, e78, st78⟩ := getS X77 hx hZ hown (host := "") (hw _ (List.mem_of_getElem? (i := 15) rfl)) Via.refl e77 S0 (g := (mkF m 120 #[.val (.int u0), .val (.int u1), .val (.int (1 : Int32)), .val (.ref r3), .val (.int (0 : Int32)), .val (.int (0 : Int32)), .val (.int (0 : Int32)), .val (.int (1 : Int32))] [(.ref r3)])) rfl (hb hby at_120)
        refine go _ _ st78 ?_
        show G (T78.setTop (mkF m 123 #[.val (.int u0), .val (.int u1), .val (.int (1 : Int32)), .val (.ref r3), .val (.int (0 : Int32)), .val (.int (0 : Int32)), .val (.int (0 : Int32)), .val (.int (1 : Int32))] [(.ref r0), (.ref r3)]))
        refine go _ _ (fun t' k' => Jvm.RoadKit.acmp (g := (mkF m 123 #[.val (.int u0), .val (.int u1), .val (.int (1 : Int32)), .val (.ref r3), .val (.int (0 : Int32)), .val (.int (0 : Int32)), .val (.int (0 : Int32)), .val (.int (1 : Int32))] [(.ref r0), (.ref r3)])) X78 hx rfl (x := (.ref r3)) (y := (.ref r0)) rfl rfl (rest := []) (pc0 := 123) (pc' := 128) (same := false) rfl (hb hby at_123) rfl (decide_eq_false (fun z => (Ne.symm n03) (Value.ref.inj z))) (by decide) (by decide) k') ?_
        show G (T78.setTop (mkF m 128 #[.val (.int u0), .val (.int u1), .val (.int (1 : Int32)), .val (.ref r3), .val (.int (0 : Int32)), .val (.int (0 : Int32)), .val (.int (0 : Int32)), .val (.int (1 : Int32))] []))
        refine go _ _ (fun t' k' => XS.iload X78.here hx rfl (hb hby at_128) rfl  k') ?_
        show G (T78.setTop (mkF m 130 #[.val (.int u0), .val (.int u1), .val (.int (1 : Int32)), .val (.ref r3), .val (.int (0 : Int32)), .val (.int (0 : Int32)), .val (.int (0 : Int32)), .val (.int (1 : Int32))] [(.int (0 : Int32))]))
        refine go _ _ (fun t' k' => XS.ifYes X78.here hx rfl (pc0 := 130) (pc' := 135) rfl (hb hby at_130) rfl (Free.XT.i0_eq_t (by decide)) (by decide) (by decide) k') ?_
        show G (T78.setTop (mkF m 135 #[.val (.int u0), .val (.int u1), .val (.int (1 : Int32)), .val (.ref r3), .val (.int (0 : Int32)), .val (.int (0 : Int32)), .val (.int (0 : Int32)), .val (.int (1 : Int32))] []))
        refine go _ _ (fun t' k' => XS.iload X78.here hx rfl (hb hby at_135) rfl  k') ?_
        show G (T78.setTop (mkF m 137 #[.val (.int u0), .val (.int u1), .val (.int (1 : Int32)), .val (.ref r3), .val (.int (0 : Int32)), .val (.int (0 : Int32)), .val (.int (0 : Int32)), .val (.int (1 : Int32))] [(.int (0 : Int32))]))
        refine go _ _ (fun t' k' => XS.iloadN X78.here hx rfl (hb hby at_137) rfl  k') ?_
        show G (T78.setTop (mkF m 138 #[.val (.int u0), .val (.int u1), .val (.int (1 : Int32)), .val (.ref r3), .val (.int (0 : Int32)), .val (.int (0 : Int32)), .val (.int (0 : Int32)), .val (.int (1 : Int32))] [(.int u0), (.int (0 : Int32))]))
        refine go _ _ (fun t' k' => XS.ifYes X78.here hx rfl (pc0 := 138) (pc' := 145) rfl (hb hby at_138) rfl (Free.XT.i0_ge_t c46) (by decide) (by decide) k') ?_
        show G (T78.setTop (mkF m 145 #[.val (.int u0), .val (.int u1), .val (.int (1 : Int32)), .val (.ref r3), .val (.int (0 : Int32)), .val (.int (0 : Int32)), .val (.int (0 : Int32)), .val (.int (1 : Int32))] [(.int (0 : Int32))]))
        refine go _ _ (fun t' k' => XS.iconst X78.here hx rfl (hb hby at_145) k') ?_
        show G (T78.setTop (mkF m 146 #[.val (.int u0), .val (.int u1), .val (.int (1 : Int32)), .val (.ref r3), .val (.int (0 : Int32)), .val (.int (0 : Int32)), .val (.int (0 : Int32)), .val (.int (1 : Int32))] [(.int (0 : Int32)), (.int (0 : Int32))]))
        refine go _ _ (fun t' k' => XS.icmpNo X78.here hx rfl (hb hby at_146) rfl (Free.XT.ii_ne_f (by decide)) k') ?_
        show G (T78.setTop (mkF m 149 #[.val (.int u0), .val (.int u1), .val (.int (1 : Int32)), .val (.ref r3), .val (.int (0 : Int32)), .val (.int (0 : Int32)), .val (.int (0 : Int32)), .val (.int (1 : Int32))] []))
        refine go _ _ (fun t' k' => XS.iload X78.here hx rfl (hb hby at_149) rfl  k') ?_
        show G (T78.setTop (mkF m 151 #[.val (.int u0), .val (.int u1), .val (.int (1 : Int32)), .val (.ref r3), .val (.int (0 : Int32)), .val (.int (0 : Int32)), .val (.int (0 : Int32)), .val (.int (1 : Int32))] [(.int (0 : Int32))]))
        refine go _ _ (fun t' k' => XS.iloadN X78.here hx rfl (hb hby at_151) rfl  k') ?_
        show G (T78.setTop (mkF m 152 #[.val (.int u0), .val (.int u1), .val (.int (1 : Int32)), .val (.ref r3), .val (.int (0 : Int32)), .val (.int (0 : Int32)), .val (.int (0 : Int32)), .val (.int (1 : Int32))] [(.int u0), (.int (0 : Int32))]))
        refine go _ _ (fun t' k' => XS.ifYes X78.here hx rfl (pc0 := 152) (pc' := 159) rfl (hb hby at_152) rfl (Free.XT.i0_le_t c58) (by decide) (by decide) k') ?_
        show G (T78.setTop (mkF m 159 #[.val (.int u0), .val (.int u1), .val (.int (1 : Int32)), .val (.ref r3), .val (.int (0 : Int32)), .val (.int (0 : Int32)), .val (.int (0 : Int32)), .val (.int (1 : Int32))] [(.int (0 : Int32))]))
        refine go _ _ (fun t' k' => XS.iconst X78.here hx rfl (hb hby at_159) k') ?_
        show G (T78.setTop (mkF m 160 #[.val (.int u0), .val (.int u1), .val (.int (1 : Int32)), .val (.ref r3), .val (.int (0 : Int32)), .val (.int (0 : Int32)), .val (.int (0 : Int32)), .val (.int (1 : Int32))] [(.int (0 : Int32)), (.int (0 : Int32))]))
        refine go _ _ (fun t' k' => XS.icmpNo X78.here hx rfl (hb hby at_160) rfl (Free.XT.ii_ne_f (by decide)) k') ?_
        show G (T78.setTop (mkF m 163 #[.val (.int u0), .val (.int u1), .val (.int (1 : Int32)), .val (.ref r3), .val (.int (0 : Int32)), .val (.int (0 : Int32)), .val (.int (0 : Int32)), .val (.int (1 : Int32))] []))
        refine go _ _ (fun t' k' => XS.iload X78.here hx rfl (hb hby at_163) rfl  k') ?_
        show G (T78.setTop (mkF m 165 #[.val (.int u0), .val (.int u1), .val (.int (1 : Int32)), .val (.ref r3), .val (.int (0 : Int32)), .val (.int (0 : Int32)), .val (.int (0 : Int32)), .val (.int (1 : Int32))] [(.int (1 : Int32))]))
        refine go _ _ (fun t' k' => XS.iloadN X78.here hx rfl (hb hby at_165) rfl  k') ?_
        show G (T78.setTop (mkF m 166 #[.val (.int u0), .val (.int u1), .val (.int (1 : Int32)), .val (.ref r3), .val (.int (0 : Int32)), .val (.int (0 : Int32)), .val (.int (0 : Int32)), .val (.int (1 : Int32))] [(.int (1 : Int32)), (.int (1 : Int32))]))
        refine go _ _ (fun t' k' => XS.icmpNo X78.here hx rfl (hb hby at_166) rfl (Free.XT.ii_ne_f (by decide)) k') ?_
        show G (T78.setTop (mkF m 169 #[.val (.int u0), .val (.int u1), .val (.int (1 : Int32)), .val (.ref r3), .val (.int (0 : Int32)), .val (.int (0 : Int32)), .val (.int (0 : Int32)), .val (.int (1 : Int32))] []))
        refine go _ _ (fun t' k' => XS.iconst X78.here hx rfl (hb hby at_169) k') ?_
        show G (T78.setTop (mkF m 170 #[.val (.int u0), .val (.int u1), .val (.int (1 : Int32)), .val (.ref r3), .val (.int (0 : Int32)), .val (.int (0 : Int32)), .val (.int (0 : Int32)), .val (.int (1 : Int32))] [(.int (1 : Int32))]))
        refine go _ _ (fun t' k' => XS.goto X78.here hx rfl (pc0 := 170) (pc' := 174) rfl (hb hby at_170) (by decide) (by decide) k') ?_
        show G (T78.setTop (mkF m 174 #[.val (.int u0), .val (.int u1), .val (.int (1 : Int32)), .val (.ref r3), .val (.int (0 : Int32)), .val (.int (0 : Int32)), .val (.int (0 : Int32)), .val (.int (1 : Int32))] [(.int (1 : Int32))]))
        refine own_retZ rt X78 hx (t := .boolean) hret (by simp) (hb hby at_174) (by decide) (by decide) ?_
        exact ⟨rfl, N72⟩
set_option maxRecDepth 65536 in
set_option maxHeartbeats 40000000 in
theorem comes_1 {Post : Tables → Env → Array Value → State → Outcome → State → Prop} (hpost : ∀ tb e args s v u, (limb_1_1.after args s (.returned v) u = true ∧ limb_1_2.after args s (.returned v) u = true ∧ True) → FrameEnd s (.returned v) u (Jvm.fieldLocs frame_1_writes args s ++ Jvm.arrayLocs frame_1_arrays args s ++ Jvm.staticLocs frame_1_statics s) 0 0 → Post tb e args s (.returned v) u) :
    ArmFor flags0 classFile x code maxLocals ret World_1 tables_1 room_1 Calls_1 rest_1 Pre_1 Post := by
  intro l hfl _ _ p e ha hc hk s m args below hf hA hF happ hP
  obtain ⟨hcalls, hrest, hpre⟩ := hP
  obtain ⟨-, -, -, hnamed, -, -, -, hat⟩ := (Spec.applies_iff hf).mp happ
  obtain ⟨hg, hn⟩ := and_e (Cond.before_iff.mp (show (Jvm.Cond.and given_1 narrow_1).before args s = true from hpre))
  obtain ⟨k0, hg0⟩ := and_e hg
  obtain ⟨ka0, hg1⟩ := and_e hg0
  have ka1 := hg1
  obtain ⟨w0, w1, rfl⟩ : ∃ w0 w1 : Value, args = #[w0, w1] := by
    have hs : args.size = 2 := by simpa [Cond.value, given_1] using k0
    obtain ⟨L⟩ := args
    match L, hs with
    | [w0, w1], _ => exact ⟨w0, w1, rfl⟩
  have hw := fun d (hd : d ∈ tables_1) => atoms_spec (ws := Jvm.Cond.code x code maxLocals ret :: tables_1) hat d (List.mem_cons_of_mem _ hd)
  have hfit : Fit s := fun {y c} hc i hi => by
    obtain ⟨ha, rfl⟩ := Array.getElem?_eq_some_iff.mp hc
    have q := List.all_eq_true.mp ((Array.all_eq_true_iff_forall_mem.mp hF) _ (Array.getElem_mem ha)) i (List.mem_range.mpr hi)
    simpa [Array.getElem?_eq_getElem hi] using q
  obtain ⟨i0, ie0⟩ := is_v ka0
  obtain rfl : w0 = (.int i0) := Option.some.inj ie0
  obtain ⟨i1, ie1⟩ := is_v ka1
  obtain rfl : w1 = (.int i1) := Option.some.inj ie1
  obtain ⟨na0, nb0⟩ := and_e hn
  obtain ⟨na1, nb1⟩ := and_e nb0
  obtain ⟨na2, nb2⟩ := and_e nb1
  obtain ⟨na3, nb3⟩ := and_e nb2
  obtain ⟨na4, nb4⟩ := and_e nb3
  obtain ⟨na5, nb5⟩ := and_e nb4
  obtain ⟨na6, nb6⟩ := and_e nb5
  obtain ⟨na7, nb7⟩ := and_e nb6
  obtain ⟨na8, nb8⟩ := and_e nb7
  obtain ⟨na9, nb9⟩ := and_e nb8
  obtain ⟨na10, nb10⟩ := and_e nb9
  have na11 := nb10
  obtain ⟨r0, S0, E0, ev0⟩ := own_sta na10 ((hw _ (List.mem_of_getElem? (i := 2) rfl))) ((hw _ (List.mem_of_getElem? (i := 16) rfl)))
  have O0 := own_fieldeq ev0 na11
  obtain ⟨r1, S1, E1, ev1⟩ := own_sta na1 ((hw _ (List.mem_of_getElem? (i := 2) rfl))) ((hw _ (List.mem_of_getElem? (i := 7) rfl)))
  have O1 := own_fieldeq ev1 na3
  obtain ⟨r2, S2, E2, ev2⟩ := own_sta na6 ((hw _ (List.mem_of_getElem? (i := 2) rfl))) ((hw _ (List.mem_of_getElem? (i := 11) rfl)))
  have O2 := own_fieldeq ev2 na7
  obtain ⟨r3, S3, E3, ev3⟩ := own_sta na0 ((hw _ (List.mem_of_getElem? (i := 2) rfl))) ((hw _ (List.mem_of_getElem? (i := 5) rfl)))
  have O3 := own_fieldeq ev3 na2
  obtain ⟨r4, S4, E4, ev4⟩ := own_sta na4 ((hw _ (List.mem_of_getElem? (i := 2) rfl))) ((hw _ (List.mem_of_getElem? (i := 9) rfl)))
  have O4 := own_fieldeq ev4 na5
  obtain ⟨r5, S5, E5, ev5⟩ := own_sta na8 ((hw _ (List.mem_of_getElem? (i := 2) rfl))) ((hw _ (List.mem_of_getElem? (i := 13) rfl)))
  have O5 := own_fieldeq ev5 na9
  obtain ⟨n, o, h1, h2, h3, _, L, rfl, ⟨rfl, N⟩, hq⟩ := rm0 l s _ hw i0 i1 s.heap s.heap.size (Nat.le_refl _) r0 r1 r2 r3 r4 r5 S0 S1 S2 S3 S4 S5 (O0.ne O1 (by decide)) (O0.ne O2 (by decide)) (O0.ne O3 (by decide)) (O0.ne O4 (by decide)) (O0.ne O5 (by decide)) (O1.ne O2 (by decide)) (O1.ne O3 (by decide)) (O1.ne O4 (by decide)) (O1.ne O5 (by decide)) (O2.ne O3 (by decide)) (O2.ne O4 (by decide)) (O2.ne O5 (by decide)) (O3.ne O4 (by decide)) (O3.ne O5 (by decide)) (O4.ne O5 (by decide)) tables_1 p e ha hc hk s m _ below hf ((Spec.applies_iff_loose hf).mp happ).1 ⟨rfl, State.Warmed39.refl s, rfl⟩ trivial
  refine ⟨n, _, h1, h2, h3, hpost _ _ _ _ _ _ ⟨Cond.after_iff.mpr rfl, Cond.after_iff.mpr (eq_i res_at (Term.int_eval (1)) rfl), trivial⟩ ⟨hq.1, hq.2.1, (hq.2.2.sift fun y hy => Or.inr (N y hy)).mono (by decide) (by decide)⟩⟩
theorem main_1_1 : Claimed_1_1 := comes_1 fun _ _ _ _ _ _ h hF => ⟨h.1, hF⟩
theorem main_1_2 : Claimed_1_2 := comes_1 fun _ _ _ _ _ _ h hF => ⟨h.2.1, hF⟩
end Jvm.Pilot.@@N@@
namespace Jvm.Pilot.@@N@@
open Jvm Jvm.ClassFile Sem Op Lib Jvm.Free Jvm.Stand Jvm.Pilot.@@N@@.Jvm.D
/-! MADE BY PROGRAM (witnessworld.py) out of the Statement's table words and the real class files: 13 classes; the members and pool entries that the words name. The judged class is class 1, her method 1. -/
namespace start1
open Jvm.ClassFile
def u (s : String) : CpInfo := .utf8 (stringToUtf16 s)
/-- a pool by its gaps: so many unusable entries, then the entry; so many at the end -/
def gap : Nat → List CpInfo → List CpInfo
  | 0, r => r
  | n + 1, r => .unusable :: gap n r
def poolList (es : List (Nat × CpInfo)) (last : Nat) : List CpInfo := es.foldr (fun e r => gap e.1 (e.2 :: r)) (gap last [])
def pool (es : List (Nat × CpInfo)) (last : Nat) : Array CpInfo := ⟨poolList es last⟩
def fileOf (pool : Array CpInfo) (this : Nat) (attrs : Array Attribute := #[]) (ms : Array MethodInfo := #[]) (fl : Nat := 33) (sup : Nat := 0) (ifs : Array Nat := #[]) (fds : Array FieldInfo := #[]) : ClassFile where
  minorVersion := 0
  majorVersion := 65
  constantPool := pool
  accessFlags := fl
  thisClass := this
  superClass := sup
  interfaces := ifs
  fields := fds
  methods := ms
  attributes := attrs
def plain (name : String) (sup : Option ClassId) : Class where
  name := name
  kind := .ordinary
  loader := none
  accessFlags := 33
  super := sup
  interfaces := #[]
  cf := none
  fields := #[]
  methods := #[]
  instanceTypes := #[]
  staticTypes := #[]
  resolved := #[]
  callSites := []
  init := .initialized
  statics := none
  mirror := none

def pool0 : Array CpInfo := pool [(5, u "<init>"), (0, u "()V"), (1, .class_ 10), (1, u "java/lang/Object")] 113

def k0m0 : Method := { name := "<init>", desc := "()V", sig := { parameters := [], returnType := none }, accessFlags := 1, code := none }
/-- java/lang/Object -/
def k0 : Class := { plain "java/lang/Object" none with
  accessFlags := 33
  interfaces := #[]
  cf := some (fileOf pool0 8 #[] #[{ accessFlags := 1, nameIndex := 5, descriptorIndex := 6, attributes := #[] }] 33 0 #[] #[])
  fields := #[]
  methods := #[k0m0]
  instanceTypes := #[]
  staticTypes := #[]
  resolved := Array.replicate 124 none
  statics := none }

def pool1 : Array CpInfo := pool [(2, .class_ 4), (1, u "java/lang/Object"), (0, u "<init>"), (0, u "()V"), (0, .methodref 8 9), (0, .class_ 10), (0, .nameAndType 11 12), (0, u "com/example/lotwise/lotwise/report/ReceiptAction"), (0, u "of"), (0, u "(IZ)Lcom/example/lotwise/lotwise/report/ReceiptAction;"), (0, .fieldref 8 14), (0, .nameAndType 15 16), (0, u "RESCHEDULE_IN"), (0, u "Lcom/example/lotwise/lotwise/report/ReceiptAction;"), (0, .fieldref 8 18), (0, .nameAndType 19 16), (0, u "RESCHEDULE_IN_AND_DECREASE"), (0, .fieldref 8 21), (0, .nameAndType 22 16), (0, u "RESCHEDULE_OUT"), (0, .fieldref 8 24), (0, .nameAndType 25 16), (0, u "RESCHEDULE_OUT_AND_DECREASE"), (0, .fieldref 8 27), (0, .nameAndType 28 16), (0, u "DECREASE"), (0, .fieldref 8 30), (0, .nameAndType 31 16), (0, u "CANCEL"), (0, .class_ 33), (0, u "com/example/lotwise/lotwise/report/ReceiptActionOfPinLaw"), (2, u "law"), (0, u "(II)Z")] 3

def k1m0 : Method := { name := "<init>", desc := "()V", sig := { parameters := [], returnType := none }, accessFlags := 1, code := none }
def k1c1 : Code := { maxStack := 2, maxLocals := 8, code := code, exceptionTable := #[], attributes := #[] }
def k1m1 : Method := { name := "law", desc := "(II)Z", sig := { parameters := [.int, .int], returnType := some .boolean }, accessFlags := 9, code := some k1c1 }
/-- com/example/lotwise/lotwise/report/ReceiptActionOfPinLaw -/
def k1 : Class := { plain "com/example/lotwise/lotwise/report/ReceiptActionOfPinLaw" (some 0) with
  accessFlags := 49
  interfaces := #[]
  cf := some (fileOf pool1 32 #[] #[{ accessFlags := 1, nameIndex := 5, descriptorIndex := 6, attributes := #[] }, { accessFlags := 9, nameIndex := 36, descriptorIndex := 37, attributes := #[] }] 49 2 #[] #[])
  fields := #[]
  methods := #[k1m0, k1m1]
  instanceTypes := #[]
  staticTypes := #[]
  resolved := Array.replicate 41 none
  statics := none }

def pool2 : Array CpInfo := pool [(1, .class_ 2), (0, u "java/lang/constant/Constable"), (0, .class_ 4), (0, u "java/lang/Object")] 6

/-- java/lang/constant/Constable -/
def k2 : Class := { plain "java/lang/constant/Constable" (some 0) with
  accessFlags := 1537
  interfaces := #[]
  cf := some (fileOf pool2 1 #[] #[] 1537 3 #[] #[])
  fields := #[]
  methods := #[]
  instanceTypes := #[]
  staticTypes := #[]
  resolved := Array.replicate 11 none
  statics := none }

def pool3 : Array CpInfo := pool [(1, .class_ 2), (0, u "java/lang/Comparable"), (0, .class_ 4), (0, u "java/lang/Object")] 7

/-- java/lang/Comparable -/
def k3 : Class := { plain "java/lang/Comparable" (some 0) with
  accessFlags := 1537
  interfaces := #[]
  cf := some (fileOf pool3 1 #[] #[] 1537 3 #[] #[])
  fields := #[]
  methods := #[]
  instanceTypes := #[]
  staticTypes := #[]
  resolved := Array.replicate 12 none
  statics := none }

def pool4 : Array CpInfo := pool [(1, .class_ 2), (0, u "java/io/Serializable"), (0, .class_ 4), (0, u "java/lang/Object")] 2

/-- java/io/Serializable -/
def k4 : Class := { plain "java/io/Serializable" (some 0) with
  accessFlags := 1537
  interfaces := #[]
  cf := some (fileOf pool4 1 #[] #[] 1537 3 #[] #[])
  fields := #[]
  methods := #[]
  instanceTypes := #[]
  staticTypes := #[]
  resolved := Array.replicate 7 none
  statics := none }

def pool5 : Array CpInfo := pool [(2, .class_ 4), (1, u "java/lang/Enum"), (0, u "name"), (0, u "Ljava/lang/String;"), (2, u "ordinal"), (0, u "I"), (1, .class_ 14), (1, u "java/lang/Object"), (4, u "hash"), (86, .class_ 108), (1, u "java/lang/Enum$EnumDesc"), (2, .class_ 112), (0, u "java/lang/constant/Constable"), (0, .class_ 114), (0, u "java/lang/Comparable"), (0, .class_ 116), (0, u "java/io/Serializable")] 87

/-- java/lang/Enum -/
def k5 : Class := { plain "java/lang/Enum" (some 0) with
  accessFlags := 1057
  interfaces := #[2, 3, 4]
  cf := some (fileOf pool5 2 #[.nestMembers #[106]] #[] 1057 12 #[111, 113, 115] #[{ accessFlags := 18, nameIndex := 5, descriptorIndex := 6, attributes := #[] }, { accessFlags := 18, nameIndex := 9, descriptorIndex := 10, attributes := #[] }, { accessFlags := 2, nameIndex := 19, descriptorIndex := 10, attributes := #[] }])
  fields := #[{ name := "name", type := (.object "java/lang/String"), accessFlags := 18, slot := 0, constantValue := 0 }, { name := "ordinal", type := .int, accessFlags := 18, slot := 1, constantValue := 0 }, { name := "hash", type := .int, accessFlags := 2, slot := 2, constantValue := 0 }]
  methods := #[]
  instanceTypes := #[(.object "java/lang/String"), .int, .int]
  staticTypes := #[]
  resolved := Array.replicate 204 none
  statics := none }

def pool6 : Array CpInfo := pool [(1, .class_ 2), (0, u "com/example/lotwise/lotwise/value/Keyword"), (0, .class_ 4), (0, u "java/lang/Object")] 4

/-- com/example/lotwise/lotwise/value/Keyword -/
def k6 : Class := { plain "com/example/lotwise/lotwise/value/Keyword" (some 0) with
  accessFlags := 1537
  interfaces := #[]
  cf := some (fileOf pool6 1 #[] #[] 1537 3 #[] #[])
  fields := #[]
  methods := #[]
  instanceTypes := #[]
  staticTypes := #[]
  resolved := Array.replicate 9 none
  statics := none }

def pool7 : Array CpInfo := pool [(1, .class_ 2), (0, u "com/example/lotwise/lotwise/report/ReceiptAction"), (2, u "CANCEL"), (0, u "Lcom/example/lotwise/lotwise/report/ReceiptAction;"), (0, .fieldref 1 8), (0, .nameAndType 9 6), (0, u "RESCHEDULE_IN"), (0, .fieldref 1 11), (0, .nameAndType 12 6), (0, u "RESCHEDULE_OUT"), (0, .fieldref 1 14), (0, .nameAndType 15 6), (0, u "DECREASE"), (0, .fieldref 1 17), (0, .nameAndType 18 6), (0, u "RESCHEDULE_IN_AND_DECREASE"), (0, .fieldref 1 20), (0, .nameAndType 21 6), (0, u "RESCHEDULE_OUT_AND_DECREASE"), (2, u "$VALUES"), (0, u "[Lcom/example/lotwise/lotwise/report/ReceiptAction;"), (6, .class_ 34), (1, u "java/lang/Enum"), (8, u "text"), (0, u "Ljava/lang/String;"), (25, .class_ 71), (0, u "com/example/lotwise/lotwise/value/Keyword"), (7, u "of"), (0, u "(IZ)Lcom/example/lotwise/lotwise/report/ReceiptAction;")] 7

def k7c0 : Code := { maxStack := 1, maxLocals := 2, code := prog_134_method_4_code, exceptionTable := #[], attributes := #[] }
def k7m0 : Method := { name := "of", desc := "(IZ)Lcom/example/lotwise/lotwise/report/ReceiptAction;", sig := { parameters := [.int, .boolean], returnType := some (.object "com/example/lotwise/lotwise/report/ReceiptAction") }, accessFlags := 8, code := some k7c0 }
/-- com/example/lotwise/lotwise/report/ReceiptAction -/
def k7 : Class := { plain "com/example/lotwise/lotwise/report/ReceiptAction" (some 5) with
  accessFlags := 16433
  interfaces := #[6]
  cf := some (fileOf pool7 1 #[] #[{ accessFlags := 8, nameIndex := 79, descriptorIndex := 80, attributes := #[] }] 16433 32 #[70] #[{ accessFlags := 16409, nameIndex := 5, descriptorIndex := 6, attributes := #[] }, { accessFlags := 16409, nameIndex := 9, descriptorIndex := 6, attributes := #[] }, { accessFlags := 16409, nameIndex := 12, descriptorIndex := 6, attributes := #[] }, { accessFlags := 16409, nameIndex := 15, descriptorIndex := 6, attributes := #[] }, { accessFlags := 16409, nameIndex := 18, descriptorIndex := 6, attributes := #[] }, { accessFlags := 16409, nameIndex := 21, descriptorIndex := 6, attributes := #[] }, { accessFlags := 18, nameIndex := 43, descriptorIndex := 44, attributes := #[] }, { accessFlags := 4122, nameIndex := 24, descriptorIndex := 25, attributes := #[] }])
  fields := #[{ name := "CANCEL", type := (.object "com/example/lotwise/lotwise/report/ReceiptAction"), accessFlags := 16409, slot := 0, constantValue := 0 }, { name := "RESCHEDULE_IN", type := (.object "com/example/lotwise/lotwise/report/ReceiptAction"), accessFlags := 16409, slot := 1, constantValue := 0 }, { name := "RESCHEDULE_OUT", type := (.object "com/example/lotwise/lotwise/report/ReceiptAction"), accessFlags := 16409, slot := 2, constantValue := 0 }, { name := "DECREASE", type := (.object "com/example/lotwise/lotwise/report/ReceiptAction"), accessFlags := 16409, slot := 3, constantValue := 0 }, { name := "RESCHEDULE_IN_AND_DECREASE", type := (.object "com/example/lotwise/lotwise/report/ReceiptAction"), accessFlags := 16409, slot := 4, constantValue := 0 }, { name := "RESCHEDULE_OUT_AND_DECREASE", type := (.object "com/example/lotwise/lotwise/report/ReceiptAction"), accessFlags := 16409, slot := 5, constantValue := 0 }, { name := "text", type := (.object "java/lang/String"), accessFlags := 18, slot := 3, constantValue := 0 }, { name := "$VALUES", type := (.array (.object "com/example/lotwise/lotwise/report/ReceiptAction")), accessFlags := 4122, slot := 6, constantValue := 0 }]
  methods := #[k7m0]
  instanceTypes := #[(.object "java/lang/String"), .int, .int, (.object "java/lang/String")]
  staticTypes := #[(.object "com/example/lotwise/lotwise/report/ReceiptAction"), (.object "com/example/lotwise/lotwise/report/ReceiptAction"), (.object "com/example/lotwise/lotwise/report/ReceiptAction"), (.object "com/example/lotwise/lotwise/report/ReceiptAction"), (.object "com/example/lotwise/lotwise/report/ReceiptAction"), (.object "com/example/lotwise/lotwise/report/ReceiptAction"), (.array (.object "com/example/lotwise/lotwise/report/ReceiptAction"))]
  resolved := Array.replicate 88 none
  statics := some 0 }

def pool8 : Array CpInfo := pool [(1, u "java/lang/Cloneable"), (0, .class_ 1), (0, u "java/lang/Object"), (0, .class_ 3)] 3

/-- java/lang/Cloneable -/
def k8 : Class := { plain "java/lang/Cloneable" (some 0) with
  accessFlags := 1537
  interfaces := #[]
  cf := some (fileOf pool8 2 #[] #[] 1537 4 #[] #[])
  fields := #[]
  methods := #[]
  instanceTypes := #[]
  staticTypes := #[]
  resolved := Array.replicate 8 none
  statics := none }

/-- the primitive byte -/
def k9 : Class := { plain "byte" none with kind := .primitive 'B', accessFlags := 0x411 }
/-- [B -/
def k10 : Class := { plain "[B" (some 0) with kind := .array 9 .byte, interfaces := #[8, 4], accessFlags := 1041 }

/-- the primitive int -/
def k11 : Class := { plain "int" none with kind := .primitive 'I', accessFlags := 0x411 }
/-- [I -/
def k12 : Class := { plain "[I" (some 0) with kind := .array 11 .int, interfaces := #[8, 4], accessFlags := 1041 }

def heap : Heap := #[{ cls := 7, slots := #[.ref 1, .ref 2, .ref 3, .ref 4, .ref 5, .ref 6, .null], vm := .statics 7 },
  { cls := 7, slots := #[.null, .int 0, .int 0, .null], vm := .none },
  { cls := 7, slots := #[.null, .int 1, .int 0, .null], vm := .none },
  { cls := 7, slots := #[.null, .int 2, .int 0, .null], vm := .none },
  { cls := 7, slots := #[.null, .int 3, .int 0, .null], vm := .none },
  { cls := 7, slots := #[.null, .int 4, .int 0, .null], vm := .none },
  { cls := 7, slots := #[.null, .int 5, .int 0, .null], vm := .none }]
def classes : Array Class := #[k0, k1, k2, k3, k4, k5, k6, k7, k8, k9, k10, k11, k12]
def interned : List (Array UInt16 × Addr) := []
def slotsUsed : Nat := 31
def theMethod : MethodId := ⟨1, 1⟩
def args0 : Array Value := #[.int 5, .int 3]
def aboutOver (below : List Frame) : State where
  vm := { classes := classes, interned := interned.toArray }
  heap := heap
  slotsUsed := slotsUsed
  threads := #[{ frames := .invoking theMethod args0 :: below }]
def below0 : List Frame := [.native { method := ⟨0, 0⟩, args := #[] }]
def about1 : State := aboutOver below0
def p0 : Program := .bare "" "" ""
def e0 : Env := launch0.env 0 0 0
theorem w_frames : about1.frames = Frame.invoking theMethod args0 :: below0 := rfl
set_option maxRecDepth 65536 in
theorem w_args : argsFit about1.vm theMethod args0 = true := by decide +kernel
set_option maxRecDepth 65536 in
theorem w_heap : heapFits about1 = true := by decide +kernel
set_option maxRecDepth 65536 in
theorem w_runnable : about1.curStatus? = some .runnable := by decide +kernel
set_option maxRecDepth 65536 in
theorem w_alone : about1.alone = true := by decide +kernel
set_option maxRecDepth 65536 in
theorem w_named : about1.methodNamed? x = some theMethod := by decide +kernel
set_option maxRecDepth 65536 in
theorem w_hears : about1.hears theMethod below0 = true := by decide +kernel
set_option maxRecDepth 65536 in
theorem w_ripe : about1.ripe theMethod args0 below0 = true := by decide +kernel
theorem w_running : about1.status = .running := rfl
set_option maxRecDepth 65536 in
theorem w_room : about1.hasRoom e0.platform room_1 = true :=
  launch0.hasRoom_least _ room_1 (by decide +kernel) (by decide +kernel) (by decide +kernel) (by decide +kernel) (by decide +kernel) (by decide +kernel)
theorem allAtoms_all (ts : List Jvm.Cond) (a : Array Jvm.Value) (st : Jvm.State) : (allAtoms ts).before a st = ts.all (fun c => c.before a st) := by
  induction ts with
  | nil => rfl
  | cons c t ih =>
    show (Jvm.Cond.and c (allAtoms t)).before a st = _
    rw [Jvm.Cond.before_and, ih, List.all_cons]
def words1 : List Jvm.Cond := Jvm.Cond.code x code maxLocals ret :: tables_1
/-- a 'code' word, met by the world's own term for the bytes: nothing is compared byte by byte -/
theorem code_word {y : MethodName} {bytes : ByteArray} {mx : Nat} {rt : Option FieldType} {a : Array Value} {s : State} {m : MethodId} {meth : Method} {c : Code} (h1 : s.methodNamed? y = some m) (h2 : s.vm.method? m = some meth) (h3 : meth.code = some c) (h4 : c.code = bytes)
    (h5 : (c.maxLocals == mx && c.exceptionTable.isEmpty && decide (c.maxStack ≤ mostOperands) && decide (meth.sig.returnType = rt) && !meth.locks && decide (parseMethodDescriptor y.desc = some meth.sig)) = true) : (Jvm.Cond.code y bytes mx rt).before a s = true := by
  simp only [Bool.and_eq_true, beq_iff_eq, Bool.not_eq_true', decide_eq_true_eq] at h5
  obtain ⟨⟨⟨⟨⟨g1, g2⟩, g3⟩, g4⟩, g5⟩, g6⟩ := h5
  simp [Cond.before, Cond.holds, Cond.value, h1, h2, h3, h4, g1, g2, g3, g4, g5, g6]
def isCode : Jvm.Cond → Bool
  | .code _ _ _ _ => true
  | _ => false
theorem all_split {L : List Jvm.Cond} {P : Jvm.Cond → Bool} (h1 : L.all (fun c => isCode c || P c) = true) (h2 : ∀ c ∈ L.filter isCode, P c = true) : L.all P = true := by
  refine List.all_eq_true.mpr fun c hc => ?_
  have h := List.all_eq_true.mp h1 c hc
  rcases Bool.eq_false_or_eq_true (isCode c) with hi | hi
  · exact h2 c (List.mem_filter.mpr ⟨hc, hi⟩)
  · simpa [hi] using h
set_option maxRecDepth 65536 in
theorem w_c0 : (Jvm.Cond.code x code maxLocals ret).before args0 about1 = true := code_word (m := ⟨1, 1⟩) (meth := k1m1) (c := k1c1) (by decide +kernel) rfl rfl rfl (by decide +kernel)
set_option maxRecDepth 65536 in
theorem w_c1 : (Jvm.Cond.code ({ cls := "com/example/lotwise/lotwise/report/ReceiptAction", name := "of", desc := "(IZ)Lcom/example/lotwise/lotwise/report/ReceiptAction;" } : Jvm.MethodName) prog_134_method_4_code (2 : Nat) (Option.some (Jvm.ClassFile.FieldType.object "com/example/lotwise/lotwise/report/ReceiptAction"))).before args0 about1 = true := code_word (m := ⟨7, 0⟩) (meth := k7m0) (c := k7c0) (by decide +kernel) rfl rfl rfl (by decide +kernel)
def codes1 : List Jvm.Cond := [Jvm.Cond.code x code maxLocals ret, Jvm.Cond.code ({ cls := "com/example/lotwise/lotwise/report/ReceiptAction", name := "of", desc := "(IZ)Lcom/example/lotwise/lotwise/report/ReceiptAction;" } : Jvm.MethodName) prog_134_method_4_code (2 : Nat) (Option.some (Jvm.ClassFile.FieldType.object "com/example/lotwise/lotwise/report/ReceiptAction"))]
set_option maxRecDepth 65536 in
theorem codes_eq : words1.filter isCode = codes1 := rfl
theorem w_codes : ∀ c ∈ words1.filter isCode, c.before args0 about1 = true := by
  rw [codes_eq]
  intro c hc
  simp only [codes1, List.mem_cons, List.not_mem_nil, or_false] at hc
  rcases hc with rfl | rfl
  · exact w_c0
  · exact w_c1
set_option maxRecDepth 65536 in
theorem w_t1 : words1.all (fun c => isCode c || c.before args0 about1) = true := by decide +kernel
theorem w_tables : (allAtoms (Jvm.Cond.code x code maxLocals ret :: tables_1)).before args0 about1 = true := by
  rw [allAtoms_all]
  show words1.all (fun c => c.before args0 about1) = true
  refine all_split ?_ w_codes
  rw [w_t1]
set_option maxRecDepth 65536 in
theorem w_case : (Jvm.Cond.and given_1 narrow_1).before args0 about1 = true := by decide +kernel
theorem w_applies : (headSpec (Jvm.Cond.code x code maxLocals ret :: tables_1) room_1).applies x e0.platform about1 = true :=
  (Spec.applies_iff w_frames).mpr ⟨w_running, w_runnable, w_alone, w_named, w_hears, w_ripe, w_room, w_tables⟩
theorem atStart : AtStart classFile x code maxLocals ret World_1 tables_1 room_1 Calls_1 rest_1 Pre_1 launch0 p0 e0 about1 theMethod args0 below0 :=
  ⟨lists_1, trivial, launch0.admits_env _ _ _, launch0.least_env, fairChoices_fair.cas, fairChoices_fair.clock, w_frames, w_args, w_heap, w_applies, trivial, trivial, w_case⟩
end start1
theorem witness_1 : WitnessClaimed_1 := ⟨start1.p0, start1.e0, start1.about1, start1.theMethod, start1.args0, start1.below0, start1.atStart⟩
end Jvm.Pilot.@@N@@
