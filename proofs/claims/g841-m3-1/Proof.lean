import JvmDerived
import JvmDerived.Pilot.@@N@@Statement
import JvmDerived.Pilot.@@N@@Code
set_option linter.unusedVariables false
set_option linter.unusedSimpArgs false
namespace Jvm.Pilot.@@N@@
open Jvm Jvm.ClassFile Sem Op Lib Jvm.Free Jvm.Stand Jvm.LawKit Jvm.RoadKit Bundle Jvm.Pilot.@@N@@.Jvm.D
section Own
variable {p : Program} {l : Launch} {e : Env} {R : Room} {s : State} {m : MethodId} {args : Array Value} {below : List Frame} {meth : Method} {c : Code} {T : State} {locs : List Loc} {cells slots : Nat} {Z : State} {a0 : Array Value} {h : Heap}
/-- the goal of a walk is a predicate that may be carried back over steps -/
def Go (p : Program) (e : Env) (below : List Frame) (G : State → Prop) : Prop := ∀ F F' : State, (∀ t, Steps p.tables e below F' t → Steps p.tables e below F t) → G F' → G F
/-- how a walk ends: it returns v -/
def Rt (p : Program) (l : Launch) (e : Env) (R : Room) (s : State) (m : MethodId) (args : Array Value) (below : List Frame) (meth : Method) (c : Code) (Q : Option Value → Heap → List Loc → Prop) (kc ks : Nat) (G : State → Prop) : Prop :=
  ∀ (T : State) (locs : List Loc) (cells slots : Nat) (v : Option Value) (F : State), Stand p l e R s m args below meth c T locs cells slots → cells ≤ kc → slots ≤ ks → (meth.sig.returnType = none → v = none) → Q v T.heap locs →
    (∀ fs, (∀ (f : JFrame) (acts : List Action), f.method = m → f.locked = none → f.entered = [] → (doReturn e (T.setTop f) acts v).1 = T.setFrames fs) → Steps p.tables e below F (T.setFrames fs)) → G F
def Gl (p : Program) (e : Env) (below : List Frame) (s : State) (Q : Option Value → Heap → List Loc → Prop) (kc ks : Nat) (F : State) : Prop :=
  ∃ s₂ o, Steps p.tables e below F s₂ ∧ s₂.status = .running ∧ Ended s₂ below o ∧ ∃ v L, o = .returned v ∧ Q v s₂.heap L ∧ FrameEnd s o s₂ L kc ks
theorem gl_go {Q : Option Value → Heap → List Loc → Prop} {kc ks : Nat} : Go p e below (Gl p e below s Q kc ks) := fun F F' h g => by
  obtain ⟨s₂, o, h1, h2⟩ := g
  exact ⟨s₂, o, h _ h1, h2⟩
theorem gl_rt {Q : Option Value → Heap → List Loc → Prop} {kc ks : Nat} (hlk : meth.locks = false) : Rt p l e R s m args below meth c Q kc ks (Gl p e below s Q kc ks) := fun T locs cells slots v F X hc hs hv hQ st => by
  obtain ⟨fs, hr, hrun, hended, hW, hsame⟩ := X.leave (v := v) hv hlk
  exact ⟨_, _, st fs hr, hrun, hended, v, locs, rfl, hQ, ⟨_, rfl⟩, hW, hsame.mono hc hs⟩
/-- a method's contract, at given arguments and a given heap -/
def Con (l : Launch) (Z : State) (y : MethodName) (bytes : ByteArray) (maxL : Nat) (ret : Option FieldType) (rm : Room) (as' : Array Value) (h : Heap) (Q : Option Value → Heap → List Loc → Prop) : Prop :=
  ∀ ws, MetFree l y (head1 (Jvm.Cond.code y bytes maxL ret :: ws) rm) (fun a U => a = as' ∧ Z.Warmed39 U.vm ∧ U.heap = h) (fun _ _ _ _ _ => True) (fun _ U o U' => ∃ v L, o = .returned v ∧ Q v U'.heap L ∧ FrameEnd U o U' L rm.cells rm.slots)
theorem own_body {y : MethodName} {bytes : ByteArray} {maxL : Nat} {ret : Option FieldType} {rm : Room} {as' : Array Value} {h0 : Heap} {Q : Option Value → Heap → List Loc → Prop} (hp : plainFor y = true)
    (k : ∀ (p : Program) (e : Env) (s : State) (m : MethodId) (below : List Frame) (meth : Method) (c : Code) (s₁ : State), p.tables.exec = Jvm.exec → c.code = bytes → c.maxLocals = maxL → s.vm.findClass y.cls = some m.cls → meth.name = y.name → meth.sig.returnType = ret → Z.Warmed39 s.vm → s₁.heap = h0 →
      Stand p l e rm s m as' below meth c s₁ [] 0 0 → ∀ G : State → Prop, Go p e below G → Rt p l e rm s m as' below meth c Q rm.cells rm.slots G → G (s₁.setTop (entryFrame m as' maxL))) : Con l Z y bytes maxL ret rm as' h0 Q := fun ws => by
  refine MetFree.of_bodySF hp hisR ?_
  intro p e s m args below meth c s₁ Bd hml0 hP hK
  obtain ⟨rfl, hZ, hh⟩ := hP
  exact k p e s m below meth c s₁ Bd.exec Bd.bytes hml0 (findClass_of_methodNamed Bd.named) (name_of_methodNamed Bd.named Bd.method).1 Bd.returns hZ (by rw [← hh, Bd.state]; rfl) (Stand.of_body Bd) (Gl p e below s Q rm.cells rm.slots) gl_go (gl_rt Bd.notSynchronized)
theorem own_pop2L {tb : Tables} [Ours tb] {target : State} {g : JFrame} (h : At T m c below) (hx : tb.exec = Jvm.exec) (hg : g.method = m) {x : Int64} {rest : List Value} (hd : decode c.code g.pc = .ok (.pop2, 1)) (hs : g.stack = .long x :: rest)
    (hr : Steps tb e below (T.setTop { g with pc := g.pc + 1, stack := rest }) target) : Steps tb e below (T.setTop g) target := by
  subst hg
  jvm_step h [h.top, hx, hd, hs, pop2.wp_sem, Value.category]
  exact hr
theorem own_hide {k : Nat} (X : Stand p l e R s m args below meth c T locs cells slots) (N : Fr k locs) : ∃ L, Stand p l e R s m args below meth c T L cells slots ∧ Fr k L := ⟨_, X, N⟩
section Rets
variable {Q : Option Value → Heap → List Loc → Prop} {kc ks : Nat} {G : State → Prop}
theorem own_retI (rt : Rt p l e R s m args below meth c Q kc ks G) (X : Stand p l e R s m args below meth c T locs cells slots) (hx : p.tables.exec = Jvm.exec) {pc : Nat} {Ls : Array Slot} {rest : List Value} (hret : meth.sig.returnType = some .int) {z : Int32} (hd : decode c.code pc = .ok (.ireturn, 1)) (hc : cells ≤ kc) (hs : slots ≤ ks) (hQ : Q (some (.int z)) T.heap locs) : G (T.setTop (mkF m pc Ls (.int z :: rest))) :=
  rt T locs cells slots _ _ X hc hs (fun h => by rw [hret] at h; cases h) hQ fun fs hr => retOut X hx hret rfl (Or.inl ⟨rfl, Or.inl rfl, _, rfl⟩) hd hr
theorem own_retZ (rt : Rt p l e R s m args below meth c Q kc ks G) (X : Stand p l e R s m args below meth c T locs cells slots) (hx : p.tables.exec = Jvm.exec) {pc : Nat} {Ls : Array Slot} {rest : List Value} {t : FieldType} (hret : meth.sig.returnType = some t) (ht : t = .boolean ∨ t = .byte ∨ t = .char ∨ t = .short) {z : Int32} (hd : decode c.code pc = .ok (.ireturn, 1)) (hc : cells ≤ kc) (hs : slots ≤ ks) (hQ : Q (some (.int (nar t z))) T.heap locs) : G (T.setTop (mkF m pc Ls (.int z :: rest))) :=
  rt T locs cells slots _ _ X hc hs (fun h => by rw [hret] at h; cases h) hQ fun fs hr => retN X hx hret ht hd hr
theorem own_retJ (rt : Rt p l e R s m args below meth c Q kc ks G) (X : Stand p l e R s m args below meth c T locs cells slots) (hx : p.tables.exec = Jvm.exec) {pc : Nat} {Ls : Array Slot} {rest : List Value} (hret : meth.sig.returnType = some .long) {z : Int64} (hd : decode c.code pc = .ok (.lreturn, 1)) (hc : cells ≤ kc) (hs : slots ≤ ks) (hQ : Q (some (.long z)) T.heap locs) : G (T.setTop (mkF m pc Ls (.long z :: rest))) :=
  rt T locs cells slots _ _ X hc hs (fun h => by rw [hret] at h; cases h) hQ fun fs hr => retOut X hx hret rfl (Or.inr (Or.inl ⟨rfl, rfl, _, rfl⟩)) hd hr
theorem own_retA (rt : Rt p l e R s m args below meth c Q kc ks G) (X : Stand p l e R s m args below meth c T locs cells slots) (hx : p.tables.exec = Jvm.exec) {pc : Nat} {Ls : Array Slot} {rest : List Value} {t : FieldType} (hret : meth.sig.returnType = some t) (ht : t.isReference = true) {v : Value} (hv : v.isRef = true) (hd : decode c.code pc = .ok (.areturn, 1)) (hc : cells ≤ kc) (hs : slots ≤ ks) (hQ : Q (some v) T.heap locs) : G (T.setTop (mkF m pc Ls (v :: rest))) :=
  rt T locs cells slots _ _ X hc hs (fun h => by rw [hret] at h; cases h) hQ fun fs hr => retOut X hx hret (by cases t <;> cases v <;> first | rfl | (simp [FieldType.isReference, Value.isRef] at ht hv)) (Or.inr (Or.inr (Or.inr (Or.inr ⟨rfl, ht, hv⟩)))) hd hr
theorem own_retV (rt : Rt p l e R s m args below meth c Q kc ks G) (X : Stand p l e R s m args below meth c T locs cells slots) (hx : p.tables.exec = Jvm.exec) {pc : Nat} {Ls : Array Slot} (hret : meth.sig.returnType = none) (hd : decode c.code pc = .ok (.return_, 1)) (hc : cells ≤ kc) (hs : slots ≤ ks) (hQ : Q none T.heap locs) : G (T.setTop (mkF m pc Ls [])) :=
  rt T locs cells slots _ _ X hc hs (fun _ => rfl) hQ fun fs hr => X.returnOut hx hret hd hr
end Rets
theorem own_selpriv {y z : MethodName} {C : String} (hz : z.cls = y.cls) (hs : (Cond.selects C z z).before args s = true) (hpriv : s.PrivateAt y) (hinst : (Cond.instanceMethod y).before args s = true) (hy : y.cls ≠ "java/lang/invoke/MethodHandle" ∧ y.cls ≠ "java/lang/invoke/VarHandle") : (Cond.selects y.cls y y).before args s = true := by
  obtain ⟨c2, r2, m2, -, -, q3, -, kP, hkP, hkPi⟩ := Cond.selects_spec hs
  have q := findClass_of_methodNamed q3
  rw [hz] at q
  exact selects_self_of_private q hkP hkPi hpriv hinst hy
section Calls
variable {G : State → Prop}
theorem own_static (go : Go p e below G) (X : Stand p l e R s m args below meth c T locs cells slots) (hx : p.tables.exec = Jvm.exec) (hZ : Z.Warmed39 s.vm) (eT : T.heap = h) {own : String} {index : Nat} {y : MethodName} {bytes : ByteArray} {maxL : Nat} {ret : Option FieldType} {rm : Room} {as' : Array Value} {Q : Option Value → Heap → List Loc → Prop} (hown : s.vm.findClass own = some m.cls) (w1 : (Cond.methodLink own index y).before a0 Z = true) (w2 : (Cond.static y).before a0 Z = true) (w3 : (Cond.initialized y.cls).before a0 Z = true) (w4 : (Cond.code y bytes maxL ret).before a0 Z = true)
    (hy : y.cls ≠ "java/lang/invoke/MethodHandle" ∧ y.cls ≠ "java/lang/invoke/VarHandle") (hM : Con l Z y bytes maxL ret rm as' h Q) (W : Nat) (hf : rm.frames + 1 ≤ R.frames) (hl : W + (maxL + 11) + rm.locals ≤ R.locals) (hc : cells + rm.cells ≤ R.cells) (hs : slots + rm.slots ≤ R.slots)
    {g : JFrame} (hg : g.method = m) (hsize : g.locals.size = c.maxLocals) (argsL rest : List Value) (has : argsL.toArray = as') (hlen : ∀ sig, parseMethodDescriptor y.desc = some sig → argsL.length = sig.parameters.length)
    (hstack : g.stack = argsL.reverse ++ rest) (hW : 2 * g.monitorRoom + (rest.map fun v => v.category).sum ≤ W) (hd : decode c.code g.pc = .ok (.invokestatic index, 3))
    (k : ∀ (T' : State) (L' : List Loc) (v : Option Value), Stand p l e R s m args below meth c T' (locs ++ L') (cells + rm.cells) (slots + rm.slots) → Q v T'.heap L' → G (T'.setTop { g with pc := g.pc + 3, stack := v.toList ++ rest })) : G (T.setTop g) := by
  obtain ⟨v, _, ⟨T1, L1, k1, n1⟩, -, X1, ⟨Lc, hQ, l1, y1, z1⟩, st⟩ := Jvm.LawKit.callS X hx hown (mvT hZ w1) (mvT hZ w2) (mvT hZ w3) (mvT hZ w4) hy (backOf (R := R) (W := W) (hM []) hZ w4 w3 hf hl) hg hsize hlen hstack hW hd (fun _ _ => ⟨has, eT, hc, hs⟩)
  dsimp only [Pt.U, Pt.locs, Pt.cells, Pt.slots] at X1 l1 y1 z1 st hQ
  subst l1 y1 z1
  exact go _ _ st (k T1 Lc v X1 hQ)
theorem own_init (go : Go p e below G) (X : Stand p l e R s m args below meth c T locs cells slots) (hx : p.tables.exec = Jvm.exec) (hZ : Z.Warmed39 s.vm) (eT : T.heap = h) {own : String} {index : Nat} {y : MethodName} {bytes : ByteArray} {maxL : Nat} {rm : Room} {as' : Array Value} {Q : Option Value → Heap → List Loc → Prop} (hy1 : y.name = "<init>") (hown : s.vm.findClass own = some m.cls) (w1 : (Cond.methodLink own index y).before a0 Z = true) (w2 : (Cond.instanceMethod y).before a0 Z = true) (w3 : (Cond.initialized y.cls).before a0 Z = true) (w4 : (Cond.code y bytes maxL none).before a0 Z = true)
    (hy : y.cls ≠ "java/lang/invoke/MethodHandle" ∧ y.cls ≠ "java/lang/invoke/VarHandle") (hM : Con l Z y bytes maxL none rm as' h Q) (W : Nat) (hf : rm.frames + 1 ≤ R.frames) (hl : W + (maxL + 11) + rm.locals ≤ R.locals) (hc : cells + rm.cells ≤ R.cells) (hs : slots + rm.slots ≤ R.slots)
    {g : JFrame} (hg : g.method = m) (hsize : g.locals.size = c.maxLocals) (a : Addr) (argsL rest : List Value) (has : (.ref a :: argsL).toArray = as') (hlen : ∀ sig, parseMethodDescriptor y.desc = some sig → argsL.length = sig.parameters.length)
    (hstack : g.stack = argsL.reverse ++ .ref a :: rest) (hW : 2 * g.monitorRoom + (rest.map fun v => v.category).sum ≤ W) (hd : decode c.code g.pc = .ok (.invokespecial index, 3))
    (k : ∀ (T' : State) (L' : List Loc) (v : Option Value), Stand p l e R s m args below meth c T' (locs ++ L') (cells + rm.cells) (slots + rm.slots) → Q v T'.heap L' → G (T'.setTop { g with pc := g.pc + 3, stack := v.toList ++ rest })) : G (T.setTop g) := by
  obtain ⟨v, _, ⟨T1, L1, k1, n1⟩, -, X1, ⟨Lc, hQ, l1, y1, z1⟩, st⟩ := X.specialBack hx hy1 hown (mvT hZ w1) (mvT hZ w2) (mvT hZ w4) hy (backOf (R := R) (W := W) (hM []) hZ w4 w3 hf hl) hg hsize (Steps.refl _) (a := a) hlen hstack hW hd (fun _ _ => ⟨has, eT, hc, hs⟩)
  dsimp only [Pt.U, Pt.locs, Pt.cells, Pt.slots] at X1 l1 y1 z1 st hQ
  subst l1 y1 z1
  exact go _ _ (fun t k => st.trans k) (k T1 Lc v X1 hQ)
theorem own_virtual (go : Go p e below G) (X : Stand p l e R s m args below meth c T locs cells slots) (hx : p.tables.exec = Jvm.exec) (hZ : Z.Warmed39 s.vm) (eT : T.heap = h) {own : String} {index : Nat} {y : MethodName} {bytes : ByteArray} {maxL : Nat} {ret : Option FieldType} {rm : Room} {as' : Array Value} {Q : Option Value → Heap → List Loc → Prop} {C : String} {z : MethodName} (hown : s.vm.findClass own = some m.cls) (w1 : (Cond.methodLink own index y).before a0 Z = true) (w2 : (Cond.declares y).before a0 Z = true) (hnf : NotFace s y) (w3 : (Cond.selects C y z).before a0 Z = true) (w4 : (Cond.instanceMethod z).before a0 Z = true) (w5 : (Cond.initialized z.cls).before a0 Z = true) (w6 : (Cond.code z bytes maxL ret).before a0 Z = true)
    (hy : y.cls ≠ "java/lang/invoke/MethodHandle" ∧ y.cls ≠ "java/lang/invoke/VarHandle") (hM : Con l Z z bytes maxL ret rm as' h Q) (W : Nat) (hf : rm.frames + 1 ≤ R.frames) (hl : W + (maxL + 11) + rm.locals ≤ R.locals) (hc : cells + rm.cells ≤ R.cells) (hs : slots + rm.slots ≤ R.slots)
    {a : Addr} (E : Exa Z h a C) {g : JFrame} (hg : g.method = m) (hsize : g.locals.size = c.maxLocals) (argsL rest : List Value) (has : (.ref a :: argsL).toArray = as') (hlen : ∀ sig, parseMethodDescriptor y.desc = some sig → argsL.length = sig.parameters.length)
    (hstack : g.stack = argsL.reverse ++ .ref a :: rest) (hW : 2 * g.monitorRoom + (rest.map fun v => v.category).sum ≤ W) (hd : decode c.code g.pc = .ok (.invokevirtual index, 3))
    (k : ∀ (T' : State) (L' : List Loc) (v : Option Value), Stand p l e R s m args below meth c T' (locs ++ L') (cells + rm.cells) (slots + rm.slots) → Q v T'.heap L' → G (T'.setTop { g with pc := g.pc + 3, stack := v.toList ++ rest })) : G (T.setTop g) := by
  obtain ⟨cq, kq, qa, qb, qc⟩ := isOf hZ eT E
  obtain ⟨v, _, ⟨T1, L1, k1, n1⟩, -, X1, ⟨Lc, hQ, l1, y1, z1⟩, st⟩ := X.virtualBack hx hown (mvT hZ w1) (mvT hZ w2) hnf (mvT hZ w3) (mvT hZ w4) hy (backOf (R := R) (W := W) (hM []) hZ w6 w5 hf hl) qa qc hg hsize (Steps.refl _) hlen hstack hW hd (fun _ _ => ⟨has, eT, hc, hs⟩)
  dsimp only [Pt.U, Pt.locs, Pt.cells, Pt.slots] at X1 l1 y1 z1 st hQ
  subst l1 y1 z1
  exact go _ _ (fun t k => st.trans k) (k T1 Lc v X1 hQ)
theorem own_private (go : Go p e below G) (X : Stand p l e R s m args below meth c T locs cells slots) (hx : p.tables.exec = Jvm.exec) (hZ : Z.Warmed39 s.vm) (eT : T.heap = h) {own : String} {index : Nat} {y : MethodName} {bytes : ByteArray} {maxL : Nat} {ret : Option FieldType} {rm : Room} {as' : Array Value} {Q : Option Value → Heap → List Loc → Prop} (hown : s.vm.findClass own = some m.cls) (w1 : (Cond.methodLink own index y).before a0 Z = true) (w2 : (Cond.instanceMethod y).before a0 Z = true) {C0 : String} {z : MethodName} (w3 : (Cond.selects C0 z z).before a0 Z = true) (hz : z.cls = y.cls) (w4 : (Cond.privateMethod y).before a0 Z = true) (w5 : (Cond.initialized y.cls).before a0 Z = true) (w6 : (Cond.code y bytes maxL ret).before a0 Z = true)
    (hy : y.cls ≠ "java/lang/invoke/MethodHandle" ∧ y.cls ≠ "java/lang/invoke/VarHandle") (hM : Con l Z y bytes maxL ret rm as' h Q) (W : Nat) (hf : rm.frames + 1 ≤ R.frames) (hl : W + (maxL + 11) + rm.locals ≤ R.locals) (hc : cells + rm.cells ≤ R.cells) (hs : slots + rm.slots ≤ R.slots)
    {a : Addr} {C : String} (E : Exa Z h a C) {g : JFrame} (hg : g.method = m) (hsize : g.locals.size = c.maxLocals) (argsL rest : List Value) (has : (.ref a :: argsL).toArray = as') (hlen : ∀ sig, parseMethodDescriptor y.desc = some sig → argsL.length = sig.parameters.length)
    (hstack : g.stack = argsL.reverse ++ .ref a :: rest) (hW : 2 * g.monitorRoom + (rest.map fun v => v.category).sum ≤ W) (hd : decode c.code g.pc = .ok (.invokevirtual index, 3))
    (k : ∀ (T' : State) (L' : List Loc) (v : Option Value), Stand p l e R s m args below meth c T' (locs ++ L') (cells + rm.cells) (slots + rm.slots) → Q v T'.heap L' → G (T'.setTop { g with pc := g.pc + 3, stack := v.toList ++ rest })) : G (T.setTop g) := by
  obtain ⟨cq, q1, q2⟩ := E.cell
  obtain ⟨v, _, ⟨T1, L1, k1, n1⟩, -, X1, ⟨Lc, hQ, l1, y1, z1⟩, st⟩ := X.privateBack hx hown (mvT hZ w1) (mvT hZ w2) (own_selpriv hz (mvT hZ w3) (Cond.privateMethod_at (mvP hZ w4 (args := #[]))) (mvT hZ w2) hy) (Cond.privateMethod_at (mvP hZ w4 (args := #[]))) (mvT hZ w6) hy (backOf (R := R) (W := W) (hM []) hZ w6 w5 hf hl) hg hsize (Steps.refl _) (a := a) (by rw [eT]; exact q1) q2 hlen hstack hW hd (fun _ _ => ⟨has, eT, hc, hs⟩)
  dsimp only [Pt.U, Pt.locs, Pt.cells, Pt.slots] at X1 l1 y1 z1 st hQ
  subst l1 y1 z1
  exact go _ _ (fun t k => st.trans k) (k T1 Lc v X1 hQ)
theorem own_interface (go : Go p e below G) (X : Stand p l e R s m args below meth c T locs cells slots) (hx : p.tables.exec = Jvm.exec) (hZ : Z.Warmed39 s.vm) (eT : T.heap = h) {own : String} {index : Nat} {y : MethodName} {bytes : ByteArray} {maxL : Nat} {ret : Option FieldType} {rm : Room} {as' : Array Value} {Q : Option Value → Heap → List Loc → Prop} {C : String} {z : MethodName} {count : Nat} (hown : s.vm.findClass own = some m.cls) (w1 : (Cond.methodLink own index y).before a0 Z = true) (w2 : (Cond.declares y).before a0 Z = true) (w2b : (Cond.interfaceMethod y.cls y.cls y.name y.desc).before args s = true) (w3 : (Cond.selects C y z).before a0 Z = true) (w4 : (Cond.instanceMethod z).before a0 Z = true) (w4b : (Cond.publicMethod z).before a0 Z = true) (w4c : (Cond.unhidden C y.name y.desc).before a0 Z = true) (w4d : (Cond.castable C y.cls).before a0 Z = true) (w5 : (Cond.initialized z.cls).before a0 Z = true) (w6 : (Cond.code z bytes maxL ret).before a0 Z = true)
    (hy : y.cls ≠ "java/lang/invoke/MethodHandle" ∧ y.cls ≠ "java/lang/invoke/VarHandle") (hM : Con l Z z bytes maxL ret rm as' h Q) (W : Nat) (hf : rm.frames + 1 ≤ R.frames) (hl : W + (maxL + 11) + rm.locals ≤ R.locals) (hc : cells + rm.cells ≤ R.cells) (hs : slots + rm.slots ≤ R.slots)
    {a : Addr} (E : Exa Z h a C) {g : JFrame} (hg : g.method = m) (hsize : g.locals.size = c.maxLocals) (argsL rest : List Value) (has : (.ref a :: argsL).toArray = as') (hlen : ∀ sig, parseMethodDescriptor y.desc = some sig → argsL.length = sig.parameters.length)
    (hstack : g.stack = argsL.reverse ++ .ref a :: rest) (hW : 2 * g.monitorRoom + (rest.map fun v => v.category).sum ≤ W) (hd : decode c.code g.pc = .ok (.invokeinterface index count, 5))
    (k : ∀ (T' : State) (L' : List Loc) (v : Option Value), Stand p l e R s m args below meth c T' (locs ++ L') (cells + rm.cells) (slots + rm.slots) → Q v T'.heap L' → G (T'.setTop { g with pc := g.pc + 5, stack := v.toList ++ rest })) : G (T.setTop g) := by
  obtain ⟨cq, kq, qa, qb, qc⟩ := isOf hZ eT E
  obtain ⟨v, _, ⟨T1, L1, k1, n1⟩, -, X1, ⟨Lc, hQ, l1, y1, z1⟩, st⟩ := X.interfaceBack hx hown (mvT hZ w1) (mvT hZ w2) w2b (mvT hZ w3) (mvT hZ w4) (mvT hZ w4b) (mvT hZ w4c) (mvT hZ w4d) hy (backOf (R := R) (W := W) (hM []) hZ w6 w5 hf hl) qa qb qc hg hsize (Steps.refl _) hlen hstack hW hd (fun _ _ => ⟨has, eT, hc, hs⟩)
  dsimp only [Pt.U, Pt.locs, Pt.cells, Pt.slots] at X1 l1 y1 z1 st hQ
  subst l1 y1 z1
  exact go _ _ (fun t k => st.trans k) (k T1 Lc v X1 hQ)
end Calls
end Own
section OwnArr
variable {p : Program} {l : Launch} {e : Env} {R : Room} {s : State} {m : MethodId} {args : Array Value} {below : List Frame} {meth : Method} {c : Code} {T : State} {locs : List Loc} {cells slots : Nat} {Z : State} {a0 : Array Value} {h h' : Heap} {a b : Addr} {ty : FieldType} {n sl : Nat} {f : Nat → Value} {v w : Value} {ws : List Addr}
/-- an array: its kind, its length, what lies in it -/
def Ary (Z : State) (h : Heap) (a : Addr) (ty : FieldType) (n : Nat) (f : Nat → Value) : Prop := ∃ c : Cell, Arr Z h a c ty ∧ c.slots.size = n ∧ n < 2147483648 ∧ (∀ i, i < n → c.slots[i]? = some (f i)) ∧ ∀ i, i < n → fits ty (f i) = true
theorem Ary.lt (F : Ary Z h a ty n f) : a < h.size := by obtain ⟨c, A, -⟩ := F; exact A.lt
theorem own_ary_ns (F : Ary Z h a ty n f) : ∃ c : Cell, h[a]? = some c ∧ c.vm.isStatics = false := by obtain ⟨c, A, -⟩ := F; exact ⟨c, A.1, A.plain⟩
theorem Ary.ext (F : Ary Z h a ty n f) (E : Ext h h') : Ary Z h' a ty n f := by obtain ⟨c, A, r⟩ := F; exact ⟨c, A.ext E, r⟩
theorem Ary.other (F : Ary Z h b ty n f) (W : Wr h h' a sl v) (q : b ≠ a) : Ary Z h' b ty n f := by obtain ⟨c, A, r⟩ := F; exact ⟨c, A.other W q, r⟩
theorem Ary.keep (F : Ary Z h a ty n f) (K : Keep h h' ws) (q : a ∉ ws) : Ary Z h' a ty n f := by obtain ⟨c, A, r⟩ := F; exact ⟨c, ⟨K.2.1 a c A.1 q, A.2⟩, r⟩
theorem Ary.cong {g : Nat → Value} (F : Ary Z h a ty n f) (q : ∀ i, i < n → f i = g i) : Ary Z h a ty n g := by
  obtain ⟨c, A, r1, r2, r3, r4⟩ := F
  exact ⟨c, A, r1, r2, fun i hi => by rw [← q i hi]; exact r3 i hi, fun i hi => by rw [← q i hi]; exact r4 i hi⟩
theorem Ary.same (W : Wr h h' a sl v) (F : Ary Z h a ty n f) (hv : fits ty v = true) : Ary Z h' a ty n (fun q => if q = sl then v else f q) := by
  obtain ⟨c, A, r1, r2, r3, r4⟩ := F
  refine ⟨_, A.same W, (sz_set _ _ _).trans r1, r2, fun i hi => ?_, fun i hi => ?_⟩
  · show (c.slots.setIfInBounds sl v)[i]? = _
    by_cases q : i = sl
    · subst q; simp [r1, hi]
    · rw [Array.getElem?_setIfInBounds_ne (fun z => q z.symm), r3 i hi]; simp [q]
  · show fits ty (if i = sl then v else f i) = true
    by_cases q : i = sl
    · simp [q, hv]
    · simp [q, r4 i hi]
theorem Ary.new {cA : ClassId} {z : Int32} (A : Arr Z h a (newA cA ty z) ty) (q : ¬ z < 0) : Ary Z h a ty z.toNatClampNeg (fun _ => defaultValue ty) :=
  ⟨_, A, sz_new _ _ _, (back32 q).2, fun i hi => by simp [newA, hi], fun i _ => by cases ty <;> rfl⟩
theorem Ary.ints (F : Ary Z h a ty n f) (ht : ty = .int ∨ ty = .boolean ∨ ty = .byte ∨ ty = .char ∨ ty = .short) : ∃ gg : Nat → Int32, Ary Z h a ty n (fun i => .int (gg i)) := by
  refine ⟨fun i => match f i with | .int y => y | _ => 0, F.cong fun i hi => ?_⟩
  obtain ⟨c, -, -, -, -, r4⟩ := F
  obtain ⟨y, hy⟩ := fit_I (r4 i hi) ht
  show f i = Value.int (match f i with | .int y => y | _ => 0)
  rw [hy]
theorem ix_of {j : Int32} {i : Nat} (hi : j.toInt = i) : j.toNatClampNeg = i := by simp [Int32.toNatClampNeg, hi]
theorem ix_in {j : Int32} {i k : Nat} (hi : j.toInt = i) (hk : i < k) : ¬ (j < 0 ∨ k ≤ j.toNatClampNeg) := by
  rw [ix_of hi]
  intro q
  rcases q with q | q
  · rw [Int32.lt_iff_toInt_lt, hi] at q
    have : (0 : Int32).toInt = 0 := rfl
    omega
  · omega
section St
variable {G : State → Prop}
theorem own_iastore (go : Go p e below G) (X : Stand p l e R s m args below meth c T locs cells slots) (hx : p.tables.exec = Jvm.exec) (hZ : Z.Warmed39 s.vm) (eT : T.heap = h) {j x : Int32} (i : Nat) (hi : j.toInt = i) (hlt : i < n) {g : JFrame} (hg : g.method = m) {rest : List Value} (F : Ary Z h a .int n f) (hs : g.stack = .int x :: .int j :: .ref a :: rest) (hd : decode c.code g.pc = .ok (.iastore, 1))
    (k : ∀ (T' : State) (h' : Heap), Stand p l e R s m args below meth c T' (locs ++ [⟨a, i⟩]) cells slots → T'.heap = h' → Wr h h' a i (.int x) → Ary Z h' a .int n (fun q => if q = i then .int x else f q) → G (T'.setTop { g with pc := g.pc + 1, stack := rest })) : G (T.setTop g) := by
  obtain ⟨cl, A, r1, r2, r3, r4⟩ := F
  have hj : ¬ (j < 0 ∨ cl.slots.size ≤ j.toNatClampNeg) := by rw [r1]; exact ix_in hi hlt
  obtain ⟨T1, h1, X1, e1, W1, st⟩ := stI X hx hZ eT A hj hg hs hd
  rw [ix_of hi] at X1 W1
  exact go _ _ st (k T1 h1 X1 e1 W1 (Ary.same W1 ⟨cl, A, r1, r2, r3, r4⟩ rfl))
theorem own_bastore (go : Go p e below G) (X : Stand p l e R s m args below meth c T locs cells slots) (hx : p.tables.exec = Jvm.exec) (hZ : Z.Warmed39 s.vm) (eT : T.heap = h) {j x : Int32} (i : Nat) (hi : j.toInt = i) (hlt : i < n) {g : JFrame} (hg : g.method = m) {rest : List Value} (F : Ary Z h a .byte n f) (hs : g.stack = .int x :: .int j :: .ref a :: rest) (hd : decode c.code g.pc = .ok (.bastore, 1))
    (k : ∀ (T' : State) (h' : Heap), Stand p l e R s m args below meth c T' (locs ++ [⟨a, i⟩]) cells slots → T'.heap = h' → Wr h h' a i (.int (nar .byte x)) → Ary Z h' a .byte n (fun q => if q = i then .int (nar .byte x) else f q) → G (T'.setTop { g with pc := g.pc + 1, stack := rest })) : G (T.setTop g) := by
  obtain ⟨cl, A, r1, r2, r3, r4⟩ := F
  have hj : ¬ (j < 0 ∨ cl.slots.size ≤ j.toNatClampNeg) := by rw [r1]; exact ix_in hi hlt
  obtain ⟨T1, h1, X1, e1, W1, st⟩ := stB X hx hZ eT A hj hg hs hd
  rw [ix_of hi] at X1 W1
  exact go _ _ st (k T1 h1 X1 e1 W1 (Ary.same W1 ⟨cl, A, r1, r2, r3, r4⟩ (fits_nar_byte _)))
theorem own_zastore (go : Go p e below G) (X : Stand p l e R s m args below meth c T locs cells slots) (hx : p.tables.exec = Jvm.exec) (hZ : Z.Warmed39 s.vm) (eT : T.heap = h) {j x : Int32} (i : Nat) (hi : j.toInt = i) (hlt : i < n) {g : JFrame} (hg : g.method = m) {rest : List Value} (F : Ary Z h a .boolean n f) (hs : g.stack = .int x :: .int j :: .ref a :: rest) (hd : decode c.code g.pc = .ok (.bastore, 1))
    (k : ∀ (T' : State) (h' : Heap), Stand p l e R s m args below meth c T' (locs ++ [⟨a, i⟩]) cells slots → T'.heap = h' → Wr h h' a i (.int (nar .boolean x)) → Ary Z h' a .boolean n (fun q => if q = i then .int (nar .boolean x) else f q) → G (T'.setTop { g with pc := g.pc + 1, stack := rest })) : G (T.setTop g) := by
  obtain ⟨cl, A, r1, r2, r3, r4⟩ := F
  have hj : ¬ (j < 0 ∨ cl.slots.size ≤ j.toNatClampNeg) := by rw [r1]; exact ix_in hi hlt
  obtain ⟨T1, h1, X1, e1, W1, st⟩ := stZ X hx hZ eT A hj hg hs hd
  rw [ix_of hi] at X1 W1
  exact go _ _ st (k T1 h1 X1 e1 W1 (Ary.same W1 ⟨cl, A, r1, r2, r3, r4⟩ (fits_nar_bool _)))
theorem own_iaload (go : Go p e below G) (X : Stand p l e R s m args below meth c T locs cells slots) (hx : p.tables.exec = Jvm.exec) (hZ : Z.Warmed39 s.vm) (eT : T.heap = h) {j : Int32} (i : Nat) (hi : j.toInt = i) (hlt : i < n) {g : JFrame} (hg : g.method = m) {rest : List Value} (F : Ary Z h a .int n f) (hs : g.stack = .int j :: .ref a :: rest) (hd : decode c.code g.pc = .ok (.iaload, 1)) (k : G (T.setTop { g with pc := g.pc + 1, stack := f i :: rest })) : G (T.setTop g) := by
  obtain ⟨cl, A, r1, r2, r3, r4⟩ := F
  have hj : ¬ (j < 0 ∨ cl.slots.size ≤ j.toNatClampNeg) := by rw [r1]; exact ix_in hi hlt
  exact go _ _ (fun t => X.iaload hx (by rw [eT]; exact A.1) (State.isArrayOf_alike hZ.alike A.2.1) A.2.2 hj (by rw [ix_of hi]; exact r3 i hlt) hg hs hd t) k
theorem own_baload (go : Go p e below G) (X : Stand p l e R s m args below meth c T locs cells slots) (hx : p.tables.exec = Jvm.exec) (hZ : Z.Warmed39 s.vm) (eT : T.heap = h) {j : Int32} (i : Nat) (hi : j.toInt = i) (hlt : i < n) {g : JFrame} (hg : g.method = m) {rest : List Value} (F : Ary Z h a .byte n f) (hs : g.stack = .int j :: .ref a :: rest) (hd : decode c.code g.pc = .ok (.baload, 1)) (k : G (T.setTop { g with pc := g.pc + 1, stack := f i :: rest })) : G (T.setTop g) := by
  obtain ⟨cl, A, r1, r2, r3, r4⟩ := F
  have hj : ¬ (j < 0 ∨ cl.slots.size ≤ j.toNatClampNeg) := by rw [r1]; exact ix_in hi hlt
  exact go _ _ (fun t => X.baloadBytes hx (by rw [eT]; exact A.1) (State.isArrayOf_alike hZ.alike A.2.1) A.2.2 hj (by rw [ix_of hi]; exact r3 i hlt) hg hs hd t) k
theorem own_zaload (go : Go p e below G) (X : Stand p l e R s m args below meth c T locs cells slots) (hx : p.tables.exec = Jvm.exec) (hZ : Z.Warmed39 s.vm) (eT : T.heap = h) {j : Int32} (i : Nat) (hi : j.toInt = i) (hlt : i < n) {g : JFrame} (hg : g.method = m) {rest : List Value} (F : Ary Z h a .boolean n f) (hs : g.stack = .int j :: .ref a :: rest) (hd : decode c.code g.pc = .ok (.baload, 1)) (k : G (T.setTop { g with pc := g.pc + 1, stack := f i :: rest })) : G (T.setTop g) := by
  obtain ⟨cl, A, r1, r2, r3, r4⟩ := F
  have hj : ¬ (j < 0 ∨ cl.slots.size ≤ j.toNatClampNeg) := by rw [r1]; exact ix_in hi hlt
  exact go _ _ (fun t => X.baloadBooleans hx (by rw [eT]; exact A.1) (State.isArrayOf_alike hZ.alike A.2.1) A.2.2 hj (by rw [ix_of hi]; exact r3 i hlt) hg hs hd t) k
theorem own_arrlen (go : Go p e below G) (X : Stand p l e R s m args below meth c T locs cells slots) (hx : p.tables.exec = Jvm.exec) (hZ : Z.Warmed39 s.vm) (eT : T.heap = h) {g : JFrame} (hg : g.method = m) {rest : List Value} (F : Ary Z h a ty n f) (hs : g.stack = .ref a :: rest) (hd : decode c.code g.pc = .ok (.arraylength, 1)) (k : G (T.setTop { g with pc := g.pc + 1, stack := .int n.toInt32 :: rest })) : G (T.setTop g) := by
  obtain ⟨cl, A, r1, r2, r3, r4⟩ := F
  subst r1
  exact go _ _ (fun t => X.arraylength hx (by rw [eT]; exact A.1) (State.isArrayOf_alike hZ.alike A.2.1) hg hs hd t) k
theorem own_newarr (go : Go p e below G) (X : Stand p l e R s m args below meth c T locs cells slots) (hx : p.tables.exec = Jvm.exec) (hZ : Z.Warmed39 s.vm) (eT : T.heap = h) {g : JFrame} (hg : g.method = m) {rest : List Value} {aty : ArrayType} (w : (Cond.arrayClass (newarray.typeOf aty)).before a0 Z = true) {z : Int32} (nn : Nat) (hz : z.toInt = nn) (hd : decode c.code g.pc = .ok (.newarray aty, 2)) (hs : g.stack = .int z :: rest)
    (cap : Nat) (hcap : nn ≤ cap) (hb : cap * 8 ≤ 536870912) (hc : cells + 1 ≤ R.cells) (hl : slots + cap ≤ R.slots)
    (k : ∀ (T' : State) (h' : Heap) (a : Addr), Stand p l e R s m args below meth c T' locs (cells + 1) (slots + cap) → T'.heap = h' → Ext h h' → a = h.size → Ary Z h' a (newarray.typeOf aty) nn (fun _ => defaultValue (newarray.typeOf aty)) → G (T'.setTop { g with pc := g.pc + 2, stack := .ref a :: rest })) : G (T.setTop g) := by
  have q : ¬ z < 0 := by
    rw [Int32.lt_iff_toInt_lt, hz]
    have : (0 : Int32).toInt = 0 := rfl
    omega
  obtain ⟨T1, h1, cA, X1, e1, E1, A1, st⟩ := newP X hx hZ w eT hg hd hs q (cap := cap) (by rw [ix_of hz]; exact hcap) hb hc hl
  have F := Ary.new A1 q
  rw [ix_of hz] at F
  exact go _ _ st (k T1 h1 _ X1 e1 E1 rfl F)
theorem own_aastoreN (go : Go p e below G) (X : Stand p l e R s m args below meth c T locs cells slots) (hx : p.tables.exec = Jvm.exec) (hZ : Z.Warmed39 s.vm) (eT : T.heap = h) {j : Int32} (i : Nat) (hi : j.toInt = i) (hlt : i < n) {g : JFrame} (hg : g.method = m) {rest : List Value} (F : Ary Z h a ty n f) (hty : ty.isReference = true) (hs : g.stack = .null :: .int j :: .ref a :: rest) (hd : decode c.code g.pc = .ok (.aastore, 1))
    (k : ∀ (T' : State) (h' : Heap), Stand p l e R s m args below meth c T' (locs ++ [⟨a, i⟩]) cells slots → T'.heap = h' → Wr h h' a i .null → Ary Z h' a ty n (fun q => if q = i then .null else f q) → G (T'.setTop { g with pc := g.pc + 1, stack := rest })) : G (T.setTop g) := by
  obtain ⟨cl, A, r1, r2, r3, r4⟩ := F
  have hj : ¬ (j < 0 ∨ cl.slots.size ≤ j.toNatClampNeg) := by rw [r1]; exact ix_in hi hlt
  obtain ⟨T1, h1, X1, e1, W1, st⟩ := stR X hx hZ eT A hj hty (Or.inl rfl) hg hs hd
  rw [ix_of hi] at X1 W1
  exact go _ _ st (k T1 h1 X1 e1 W1 (Ary.same W1 ⟨cl, A, r1, r2, r3, r4⟩ (by cases ty <;> first | rfl | (simp [FieldType.isReference] at hty))))
theorem own_newref (go : Go p e below G) (X : Stand p l e R s m args below meth c T locs cells slots) (hx : p.tables.exec = Jvm.exec) (hZ : Z.Warmed39 s.vm) (eT : T.heap = h) {g : JFrame} (hg : g.method = m) {rest : List Value} {own C : String} {index : Nat} (hown : s.vm.findClass own = some m.cls) (w1 : (Cond.classLink own index C).before a0 Z = true) (w2 : (Cond.arrayOver (.object C)).before a0 Z = true) {z : Int32} (nn : Nat) (hz : z.toInt = nn) (hd : decode c.code g.pc = .ok (.anewarray index, 3)) (hs : g.stack = .int z :: rest)
    (cap : Nat) (hcap : nn ≤ cap) (hb : cap * 8 ≤ 536870912) (hc : cells + 1 ≤ R.cells) (hl : slots + cap ≤ R.slots)
    (k : ∀ (T' : State) (h' : Heap) (a : Addr), Stand p l e R s m args below meth c T' locs (cells + 1) (slots + cap) → T'.heap = h' → Ext h h' → a = h.size → Ary Z h' a (.object C) nn (fun _ => .null) → G (T'.setTop { g with pc := g.pc + 3, stack := .ref a :: rest })) : G (T.setTop g) := by
  have q : ¬ z < 0 := by
    rw [Int32.lt_iff_toInt_lt, hz]
    have : (0 : Int32).toInt = 0 := rfl
    omega
  obtain ⟨T1, h1, cA, X1, e1, E1, A1, -, st⟩ := newR X hx hZ hown w1 w2 eT hg hd hs q (cap := cap) (by rw [ix_of hz]; exact hcap) hb hc hl
  have F := Ary.new A1 q
  rw [ix_of hz] at F
  exact go _ _ st (k T1 h1 _ X1 e1 E1 rfl F)
end St
end OwnArr
section OwnSta
variable {args : Array Value} {s Z : State} {C n d K : String} {a b : Addr} {h h' : Heap} {v w : Value} {t : Term} {ws : List Addr}
theorem own_sta (hx : (Jvm.Cond.exactly (Term.static C n d) K).value args s none s [] = some true) (w1 : (Jvm.Cond.initialized C).before args s = true) (w2 : (Jvm.Cond.laysStatic C n d).before args s = true) :
    ∃ a, Sta s s.heap C n d (.ref a) ∧ Exa s s.heap a K ∧ (Term.static C n d).eval args s none [] s = some (.ref a) := by
  obtain ⟨a, ev⟩ := exa_v hx
  exact ⟨a, Sta.start ev (Or.inr ⟨w1, w2⟩), Exa.start ev hx, ev⟩
theorem own_fieldeq {k : Int32} (ev : t.eval args s none [] s = some (.ref a)) (hq : (Jvm.Cond.eq (.field t C n d) (.int k)).value args s none s [] = some true) : Fld s s.heap a C n d (.int k) := by
  obtain ⟨x, y, ex, ey, k1, k2⟩ := cmp_v (Or.inl hq)
  have ey' := Option.some.inj ((Term.int_eval k).symm.trans ey)
  subst ey'
  obtain ⟨z, rfl⟩ := k2
  have := gotT (Cond.eq_ints ex ey) hq
  subst this
  rw [fld_at ev] at ex
  exact Fld.start ex
theorem own_sta_keep (F : Sta Z h C n d v) (K : Keep h h' ws) (q : ∀ w ∈ ws, ∃ c : Cell, h[w]? = some c ∧ c.vm.isStatics = false) : Sta Z h' C n d v := by
  obtain ⟨cf, i, k, f, st, cell, h1, h2, h3, h4, h5, h6, h7⟩ := F
  refine ⟨cf, i, k, f, st, cell, h1, h2, h3, h4, K.2.1 st cell h5 (fun hm => ?_), h6, h7⟩
  obtain ⟨c, e1, e2⟩ := q st hm
  cases h5.symm.trans e1
  rw [h6] at e2
  cases e2
theorem own_exa_ns (E : Exa Z h a C) : ∃ c : Cell, h[a]? = some c ∧ c.vm.isStatics = false := by
  obtain ⟨cell, k, h1, -, -, h4, -⟩ := E
  exact ⟨cell, h1, h4⟩
end OwnSta
section OwnW
variable {p : Program} {l : Launch} {e : Env} {R : Room} {s : State} {m : MethodId} {args : Array Value} {below : List Frame} {meth : Method} {c : Code} {T : State} {locs : List Loc} {cells slots : Nat} {Z : State} {a0 : Array Value} {h : Heap}
def GlW (p : Program) (e : Env) (below : List Frame) (s : State) (Q : Option Value → Heap → List Loc → Prop) (kc ks : Nat) (F : State) : Prop :=
  ∃ s₂ o, Steps p.tables e below F s₂ ∧ s₂.status = .running ∧ Ended s₂ below o ∧ ∃ v L, o = .returned v ∧ Q v s₂.heap L ∧ ReturnedEndW s o s₂ L kc ks
theorem glW_go {Q : Option Value → Heap → List Loc → Prop} {kc ks : Nat} : Go p e below (GlW p e below s Q kc ks) := fun F F' h g => by
  obtain ⟨s₂, o, h1, h2⟩ := g
  exact ⟨s₂, o, h _ h1, h2⟩
/-- how a walk that may intern ends: over every later table -/
def RtB (p : Program) (l : Launch) (e : Env) (R : Room) (s : State) (m : MethodId) (args : Array Value) (below : List Frame) (meth : Method) (c : Code) (Q : Option Value → Heap → List Loc → Prop) (kc ks : Nat) (G : State → Prop) (kS : Nat) : Prop :=
  ∀ (vm1 : Vm) (k1 : Nat), s.Since vm1 k1 → kS ≤ k1 → Rt p l e R (s.setVm vm1) m args below meth c (fun v h L => k1 ≤ h.size ∧ Q v h L) kc ks G
theorem glW_rb {Q : Option Value → Heap → List Loc → Prop} {kc ks : Nat} (hlk : meth.locks = false) : RtB p l e R s m args below meth c Q kc ks (GlW p e below s Q kc ks) 0 := fun vm1 k1 hS _ T locs cells slots v F X hc hs hv hQ st => by
  obtain ⟨fs, hr, hrun, hended, hW⟩ := X.leaveW hS hQ.1 (v := v) hv hlk
  exact ⟨_, _, st fs hr, hrun, hended, v, locs, rfl, hQ.2, hW.1, hW.2.1, hW.2.2.1, hW.2.2.2.mono hc hs⟩
theorem own_since (s : State) (n : Nat) : s.Since s.vm n := (State.WarmedH.refl s).since n
theorem own_since_mono {vm1 : Vm} {i j : Nat} (h : s.Since vm1 i) (q : i ≤ j) : s.Since vm1 j := ⟨h.1, fun n x a b => ⟨(h.2 n x a b).1, Nat.lt_of_lt_of_le (h.2 n x a b).2 q⟩⟩
section RB
variable {Q : Option Value → Heap → List Loc → Prop} {kc ks : Nat} {G : State → Prop} {kS : Nat}
theorem own_rt (rb : RtB p l e R s m args below meth c Q kc ks G kS) : Rt p l e R s m args below meth c (fun v h L => kS ≤ h.size ∧ Q v h L) kc ks G := rb s.vm kS (own_since s kS) (Nat.le_refl _)
theorem own_reb (rb : RtB p l e R s m args below meth c Q kc ks G kS) {vm1 : Vm} {k1 : Nat} (hS : s.Since vm1 k1) (hk : kS ≤ k1) : RtB p l e R (s.setVm vm1) m args below meth c Q kc ks G k1 := fun vm2 k2 h2 h => rb vm2 k2 (hS.trans h2 h) (Nat.le_trans hk h)
end RB
/-- a method's contract, where it may intern -/
def ConW (l : Launch) (Z : State) (y : MethodName) (bytes : ByteArray) (maxL : Nat) (ret : Option FieldType) (rm : Room) (as' : Array Value) (h : Heap) (Q : Option Value → Heap → List Loc → Prop) : Prop :=
  ∀ ws, MetFree l y (head1 (Jvm.Cond.code y bytes maxL ret :: ws) rm) (fun a U => a = as' ∧ Z.Warmed39 U.vm ∧ U.heap = h) (fun _ _ _ _ _ => True) (fun _ U o U' => ∃ v L, o = .returned v ∧ Q v U'.heap L ∧ ReturnedEndW U o U' L rm.cells rm.slots)
theorem own_bodyW {y : MethodName} {bytes : ByteArray} {maxL : Nat} {ret : Option FieldType} {rm : Room} {as' : Array Value} {h0 : Heap} {Q : Option Value → Heap → List Loc → Prop} (hp : plainFor y = true)
    (k : ∀ (p : Program) (e : Env) (s : State) (m : MethodId) (below : List Frame) (meth : Method) (c : Code) (s₁ : State), p.tables.exec = Jvm.exec → c.code = bytes → c.maxLocals = maxL → s.vm.findClass y.cls = some m.cls → meth.name = y.name → meth.sig.returnType = ret → Z.Warmed39 s.vm → s₁.heap = h0 →
      Stand p l e rm s m as' below meth c s₁ [] 0 0 → ∀ G : State → Prop, Go p e below G → ∀ kS, RtB p l e rm s m as' below meth c Q rm.cells rm.slots G kS → kS ≤ h0.size → G (s₁.setTop (entryFrame m as' maxL))) : ConW l Z y bytes maxL ret rm as' h0 Q := fun ws => by
  refine MetFree.of_bodySF hp hisR ?_
  intro p e s m args below meth c s₁ Bd hml0 hP hK
  obtain ⟨rfl, hZ, hh⟩ := hP
  exact k p e s m below meth c s₁ Bd.exec Bd.bytes hml0 (findClass_of_methodNamed Bd.named) (name_of_methodNamed Bd.named Bd.method).1 Bd.returns hZ (by rw [← hh, Bd.state]; rfl) (Stand.of_body Bd) (GlW p e below s Q rm.cells rm.slots) glW_go 0 (glW_rb Bd.notSynchronized) (Nat.zero_le _)
section CallsW
variable {G : State → Prop} {Qm : Option Value → Heap → List Loc → Prop} {kc ks kS : Nat}
theorem own_ldcS (go : Go p e below G) (X : Stand p l e R s m args below meth c T locs cells slots) (hx : p.tables.exec = Jvm.exec) (hZ : Z.Warmed39 s.vm) (eT : T.heap = h) {own text : String} {index : Nat} (hown : s.vm.findClass own = some m.cls) (w : (Cond.stringLink own index text).before a0 Z = true) (wS : ∀ a ∈ Bundle.stringAtoms, a.before a0 Z = true)
    (rb : RtB p l e R s m args below meth c Qm kc ks G kS) (hk : kS ≤ h.size) {g : JFrame} (hg : g.method = m) (hd : decode c.code g.pc = .ok (.ldc index, 2)) (n : Nat) (hn : 4 * text.toList.length ≤ n) (hbig : n ≤ 536870912) (hc : cells + 2 ≤ R.cells) (hl : slots + (n + 4) ≤ R.slots)
    (k : ∀ (s : State) (kS : Nat) (T' : State) (h' : Heap) (a : Addr), Z.Warmed39 s.vm → s.vm.findClass own = some m.cls → RtB p l e R s m args below meth c Qm kc ks G kS → kS ≤ h'.size → Stand p l e R s m args below meth c T' locs (cells + 2) (slots + (n + 4)) → T'.heap = h' → Ext h h' → G (T'.setTop { g with pc := g.pc + 2, stack := .ref a :: g.stack })) : G (T.setTop g) := by
  obtain ⟨a, T', h', k1, X', eT', E, hS, hk1, hZ', hown', st⟩ := ldcS (s := s) (vm0 := s.vm) X hx hZ hown w wS eT (own_since s kS) hk hg hd hn hbig hc hl
  exact go _ _ st (k _ h'.size T' h' a hZ' hown' (own_reb rb (own_since_mono hS hk1) (Nat.le_trans hk E.1)) (Nat.le_refl _) X' eT' E)
theorem own_staticW (go : Go p e below G) (X : Stand p l e R s m args below meth c T locs cells slots) (hx : p.tables.exec = Jvm.exec) (hZ : Z.Warmed39 s.vm) (eT : T.heap = h) {own : String} {index : Nat} {y : MethodName} {bytes : ByteArray} {maxL : Nat} {ret : Option FieldType} {rm : Room} {as' : Array Value} {Q : Option Value → Heap → List Loc → Prop} (hown : s.vm.findClass own = some m.cls) (w1 : (Cond.methodLink own index y).before a0 Z = true) (w2 : (Cond.static y).before a0 Z = true) (w3 : (Cond.initialized y.cls).before a0 Z = true) (w4 : (Cond.code y bytes maxL ret).before a0 Z = true)
    (hy : y.cls ≠ "java/lang/invoke/MethodHandle" ∧ y.cls ≠ "java/lang/invoke/VarHandle") (hM : ConW l Z y bytes maxL ret rm as' h Q) (W : Nat) (hf : rm.frames + 1 ≤ R.frames) (hl : W + (maxL + 11) + rm.locals ≤ R.locals) (hc : cells + rm.cells ≤ R.cells) (hs : slots + rm.slots ≤ R.slots)
    {g : JFrame} (hg : g.method = m) (hsize : g.locals.size = c.maxLocals) (argsL rest : List Value) (has : argsL.toArray = as') (hlen : ∀ sig, parseMethodDescriptor y.desc = some sig → argsL.length = sig.parameters.length)
    (hstack : g.stack = argsL.reverse ++ rest) (hW : 2 * g.monitorRoom + (rest.map fun v => v.category).sum ≤ W) (hd : decode c.code g.pc = .ok (.invokestatic index, 3))
    (rb : RtB p l e R s m args below meth c Qm kc ks G kS) (hk : kS ≤ h.size)
    (k : ∀ (s : State) (kS : Nat) (T' : State) (L' : List Loc) (v : Option Value), Z.Warmed39 s.vm → s.vm.findClass own = some m.cls → RtB p l e R s m args below meth c Qm kc ks G kS → kS ≤ T'.heap.size → Stand p l e R s m args below meth c T' (locs ++ L') (cells + rm.cells) (slots + rm.slots) → Q v T'.heap L' → G (T'.setTop { g with pc := g.pc + 3, stack := v.toList ++ rest })) : G (T.setTop g) := by
  obtain ⟨v, _, ⟨T1, L1, k1, n1⟩, -, X1, hS1, gr1, ⟨Lc, hQ, l1, y1, z1⟩, st⟩ := callSS X hx hown (mvT hZ w1) (mvT hZ w2) (mvT hZ w3) (mvT hZ w4) hy (backOfS (R := R) (W := W) (hM []) hZ w4 w3 hf hl) hg hsize hlen hstack hW hd (fun _ _ => ⟨has, eT, hc, hs⟩)
  dsimp only [Pt.U, Pt.locs, Pt.cells, Pt.slots] at X1 l1 y1 z1 st hQ hS1 gr1
  subst l1 y1 z1
  exact go _ _ (fun t k => st.trans k) (k (s.setVm T1.vm) T1.heap.size T1 Lc v (State.Warmed39.trans (t := s) hZ hS1.1) ((hS1.1.alike.findClass _ _).trans hown) (own_reb rb hS1 (Nat.le_trans hk (eT ▸ gr1))) (Nat.le_refl _) X1 hQ)
theorem own_initW (go : Go p e below G) (X : Stand p l e R s m args below meth c T locs cells slots) (hx : p.tables.exec = Jvm.exec) (hZ : Z.Warmed39 s.vm) (eT : T.heap = h) {own : String} {index : Nat} {y : MethodName} {bytes : ByteArray} {maxL : Nat} {rm : Room} {as' : Array Value} {Q : Option Value → Heap → List Loc → Prop} (hy1 : y.name = "<init>") (hown : s.vm.findClass own = some m.cls) (w1 : (Cond.methodLink own index y).before a0 Z = true) (w2 : (Cond.instanceMethod y).before a0 Z = true) (w3 : (Cond.initialized y.cls).before a0 Z = true) (w4 : (Cond.code y bytes maxL none).before a0 Z = true)
    (hy : y.cls ≠ "java/lang/invoke/MethodHandle" ∧ y.cls ≠ "java/lang/invoke/VarHandle") (hM : ConW l Z y bytes maxL none rm as' h Q) (W : Nat) (hf : rm.frames + 1 ≤ R.frames) (hl : W + (maxL + 11) + rm.locals ≤ R.locals) (hc : cells + rm.cells ≤ R.cells) (hs : slots + rm.slots ≤ R.slots)
    {g : JFrame} (hg : g.method = m) (hsize : g.locals.size = c.maxLocals) (a : Addr) (argsL rest : List Value) (has : (.ref a :: argsL).toArray = as') (hlen : ∀ sig, parseMethodDescriptor y.desc = some sig → argsL.length = sig.parameters.length)
    (hstack : g.stack = argsL.reverse ++ .ref a :: rest) (hW : 2 * g.monitorRoom + (rest.map fun v => v.category).sum ≤ W) (hd : decode c.code g.pc = .ok (.invokespecial index, 3))
    (rb : RtB p l e R s m args below meth c Qm kc ks G kS) (hk : kS ≤ h.size)
    (k : ∀ (s : State) (kS : Nat) (T' : State) (L' : List Loc) (v : Option Value), Z.Warmed39 s.vm → s.vm.findClass own = some m.cls → RtB p l e R s m args below meth c Qm kc ks G kS → kS ≤ T'.heap.size → Stand p l e R s m args below meth c T' (locs ++ L') (cells + rm.cells) (slots + rm.slots) → Q v T'.heap L' → G (T'.setTop { g with pc := g.pc + 3, stack := v.toList ++ rest })) : G (T.setTop g) := by
  obtain ⟨v, _, ⟨T1, L1, k1, n1⟩, -, X1, hS1, gr1, ⟨Lc, hQ, l1, y1, z1⟩, st⟩ := X.specialBackS hx hy1 hown (mvT hZ w1) (mvT hZ w2) (mvT hZ w4) hy (backOfS (R := R) (W := W) (hM []) hZ w4 w3 hf hl) hg hsize (Steps.refl _) (a := a) hlen hstack hW hd (fun _ _ => ⟨has, eT, hc, hs⟩)
  dsimp only [Pt.U, Pt.locs, Pt.cells, Pt.slots] at X1 l1 y1 z1 st hQ hS1 gr1
  subst l1 y1 z1
  exact go _ _ (fun t k => st.trans k) (k (s.setVm T1.vm) T1.heap.size T1 Lc v (State.Warmed39.trans (t := s) hZ hS1.1) ((hS1.1.alike.findClass _ _).trans hown) (own_reb rb hS1 (Nat.le_trans hk (eT ▸ gr1))) (Nat.le_refl _) X1 hQ)
theorem own_virtualW (go : Go p e below G) (X : Stand p l e R s m args below meth c T locs cells slots) (hx : p.tables.exec = Jvm.exec) (hZ : Z.Warmed39 s.vm) (eT : T.heap = h) {own : String} {index : Nat} {y : MethodName} {bytes : ByteArray} {maxL : Nat} {ret : Option FieldType} {rm : Room} {as' : Array Value} {Q : Option Value → Heap → List Loc → Prop} {C : String} {z : MethodName} (hown : s.vm.findClass own = some m.cls) (w1 : (Cond.methodLink own index y).before a0 Z = true) (w2 : (Cond.declares y).before a0 Z = true) (hnf : NotFace s y) (w3 : (Cond.selects C y z).before a0 Z = true) (w4 : (Cond.instanceMethod z).before a0 Z = true) (w5 : (Cond.initialized z.cls).before a0 Z = true) (w6 : (Cond.code z bytes maxL ret).before a0 Z = true)
    (hy : y.cls ≠ "java/lang/invoke/MethodHandle" ∧ y.cls ≠ "java/lang/invoke/VarHandle") (hM : ConW l Z z bytes maxL ret rm as' h Q) (W : Nat) (hf : rm.frames + 1 ≤ R.frames) (hl : W + (maxL + 11) + rm.locals ≤ R.locals) (hc : cells + rm.cells ≤ R.cells) (hs : slots + rm.slots ≤ R.slots)
    {a : Addr} (E : Exa Z h a C) {g : JFrame} (hg : g.method = m) (hsize : g.locals.size = c.maxLocals) (argsL rest : List Value) (has : (.ref a :: argsL).toArray = as') (hlen : ∀ sig, parseMethodDescriptor y.desc = some sig → argsL.length = sig.parameters.length)
    (hstack : g.stack = argsL.reverse ++ .ref a :: rest) (hW : 2 * g.monitorRoom + (rest.map fun v => v.category).sum ≤ W) (hd : decode c.code g.pc = .ok (.invokevirtual index, 3))
    (rb : RtB p l e R s m args below meth c Qm kc ks G kS) (hk : kS ≤ h.size)
    (k : ∀ (s : State) (kS : Nat) (T' : State) (L' : List Loc) (v : Option Value), Z.Warmed39 s.vm → s.vm.findClass own = some m.cls → RtB p l e R s m args below meth c Qm kc ks G kS → kS ≤ T'.heap.size → Stand p l e R s m args below meth c T' (locs ++ L') (cells + rm.cells) (slots + rm.slots) → Q v T'.heap L' → G (T'.setTop { g with pc := g.pc + 3, stack := v.toList ++ rest })) : G (T.setTop g) := by
  obtain ⟨cq, kq, qa, qb, qc⟩ := isOf hZ eT E
  obtain ⟨v, _, ⟨T1, L1, k1, n1⟩, -, X1, hS1, gr1, ⟨Lc, hQ, l1, y1, z1⟩, st⟩ := X.virtualBackS hx hown (mvT hZ w1) (mvT hZ w2) hnf (mvT hZ w3) (mvT hZ w4) hy (backOfS (R := R) (W := W) (hM []) hZ w6 w5 hf hl) qa qc hg hsize (Steps.refl _) hlen hstack hW hd (fun _ _ => ⟨has, eT, hc, hs⟩)
  dsimp only [Pt.U, Pt.locs, Pt.cells, Pt.slots] at X1 l1 y1 z1 st hQ hS1 gr1
  subst l1 y1 z1
  exact go _ _ (fun t k => st.trans k) (k (s.setVm T1.vm) T1.heap.size T1 Lc v (State.Warmed39.trans (t := s) hZ hS1.1) ((hS1.1.alike.findClass _ _).trans hown) (own_reb rb hS1 (Nat.le_trans hk (eT ▸ gr1))) (Nat.le_refl _) X1 hQ)
theorem own_privateW (go : Go p e below G) (X : Stand p l e R s m args below meth c T locs cells slots) (hx : p.tables.exec = Jvm.exec) (hZ : Z.Warmed39 s.vm) (eT : T.heap = h) {own : String} {index : Nat} {y : MethodName} {bytes : ByteArray} {maxL : Nat} {ret : Option FieldType} {rm : Room} {as' : Array Value} {Q : Option Value → Heap → List Loc → Prop} (hown : s.vm.findClass own = some m.cls) (w1 : (Cond.methodLink own index y).before a0 Z = true) (w2 : (Cond.instanceMethod y).before a0 Z = true) {C0 : String} {z : MethodName} (w3 : (Cond.selects C0 z z).before a0 Z = true) (hz : z.cls = y.cls) (w4 : (Cond.privateMethod y).before a0 Z = true) (w5 : (Cond.initialized y.cls).before a0 Z = true) (w6 : (Cond.code y bytes maxL ret).before a0 Z = true)
    (hy : y.cls ≠ "java/lang/invoke/MethodHandle" ∧ y.cls ≠ "java/lang/invoke/VarHandle") (hM : ConW l Z y bytes maxL ret rm as' h Q) (W : Nat) (hf : rm.frames + 1 ≤ R.frames) (hl : W + (maxL + 11) + rm.locals ≤ R.locals) (hc : cells + rm.cells ≤ R.cells) (hs : slots + rm.slots ≤ R.slots)
    {a : Addr} {C : String} (E : Exa Z h a C) {g : JFrame} (hg : g.method = m) (hsize : g.locals.size = c.maxLocals) (argsL rest : List Value) (has : (.ref a :: argsL).toArray = as') (hlen : ∀ sig, parseMethodDescriptor y.desc = some sig → argsL.length = sig.parameters.length)
    (hstack : g.stack = argsL.reverse ++ .ref a :: rest) (hW : 2 * g.monitorRoom + (rest.map fun v => v.category).sum ≤ W) (hd : decode c.code g.pc = .ok (.invokevirtual index, 3))
    (rb : RtB p l e R s m args below meth c Qm kc ks G kS) (hk : kS ≤ h.size)
    (k : ∀ (s : State) (kS : Nat) (T' : State) (L' : List Loc) (v : Option Value), Z.Warmed39 s.vm → s.vm.findClass own = some m.cls → RtB p l e R s m args below meth c Qm kc ks G kS → kS ≤ T'.heap.size → Stand p l e R s m args below meth c T' (locs ++ L') (cells + rm.cells) (slots + rm.slots) → Q v T'.heap L' → G (T'.setTop { g with pc := g.pc + 3, stack := v.toList ++ rest })) : G (T.setTop g) := by
  obtain ⟨cq, q1, q2⟩ := E.cell
  obtain ⟨v, _, ⟨T1, L1, k1, n1⟩, -, X1, hS1, gr1, ⟨Lc, hQ, l1, y1, z1⟩, st⟩ := X.privateBackS hx hown (mvT hZ w1) (mvT hZ w2) (own_selpriv hz (mvT hZ w3) (Cond.privateMethod_at (mvP hZ w4 (args := #[]))) (mvT hZ w2) hy) (Cond.privateMethod_at (mvP hZ w4 (args := #[]))) (mvT hZ w6) hy (backOfS (R := R) (W := W) (hM []) hZ w6 w5 hf hl) hg hsize (Steps.refl _) (a := a) (by rw [eT]; exact q1) q2 hlen hstack hW hd (fun _ _ => ⟨has, eT, hc, hs⟩)
  dsimp only [Pt.U, Pt.locs, Pt.cells, Pt.slots] at X1 l1 y1 z1 st hQ hS1 gr1
  subst l1 y1 z1
  exact go _ _ (fun t k => st.trans k) (k (s.setVm T1.vm) T1.heap.size T1 Lc v (State.Warmed39.trans (t := s) hZ hS1.1) ((hS1.1.alike.findClass _ _).trans hown) (own_reb rb hS1 (Nat.le_trans hk (eT ▸ gr1))) (Nat.le_refl _) X1 hQ)
theorem own_interfaceW (go : Go p e below G) (X : Stand p l e R s m args below meth c T locs cells slots) (hx : p.tables.exec = Jvm.exec) (hZ : Z.Warmed39 s.vm) (eT : T.heap = h) {own : String} {index : Nat} {y : MethodName} {bytes : ByteArray} {maxL : Nat} {ret : Option FieldType} {rm : Room} {as' : Array Value} {Q : Option Value → Heap → List Loc → Prop} {C : String} {z : MethodName} {count : Nat} (hown : s.vm.findClass own = some m.cls) (w1 : (Cond.methodLink own index y).before a0 Z = true) (w2 : (Cond.declares y).before a0 Z = true) (w2b : (Cond.interfaceMethod y.cls y.cls y.name y.desc).before args s = true) (w3 : (Cond.selects C y z).before a0 Z = true) (w4 : (Cond.instanceMethod z).before a0 Z = true) (w4b : (Cond.publicMethod z).before a0 Z = true) (w4c : (Cond.unhidden C y.name y.desc).before a0 Z = true) (w4d : (Cond.castable C y.cls).before a0 Z = true) (w5 : (Cond.initialized z.cls).before a0 Z = true) (w6 : (Cond.code z bytes maxL ret).before a0 Z = true)
    (hy : y.cls ≠ "java/lang/invoke/MethodHandle" ∧ y.cls ≠ "java/lang/invoke/VarHandle") (hM : ConW l Z z bytes maxL ret rm as' h Q) (W : Nat) (hf : rm.frames + 1 ≤ R.frames) (hl : W + (maxL + 11) + rm.locals ≤ R.locals) (hc : cells + rm.cells ≤ R.cells) (hs : slots + rm.slots ≤ R.slots)
    {a : Addr} (E : Exa Z h a C) {g : JFrame} (hg : g.method = m) (hsize : g.locals.size = c.maxLocals) (argsL rest : List Value) (has : (.ref a :: argsL).toArray = as') (hlen : ∀ sig, parseMethodDescriptor y.desc = some sig → argsL.length = sig.parameters.length)
    (hstack : g.stack = argsL.reverse ++ .ref a :: rest) (hW : 2 * g.monitorRoom + (rest.map fun v => v.category).sum ≤ W) (hd : decode c.code g.pc = .ok (.invokeinterface index count, 5))
    (rb : RtB p l e R s m args below meth c Qm kc ks G kS) (hk : kS ≤ h.size)
    (k : ∀ (s : State) (kS : Nat) (T' : State) (L' : List Loc) (v : Option Value), Z.Warmed39 s.vm → s.vm.findClass own = some m.cls → RtB p l e R s m args below meth c Qm kc ks G kS → kS ≤ T'.heap.size → Stand p l e R s m args below meth c T' (locs ++ L') (cells + rm.cells) (slots + rm.slots) → Q v T'.heap L' → G (T'.setTop { g with pc := g.pc + 5, stack := v.toList ++ rest })) : G (T.setTop g) := by
  obtain ⟨cq, kq, qa, qb, qc⟩ := isOf hZ eT E
  obtain ⟨v, _, ⟨T1, L1, k1, n1⟩, -, X1, hS1, gr1, ⟨Lc, hQ, l1, y1, z1⟩, st⟩ := X.interfaceBackS hx hown (mvT hZ w1) (mvT hZ w2) w2b (mvT hZ w3) (mvT hZ w4) (mvT hZ w4b) (mvT hZ w4c) (mvT hZ w4d) hy (backOfS (R := R) (W := W) (hM []) hZ w6 w5 hf hl) qa qb qc hg hsize (Steps.refl _) hlen hstack hW hd (fun _ _ => ⟨has, eT, hc, hs⟩)
  dsimp only [Pt.U, Pt.locs, Pt.cells, Pt.slots] at X1 l1 y1 z1 st hQ hS1 gr1
  subst l1 y1 z1
  exact go _ _ (fun t k => st.trans k) (k (s.setVm T1.vm) T1.heap.size T1 Lc v (State.Warmed39.trans (t := s) hZ hS1.1) ((hS1.1.alike.findClass _ _).trans hown) (own_reb rb hS1 (Nat.le_trans hk (eT ▸ gr1))) (Nat.le_refl _) X1 hQ)
end CallsW
end OwnW
section OwnCpy
variable {p : Program} {l : Launch} {e : Env} {R : Room} {s : State} {m : MethodId} {args : Array Value} {below : List Frame} {meth : Method} {c : Code} {T : State} {locs : List Loc} {cells slots : Nat} {Z : State} {a0 : Array Value} {h h' : Heap} {a b : Addr} {na nb : Nat} {f f2 : Nat → Value}
variable {G : State → Prop}
theorem own_getD {n i : Nat} {f : Nat → Value} {d : Value} (hi : i < n) : ((List.range n).map f).getD i d = f i := by simp [List.getD_eq_getElem?_getD, hi]
theorem own_clamp {n : Nat} (h : n < 2147483648) : n.toInt32.toNatClampNeg = n := ix_of (len_toInt h)
theorem own_nneg {n : Nat} (h : n < 2147483648) : ¬ n.toInt32 < 0 := by
  rw [Int32.lt_iff_toInt_lt, len_toInt h]; have : (0 : Int32).toInt = 0 := rfl; omega
theorem own_arv {ty : FieldType} {d : Value} (F : Ary Z h a ty na f) : ∃ k, Arv Z h a k ty na.toInt32 ((List.range na).map f) d := by
  obtain ⟨c, A, r1, r2, r3, r4⟩ := F
  exact ⟨c.cls, c, A, rfl, by rw [own_clamp r2]; exact r1, own_nneg r2, fun i hi => by rw [own_getD (by omega)]; exact r3 i (by omega), fun i hi => by rw [own_getD (by omega)]; exact r4 i (by omega)⟩
theorem own_acopy (go : Go p e below G) (X : Stand p l e R s m args below meth c T locs cells slots) (hx : p.tables.exec = Jvm.exec) (hZ : Z.Warmed39 s.vm) (eT : T.heap = h) {own : String} {index : Nat} (hown : s.vm.findClass own = some m.cls)
    (w1 : (Cond.methodLink own index Jvm.Stand.acN).before a0 Z = true) (w2 : (Cond.native Jvm.Stand.acN).before a0 Z = true) (w3 : (Cond.static Jvm.Stand.acN).before a0 Z = true) (w4 : (Cond.initialized "java/lang/System").before a0 Z = true)
    (A : Ary Z h a .int na f) (B : Ary Z h b .int nb f2) {nn : Int32} (cN : Nat) (hn : nn.toInt = cN) (h4 : cN ≤ na) (h5 : cN ≤ nb) {n0 : Nat} (N : Fr n0 locs) (ge : n0 ≤ b)
    {g : JFrame} (hg : g.method = m) (hsize : g.locals.size = c.maxLocals) {rest : List Value} (hs : g.stack = .int nn :: .int 0 :: .ref b :: .int 0 :: .ref a :: rest) (hd : decode c.code g.pc = .ok (.invokestatic index, 3))
    (hf : 1 ≤ R.frames) (W : Nat) (hW : 2 * g.monitorRoom + (rest.map fun v => v.category).sum ≤ W) (hlo : W + (nativeFrameWords "java/lang/System" "arraycopy" 5 + 11) ≤ R.locals)
    (k : ∀ (T' : State) (h' : Heap) (L : List Loc), Stand p l e R s m args below meth c T' L cells slots → T'.heap = h' → Fr n0 L → Keep h h' [b] → Ary Z h' b .int nb (fun i => if i < cN then f i else f2 i) → G (T'.setTop { g with pc := g.pc + 3, stack := rest })) : G (T.setTop g) := by
  obtain ⟨ka, Aa⟩ := own_arv (d := .int 0) A
  obtain ⟨kb, Bb⟩ := own_arv (d := .int 0) B
  obtain ⟨-, -, -, r2, -⟩ := A
  obtain ⟨-, -, -, q2, -⟩ := B
  have ec : nn.toNatClampNeg = cN := ix_of hn
  have nn0 : ¬ nn < 0 := by rw [Int32.lt_iff_toInt_lt, hn]; have : (0 : Int32).toInt = 0 := rfl; omega
  have z0 : (0 : Int32).toNatClampNeg = 0 := rfl
  obtain ⟨T', h', L, X', eT', N', K', ⟨cd, Ad, -, sd, -, Hd, Gd⟩, st⟩ := cpA X hx hZ hown w1 w2 w3 w4 eT Aa Bb (us := (List.range nn.toNatClampNeg).map fun i => ((List.range na).map f).getD ((0 : Int32).toNatClampNeg + i) (.int 0)) (Or.inl ⟨rfl, rfl⟩) (by decide) (by decide) nn0 (by rw [ec, z0, own_clamp r2]; omega) (by rw [ec, z0, own_clamp q2]; omega) rfl (by rw [ec, z0]; simp; omega) N ge hg hsize hs hd hf hW hlo
  rw [own_clamp q2] at sd
  have key : ∀ i, i < nb → (List.take (0 : Int32).toNatClampNeg ((List.range nb).map f2) ++ (List.range nn.toNatClampNeg).map (fun i => ((List.range na).map f).getD ((0 : Int32).toNatClampNeg + i) (.int 0)) ++ List.drop ((0 : Int32).toNatClampNeg + nn.toNatClampNeg) ((List.range nb).map f2)).getD i (.int 0) = if i < cN then f i else f2 i := by
    intro i hi
    rw [z0, ec, List.take_zero, List.nil_append, Nat.zero_add, List.getD_eq_getElem?_getD]
    by_cases q : i < cN
    · rw [if_pos q, List.getElem?_append_left (by simpa using q)]
      simp [q, show i < na by omega]
    · rw [if_neg q, List.getElem?_append_right (by simpa using q)]
      simp only [List.length_map, List.length_range, List.getElem?_drop]
      rw [show cN + (i - cN) = i by omega]
      simp [hi]
  refine go _ _ st (k T' h' L X' eT' N' K' ⟨cd, Ad, sd, q2, fun i hi => ?_, fun i hi => ?_⟩)
  · show cd.slots[i]? = some (if i < cN then f i else f2 i)
    rw [← key i hi]; exact Hd i (by omega)
  · show fits .int (if i < cN then f i else f2 i) = true
    rw [← key i hi]; exact Gd i (by omega)
end OwnCpy

abbrev vI (x : Int32) : Slot := .val (.int x)
abbrev vR (a : Addr) : Slot := .val (.ref a)
theorem wd {a0 : Array Value} {Z : State} (hw : ∀ d ∈ tables_1, d.before a0 Z = true) (i : Nat) {d : Cond} (h : tables_1[i]? = some d) : d.before a0 Z = true := hw d (List.mem_of_getElem? h)

theorem own_wS {a0 : Array Value} {Z : State} (hw : ∀ d ∈ tables_1, d.before a0 Z = true) : ∀ a ∈ Bundle.stringAtoms, a.before a0 Z = true := fun d hd => by
  simp only [Bundle.stringAtoms, List.mem_cons, List.not_mem_nil, or_false] at hd
  rcases hd with rfl | rfl | rfl | rfl | rfl | rfl | rfl
  · exact hw _ (List.mem_of_getElem? (i := 24) rfl)
  · exact hw _ (List.mem_of_getElem? (i := 25) rfl)
  · exact hw _ (List.mem_of_getElem? (i := 0) rfl)
  · exact hw _ (List.mem_of_getElem? (i := 26) rfl)
  · exact hw _ (List.mem_of_getElem? (i := 27) rfl)
  · exact hw _ (List.mem_of_getElem? (i := 28) rfl)
  · exact hw _ (List.mem_of_getElem? (i := 29) rfl)
def upd (g : Nat → Int32) (p : Nat) (y : Int32) (i : Nat) : Int32 := if i = p then y else g i
def Head (g : Nat → Int32) (mj : Int32) (p w cn : Nat) : Prop := (((g p &&& 255).toUInt32 >>> ((5 : Int32) &&& 31).toUInt32).toInt32) = mj ∧ ((w = 1 ∧ (g p &&& 31) = Int32.ofNat cn ∧ cn < 24) ∨ (w = 2 ∧ (g p &&& 31) = 24 ∧ (g (p + 1) &&& 255) = Int32.ofNat cn ∧ cn < 128))
theorem Head.ww {g : Nat → Int32} {mj : Int32} {p w cn : Nat} (H : Head g mj p w cn) : w = 1 ∨ w = 2 := H.2.elim (fun z => Or.inl z.1) (fun z => Or.inr z.1)
theorem own_ofNat {n : Nat} (h : n < 1000) : (Int32.ofNat n).toInt = n := Int32.toInt_ofNat_small (by omega)
theorem Head.rng {g : Nat → Int32} {mj : Int32} {p w cn : Nat} (H : Head g mj p w cn) : 0 ≤ (g p &&& 31).toInt ∧ (g p &&& 31).toInt ≤ 24 := by
  rcases H.2 with ⟨-, a, b⟩ | ⟨-, a, -⟩
  · rw [a, own_ofNat (by omega)]; omega
  · rw [a]; decide
theorem upd_ne {g : Nat → Int32} {p q : Nat} {y : Int32} (h : p ≠ q) : upd g q y p = g p := by unfold upd; rw [if_neg h]
theorem upd_eq {g : Nat → Int32} {p : Nat} {y : Int32} : upd g p y p = y := by unfold upd; rw [if_pos rfl]
theorem Head.upd {g : Nat → Int32} {mj : Int32} {p w cn q : Nat} {y : Int32} (H : Head g mj p w cn) (h : p + w ≤ q) : Head (upd g q y) mj p w cn := by
  have hw := H.ww
  refine ⟨by rw [upd_ne (by omega)]; exact H.1, ?_⟩
  rcases H.2 with ⟨a, b, d⟩ | ⟨a, b, d, e⟩
  · exact Or.inl ⟨a, by rw [upd_ne (by omega)]; exact b, d⟩
  · exact Or.inr ⟨a, by rw [upd_ne (by omega)]; exact b, by rw [upd_ne (by omega)]; exact d, e⟩
theorem own_upd {g : Nat → Int32} {n p : Nat} {x y : Int32} (hxy : x = y) : ∀ i, i < n → (fun q => if q = p then Value.int x else (fun i => Value.int (g i)) q) i = (fun i => Value.int (upd g p y i)) i := by
  intro i _
  subst hxy
  show (if i = p then Value.int x else Value.int (g i)) = Value.int (if i = p then x else g i)
  by_cases h : i = p <;> simp [h]
theorem own_nb (z : Int32) : nar .byte (z.toInt8.toInt32) = z.toInt8.toInt32 := by simp [nar]
theorem own_lt {u v : Int32} {i j : Nat} (h1 : u.toInt = i) (h2 : v.toInt = j) : u < v ↔ i < j := by rw [Int32.lt_iff_toInt_lt, h1, h2]; omega
theorem own_lit {u : Int32} {n : Nat} (k : Int32) {kk : Nat} (hk : k.toInt = kk) (h : u.toInt = n) : u = k ↔ n = kk := by rw [← Int32.toInt_inj, h, hk]; omega
theorem own_add {u v : Int32} {i j : Nat} (h1 : u.toInt = i) (h2 : v.toInt = j) (hi : i + j < 1000) : (u + v).toInt = ((i + j : Nat) : Int) := by
  have q := c_iadd u v
  have r := rng32 (u + v)
  omega
theorem own_pos {u : Int32} {n : Nat} (h : u.toInt = n) (h1 : 1 ≤ n) : (0 : Int32) < u := (own_lt (i := 0) rfl h).mpr (by omega)
theorem own_m1 {u : Int32} {n : Nat} (h : u.toInt = n) (h1 : 1 ≤ n) (h2 : n < 1000) : (u - 1).toInt = ((n - 1 : Nat) : Int) := by
  have q := c_isub u 1
  have r := rng32 (u - 1)
  have o : (1 : Int32).toInt = 1 := rfl
  omega
theorem own_rem64 {u : Int32} {p : Nat} (k : Int32) {kk : Nat} (hk : k.toInt = kk) (h : u.toInt = p) (hp : p + kk < 64) : k < (64 : Int32) - u := by
  have q := c_isub 64 u
  have r := rng32 (64 - u)
  have o : (64 : Int32).toInt = 64 := rfl
  rw [Int32.lt_iff_toInt_lt]
  omega
theorem own_lt23 {cn : Nat} (h : cn < 24) : ¬ (23 : Int32) < Int32.ofNat cn := by
  rw [Int32.lt_iff_toInt_lt, own_ofNat (by omega)]; have e : (23 : Int32).toInt = 23 := rfl; omega
theorem own_or0 (x : Int64) : (((0 : Int64) <<< ((8 : Int32) &&& 0x3f).toInt64) ||| x) = x := by
  show ((0 : Int64) ||| x) = x; exact Int64.zero_or
theorem own_x31 (x : Int32) : ((x &&& 255) &&& 31) = x &&& 31 := by rw [Int32.and_assoc]; rfl
def cmpJ (x y : Int64) : Int32 := if x < y then -1 else if x = y then 0 else 1
theorem Head.cn {g : Nat → Int32} {mj : Int32} {p w cn : Nat} (H : Head g mj p w cn) : cn < 128 := by
  rcases H.2 with ⟨-, -, a⟩ | ⟨-, -, -, a⟩ <;> omega
theorem own_madd {x : Int64} (h0 : 0 ≤ x.toInt) (h1 : x.toInt < 1000) : (x + (-9223372036854775808 : Int64)).toInt = x.toInt - 9223372036854775808 := by
  have q := c_ladd x (-9223372036854775808)
  have r := rng64 (x + (-9223372036854775808))
  have o : (-9223372036854775808 : Int64).toInt = -9223372036854775808 := rfl
  omega
theorem own_cmpX {x y : Int64} {cn : Nat} (a1 : x.toInt = cn) (hcn : cn < 128) (h1 : (cn : Int) ≤ y.toInt) (h2 : y.toInt ≤ 64) : ¬ (0 : Int32) < cmpJ (x + (-9223372036854775808 : Int64)) (y + (-9223372036854775808 : Int64)) := by
  have b1 := own_madd (x := x) (by omega) (by omega)
  have b2 := own_madd (x := y) (by omega) (by omega)
  generalize x + (-9223372036854775808 : Int64) = u at b1 ⊢
  generalize y + (-9223372036854775808 : Int64) = v at b2 ⊢
  unfold cmpJ
  by_cases c1 : u < v
  · rw [if_pos c1]; decide
  · rw [if_neg c1]
    rw [Int64.lt_iff_toInt_lt] at c1
    rw [if_pos (Int64.toInt_inj.mp (by omega))]; decide
theorem own_cmpU {cn : Nat} {pos2 pv : Int32} {pn w : Nat} (per : Nat) (hp : pv.toInt = per) (hper : per = 1 ∨ per = 2) (hcn : cn < 128) (hp2 : pos2.toInt = ((pn + w : Nat) : Int)) (hrm : cn * per + (pn + w) ≤ 64) : ¬ (0 : Int32) < cmpJ ((Int32.ofNat cn).toInt64 + (-9223372036854775808 : Int64)) ((((64 : Int32) - pos2) / pv).toInt64 + (-9223372036854775808 : Int64)) := by
  have q := c_isub 64 pos2
  have r := rng32 (64 - pos2)
  have o : (64 : Int32).toInt = 64 := rfl
  have e : (64 - pos2).toInt = 64 - ((pn + w : Nat) : Int) := by omega
  have d := (c_idiv (64 - pos2) pv per hp (by intro z; rw [z] at hp; rcases hper with rfl | rfl <;> exact absurd hp (by decide))).1 (by omega)
  have hd : (cn : Int) ≤ ((64 - pos2) / pv).toInt ∧ ((64 - pos2) / pv).toInt ≤ 64 := by
    rw [d, e]
    rcases hper with rfl | rfl <;> constructor <;> omega
  have a1 : (Int32.ofNat cn).toInt64.toInt = cn := by rw [c_i2l, own_ofNat (by omega)]
  have a2 : (((64 : Int32) - pos2) / pv).toInt64.toInt = ((64 - pos2) / pv).toInt := c_i2l _
  rw [← a2] at hd
  exact own_cmpX a1 hcn hd.1 hd.2
theorem own_val {cn : Nat} {pv : Int32} (per : Nat) (hp : pv.toInt = per) (hcn : cn < 128) (hper : per = 1 ∨ per = 2) : ((Int32.ofNat cn).toInt64.toInt32 * pv) = Int32.ofNat (cn * per) := by
  have e : (Int32.ofNat cn).toInt64.toInt32 = Int32.ofNat cn := by
    rw [← Int32.toInt_inj]
    have q := c_l2i (Int32.ofNat cn).toInt64
    have r := rng32 (Int32.ofNat cn).toInt64.toInt32
    rw [c_i2l] at q
    have o := own_ofNat (n := cn) (by omega)
    omega
  rw [e, ← Int32.toInt_inj]
  have q := c_imul (Int32.ofNat cn) pv
  have r := rng32 (Int32.ofNat cn * pv)
  rw [own_ofNat (by rcases hper with rfl | rfl <;> omega)]
  rw [own_ofNat (by omega), hp] at q
  rcases hper with rfl | rfl <;> omega

theorem own_nn64 {cn : Nat} (h : cn < 128) : ¬ ((Int32.ofNat cn).toInt64) < (0 : Int64) := by
  rw [Int64.lt_iff_toInt_lt, c_i2l, own_ofNat (by omega)]; show ¬ (cn : Int) < 0; omega

def mjOf (b : Int32) : Int32 := if b = 0 then 4 else 5
def mvOf (b : Int32) : Int32 := if b = 0 then 128 else 160
def perOf (b : Int32) : Nat := if b = 0 then 1 else 2
theorem own_per (b : Int32) : perOf b = 1 ∨ perOf b = 2 := by unfold perOf; split <;> simp
theorem own_tabS : ∀ i : Fin 24, (((((128 : Int32) ||| Int32.ofNat i.1).toInt8.toInt32 &&& 255).toUInt32 >>> ((5 : Int32) &&& 31).toUInt32).toInt32 = 4 ∧ (((128 : Int32) ||| Int32.ofNat i.1).toInt8.toInt32 &&& 31) = Int32.ofNat i.1) ∧ (((((160 : Int32) ||| Int32.ofNat i.1).toInt8.toInt32 &&& 255).toUInt32 >>> ((5 : Int32) &&& 31).toUInt32).toInt32 = 5 ∧ (((160 : Int32) ||| Int32.ofNat i.1).toInt8.toInt32 &&& 31) = Int32.ofNat i.1) := by decide +kernel
theorem own_tabL : ∀ i : Fin 128, ((Int32.ofNat i.1).toInt8.toInt32 &&& 255) = Int32.ofNat i.1 := by decide +kernel
theorem own_isNat {x : Int32} {n : Nat} (h : x.toInt = n) (hn : n < 1000) : x = Int32.ofNat n := by rw [← Int32.toInt_inj, own_ofNat hn]; exact h
theorem own_hdS {b nv : Int32} {nN p : Nat} {g : Nat → Int32} (hn : nv.toInt = nN) (h : nN < 24) : Head (upd g p ((mvOf b ||| nv).toInt8.toInt32)) (mjOf b) p 1 nN := by
  have e := own_isNat hn (by omega)
  have q := own_tabS ⟨nN, h⟩
  unfold Head mvOf mjOf
  rw [upd_eq, e]
  by_cases c : b = 0
  · rw [if_pos c, if_pos c]; exact ⟨q.1.1, Or.inl ⟨rfl, q.1.2, h⟩⟩
  · rw [if_neg c, if_neg c]; exact ⟨q.2.1, Or.inl ⟨rfl, q.2.2, h⟩⟩
theorem own_hdL {b nv : Int32} {nN p : Nat} {g : Nat → Int32} (hn : nv.toInt = nN) (h : nN < 128) : Head (upd (upd g p ((mvOf b ||| 24).toInt8.toInt32)) (p + 1) (nv.toInt8.toInt32)) (mjOf b) p 2 nN := by
  have e := own_isNat hn (by omega)
  have q := own_tabL ⟨nN, h⟩
  unfold Head mvOf mjOf
  rw [upd_ne (by omega), upd_eq, upd_eq, e]
  by_cases c : b = 0
  · rw [if_pos c, if_pos c]; exact ⟨by decide, Or.inr ⟨rfl, by decide, q, h⟩⟩
  · rw [if_neg c, if_neg c]; exact ⟨by decide, Or.inr ⟨rfl, by decide, q, h⟩⟩
theorem own_hd81 {p : Nat} {g : Nat → Int32} : Head (upd g p (-127)) 4 p 1 1 := by
  unfold Head; rw [upd_eq]; exact ⟨by decide, Or.inl ⟨rfl, by decide, by decide⟩⟩
theorem own_hdC6 {p : Nat} {g : Nat → Int32} : Head (upd g p (-58)) 6 p 1 6 := by
  unfold Head; rw [upd_eq]; exact ⟨by decide, Or.inl ⟨rfl, by decide, by decide⟩⟩
theorem own_hd0 {p : Nat} {g : Nat → Int32} (h : g p = 0) : Head g 0 p 1 0 := by
  unfold Head; rw [h]; exact ⟨by decide, Or.inl ⟨rfl, by decide, by decide⟩⟩
theorem own_nz {x : Int32} {n : Nat} (h : x.toInt = n) (h1 : 1 ≤ n) : x ≠ 0 := by
  intro z; rw [z] at h; have : (0 : Int32).toInt = 0 := rfl; omega
theorem own_sh2 (u : Int32) : 0 ≤ ((u.toUInt32 >>> ((2 : Int32) &&& 31).toUInt32).toInt32).toInt := by
  rw [c_iushr u 2 2 rfl (by decide)]; omega
theorem own_nn {u xv nv : Int32} {xN : Nat} (hx : xv.toInt = xN) (h1 : 1 ≤ xN) (h9 : xN < 1000) (h : nv = 1 + ((u.toUInt32 >>> ((2 : Int32) &&& 31).toUInt32).toInt32) % xv) : ∃ nN : Nat, nv.toInt = nN ∧ 1 ≤ nN ∧ nN ≤ xN := by
  have s := own_sh2 u
  generalize ((u.toUInt32 >>> ((2 : Int32) &&& 31).toUInt32).toInt32) = z at h s
  have q := (c_iremV z xv).1 s (by omega)
  generalize z % xv = y at h q
  have a := c_iadd 1 y
  have r := rng32 (1 + y)
  have o : (1 : Int32).toInt = 1 := rfl
  rw [← h] at a r
  exact ⟨nv.toInt.toNat, by omega, by omega, by omega⟩
theorem own_mm {u xv mv : Int32} {xN : Nat} (hx : xv.toInt = xN) (h1 : 1 ≤ xN) (h : mv = ((u.toUInt32 >>> ((2 : Int32) &&& 31).toUInt32).toInt32) % xv) : ∃ mN : Nat, mv.toInt = mN ∧ mN < xN := by
  have s := own_sh2 u
  generalize ((u.toUInt32 >>> ((2 : Int32) &&& 31).toUInt32).toInt32) = z at h s
  have q := (c_iremV z xv).1 s (by omega)
  rw [← h] at q
  exact ⟨mv.toInt.toNat, by omega, by omega⟩
theorem own_dv {k pv : Int32} {kk pN : Nat} (hk : k.toInt = kk) (hp : pv.toInt = pN) (h : pN = 1 ∨ pN = 2) : (k / pv).toInt = ((kk / pN : Nat) : Int) := by
  have d := (c_idiv k pv pN hp (by intro z; rw [z] at hp; rcases h with rfl | rfl <;> exact absurd hp (by decide))).1 (by omega)
  rw [d, hk]; rcases h with rfl | rfl <;> omega
theorem own_mulN {x y z : Int32} {n k : Nat} (hx : x.toInt = n) (hy : y.toInt = k) (hk : k = 1 ∨ k = 2) (hn : n * k < 1000) (h : z = Int32.ofNat (n * k)) : z = x * y := by
  rw [h, ← Int32.toInt_inj, own_ofNat hn]
  have q := c_imul x y
  have r := rng32 (x * y)
  rw [hx, hy] at q
  rcases hk with rfl | rfl <;> omega
theorem own_mulN1 {x y z : Int32} {n k : Nat} (hx : x.toInt = n) (hy : y.toInt = k) (hk : k = 1 ∨ k = 2) (hn : n * k < 1000) (h : z = Int32.ofNat (n * k) - 1) : z = x * y - 1 := by
  rw [h, own_mulN hx hy hk hn rfl]
theorem own_ofnz {n : Nat} (h1 : 1 ≤ n) (h : n < 1000) : ¬ Int32.ofNat n = 0 := by
  rw [← Int32.toInt_inj, own_ofNat h]; show ¬ (n : Int) = 0; omega
def k4 (k : Int32) : Prop := k = 0 ∨ k = 1 ∨ k = 2 ∨ k = 3
theorem own_and3 (u : Int32) : k4 (u &&& 3) := by
  have e1 : (u &&& 3).toInt = u.toInt % (2 ^ 2 : Nat) := c_mask u _ 2 (by decide) (by decide)
  unfold k4
  simp only [← Int32.toInt_inj, show (0 : Int32).toInt = 0 from rfl, show (1 : Int32).toInt = 1 from rfl, show (2 : Int32).toInt = 2 from rfl, show (3 : Int32).toInt = 3 from rfl]
  omega
theorem mjOf_z {b : Int32} (h : b = 0) : mjOf b = 4 := if_pos h
theorem mjOf_n {b : Int32} (h : ¬ b = 0) : mjOf b = 5 := if_neg h
theorem perOf_z {b : Int32} (h : b = 0) : perOf b = 1 := if_pos h
theorem perOf_n {b : Int32} (h : ¬ b = 0) : perOf b = 2 := if_neg h

theorem mvOf_z {b : Int32} (h : b = 0) : (128 : Int32) = mvOf b := (if_pos h).symm
theorem mvOf_n {b : Int32} (h : ¬ b = 0) : (160 : Int32) = mvOf b := (if_neg h).symm
theorem own_nee {s : State} {a b : Addr} {C n d : String} {k j : Int32} (F : Fld s s.heap a C n d (.int k)) (G : Fld s s.heap b C n d (.int j)) (h : k ≠ j) : a ≠ b := fun q => by
  subst q
  obtain ⟨c1, cf, k1, i1, f1, a1, a2, -, -, -, -, a7⟩ := F
  obtain ⟨c2, cg, k2, i2, f2, b1, b2, -, -, -, -, b7⟩ := G
  cases a1.symm.trans b1
  cases a2.symm.trans b2
  exact h (Value.int.inj (Option.some.inj (a7.symm.trans b7)))
theorem d1_0 : decode prog_3_method_1_code 0 = .ok (.aload_n 0, 1) := by decide +kernel
theorem d1_1 : decode prog_3_method_1_code 1 = .ok (.invokespecial 1, 3) := by decide +kernel
theorem d1_4 : decode prog_3_method_1_code 4 = .ok (.aload_n 0, 1) := by decide +kernel
theorem d1_5 : decode prog_3_method_1_code 5 = .ok (.iconst 4, 1) := by decide +kernel
theorem d1_6 : decode prog_3_method_1_code 6 = .ok (.newarray .int, 2) := by decide +kernel
theorem d1_8 : decode prog_3_method_1_code 8 = .ok (.putfield 7, 3) := by decide +kernel
theorem d1_11 : decode prog_3_method_1_code 11 = .ok (.aload_n 0, 1) := by decide +kernel
theorem d1_12 : decode prog_3_method_1_code 12 = .ok (.aload_n 1, 1) := by decide +kernel
theorem d1_13 : decode prog_3_method_1_code 13 = .ok (.putfield 13, 3) := by decide +kernel
theorem d1_16 : decode prog_3_method_1_code 16 = .ok (.return_, 1) := by decide +kernel
theorem d3_0 : decode prog_3_method_5_code 0 = .ok (.aload_n 0, 1) := by decide +kernel
theorem d3_1 : decode prog_3_method_5_code 1 = .ok (.getstatic 64, 3) := by decide +kernel
theorem d3_4 : decode prog_3_method_5_code 4 = .ok (.ldc 82, 2) := by decide +kernel
theorem d3_6 : decode prog_3_method_5_code 6 = .ok (.ldc 84, 2) := by decide +kernel
theorem d3_8 : decode prog_3_method_5_code 8 = .ok (.iconst 1, 1) := by decide +kernel
theorem d3_9 : decode prog_3_method_5_code 9 = .ok (.invokevirtual 86, 3) := by decide +kernel
theorem d3_12 : decode prog_3_method_5_code 12 = .ok (.return_, 1) := by decide +kernel
theorem d4_0 : decode prog_3_method_7_code 0 = .ok (.aload_n 0, 1) := by decide +kernel
theorem d4_1 : decode prog_3_method_7_code 1 = .ok (.getfield 17, 3) := by decide +kernel
theorem d4_4 : decode prog_3_method_7_code 4 = .ok (.istore 5, 2) := by decide +kernel
theorem d4_6 : decode prog_3_method_7_code 6 = .ok (.aload_n 0, 1) := by decide +kernel
theorem d4_7 : decode prog_3_method_7_code 7 = .ok (.aload_n 1, 1) := by decide +kernel
theorem d4_8 : decode prog_3_method_7_code 8 = .ok (.invokevirtual 94, 3) := by decide +kernel
theorem d4_11 : decode prog_3_method_7_code 11 = .ok (.lstore 6, 2) := by decide +kernel
theorem d4_13 : decode prog_3_method_7_code 13 = .ok (.aload_n 0, 1) := by decide +kernel
theorem d4_14 : decode prog_3_method_7_code 14 = .ok (.invokevirtual 98, 3) := by decide +kernel
theorem d4_17 : decode prog_3_method_7_code 17 = .ok (.iload 4, 2) := by decide +kernel
theorem d4_19 : decode prog_3_method_7_code 19 = .ok (.idiv, 1) := by decide +kernel
theorem d4_20 : decode prog_3_method_7_code 20 = .ok (.istore 8, 2) := by decide +kernel
theorem d4_22 : decode prog_3_method_7_code 22 = .ok (.lload 6, 2) := by decide +kernel
theorem d4_24 : decode prog_3_method_7_code 24 = .ok (.iload 8, 2) := by decide +kernel
theorem d4_26 : decode prog_3_method_7_code 26 = .ok (.i2l, 1) := by decide +kernel
theorem d4_27 : decode prog_3_method_7_code 27 = .ok (.invokestatic 102, 3) := by decide +kernel
theorem d4_30 : decode prog_3_method_7_code 30 = .ok (.ifCond .le 25, 3) := by decide +kernel
theorem d4_55 : decode prog_3_method_7_code 55 = .ok (.aload_n 0, 1) := by decide +kernel
theorem d4_56 : decode prog_3_method_7_code 56 = .ok (.getfield 115, 3) := by decide +kernel
theorem d4_59 : decode prog_3_method_7_code 59 = .ok (.aload_n 0, 1) := by decide +kernel
theorem d4_60 : decode prog_3_method_7_code 60 = .ok (.getfield 7, 3) := by decide +kernel
theorem d4_63 : decode prog_3_method_7_code 63 = .ok (.arraylength, 1) := by decide +kernel
theorem d4_64 : decode prog_3_method_7_code 64 = .ok (.if_icmp .ne 20, 3) := by decide +kernel
theorem d4_67 : decode prog_3_method_7_code 67 = .ok (.aload_n 0, 1) := by decide +kernel
theorem d4_68 : decode prog_3_method_7_code 68 = .ok (.aload_n 0, 1) := by decide +kernel
theorem d4_69 : decode prog_3_method_7_code 69 = .ok (.getfield 7, 3) := by decide +kernel
theorem d4_72 : decode prog_3_method_7_code 72 = .ok (.iconst 2, 1) := by decide +kernel
theorem d4_73 : decode prog_3_method_7_code 73 = .ok (.aload_n 0, 1) := by decide +kernel
theorem d4_74 : decode prog_3_method_7_code 74 = .ok (.getfield 115, 3) := by decide +kernel
theorem d4_77 : decode prog_3_method_7_code 77 = .ok (.imul, 1) := by decide +kernel
theorem d4_78 : decode prog_3_method_7_code 78 = .ok (.invokestatic 118, 3) := by decide +kernel
theorem d4_81 : decode prog_3_method_7_code 81 = .ok (.putfield 7, 3) := by decide +kernel
theorem d4_84 : decode prog_3_method_7_code 84 = .ok (.aload_n 0, 1) := by decide +kernel
theorem d4_85 : decode prog_3_method_7_code 85 = .ok (.getfield 7, 3) := by decide +kernel
theorem d4_88 : decode prog_3_method_7_code 88 = .ok (.aload_n 0, 1) := by decide +kernel
theorem d4_89 : decode prog_3_method_7_code 89 = .ok (.dup, 1) := by decide +kernel
theorem d4_90 : decode prog_3_method_7_code 90 = .ok (.getfield 115, 3) := by decide +kernel
theorem d4_93 : decode prog_3_method_7_code 93 = .ok (.dup_x1, 1) := by decide +kernel
theorem d4_94 : decode prog_3_method_7_code 94 = .ok (.iconst 1, 1) := by decide +kernel
theorem d4_95 : decode prog_3_method_7_code 95 = .ok (.iadd, 1) := by decide +kernel
theorem d4_96 : decode prog_3_method_7_code 96 = .ok (.putfield 115, 3) := by decide +kernel
theorem d4_99 : decode prog_3_method_7_code 99 = .ok (.lload 6, 2) := by decide +kernel
theorem d4_101 : decode prog_3_method_7_code 101 = .ok (.l2i, 1) := by decide +kernel
theorem d4_102 : decode prog_3_method_7_code 102 = .ok (.iload 4, 2) := by decide +kernel
theorem d4_104 : decode prog_3_method_7_code 104 = .ok (.imul, 1) := by decide +kernel
theorem d4_105 : decode prog_3_method_7_code 105 = .ok (.iastore, 1) := by decide +kernel
theorem d4_106 : decode prog_3_method_7_code 106 = .ok (.return_, 1) := by decide +kernel
theorem d5_0 : decode prog_3_method_20_code 0 = .ok (.aload_n 0, 1) := by decide +kernel
theorem d5_1 : decode prog_3_method_20_code 1 = .ok (.invokevirtual 147, 3) := by decide +kernel
theorem d5_4 : decode prog_3_method_20_code 4 = .ok (.astore_n 2, 1) := by decide +kernel
theorem d5_5 : decode prog_3_method_20_code 5 = .ok (.aload_n 2, 1) := by decide +kernel
theorem d5_6 : decode prog_3_method_20_code 6 = .ok (.aload_n 1, 1) := by decide +kernel
theorem d5_7 : decode prog_3_method_20_code 7 = .ok (.if_acmp .eq 28, 3) := by decide +kernel
theorem d5_35 : decode prog_3_method_20_code 35 = .ok (.aload_n 0, 1) := by decide +kernel
theorem d5_36 : decode prog_3_method_20_code 36 = .ok (.getfield 13, 3) := by decide +kernel
theorem d5_39 : decode prog_3_method_20_code 39 = .ok (.aload_n 0, 1) := by decide +kernel
theorem d5_40 : decode prog_3_method_20_code 40 = .ok (.getfield 17, 3) := by decide +kernel
theorem d5_43 : decode prog_3_method_20_code 43 = .ok (.baload, 1) := by decide +kernel
theorem d5_44 : decode prog_3_method_20_code 44 = .ok (.bipush 31, 2) := by decide +kernel
theorem d5_46 : decode prog_3_method_20_code 46 = .ok (.iand, 1) := by decide +kernel
theorem d5_47 : decode prog_3_method_20_code 47 = .ok (.istore_n 3, 1) := by decide +kernel
theorem d5_48 : decode prog_3_method_20_code 48 = .ok (.iload_n 3, 1) := by decide +kernel
theorem d5_49 : decode prog_3_method_20_code 49 = .ok (.bipush 23, 2) := by decide +kernel
theorem d5_51 : decode prog_3_method_20_code 51 = .ok (.if_icmp .gt 9, 3) := by decide +kernel
theorem d5_54 : decode prog_3_method_20_code 54 = .ok (.iconst 0, 1) := by decide +kernel
theorem d5_55 : decode prog_3_method_20_code 55 = .ok (.istore 4, 2) := by decide +kernel
theorem d5_57 : decode prog_3_method_20_code 57 = .ok (.goto 11, 3) := by decide +kernel
theorem d5_60 : decode prog_3_method_20_code 60 = .ok (.iconst 1, 1) := by decide +kernel
theorem d5_61 : decode prog_3_method_20_code 61 = .ok (.iload_n 3, 1) := by decide +kernel
theorem d5_62 : decode prog_3_method_20_code 62 = .ok (.bipush 24, 2) := by decide +kernel
theorem d5_64 : decode prog_3_method_20_code 64 = .ok (.isub, 1) := by decide +kernel
theorem d5_65 : decode prog_3_method_20_code 65 = .ok (.ishl, 1) := by decide +kernel
theorem d5_66 : decode prog_3_method_20_code 66 = .ok (.istore 4, 2) := by decide +kernel
theorem d5_68 : decode prog_3_method_20_code 68 = .ok (.iload 4, 2) := by decide +kernel
theorem d5_70 : decode prog_3_method_20_code 70 = .ok (.aload_n 0, 1) := by decide +kernel
theorem d5_71 : decode prog_3_method_20_code 71 = .ok (.invokevirtual 98, 3) := by decide +kernel
theorem d5_74 : decode prog_3_method_20_code 74 = .ok (.if_icmp .lt 20, 3) := by decide +kernel
theorem d5_94 : decode prog_3_method_20_code 94 = .ok (.iload 4, 2) := by decide +kernel
theorem d5_96 : decode prog_3_method_20_code 96 = .ok (.ifCond .ne 10, 3) := by decide +kernel
theorem d5_99 : decode prog_3_method_20_code 99 = .ok (.iload_n 3, 1) := by decide +kernel
theorem d5_100 : decode prog_3_method_20_code 100 = .ok (.i2l, 1) := by decide +kernel
theorem d5_101 : decode prog_3_method_20_code 101 = .ok (.lstore 5, 2) := by decide +kernel
theorem d5_103 : decode prog_3_method_20_code 103 = .ok (.goto 47, 3) := by decide +kernel
theorem d5_106 : decode prog_3_method_20_code 106 = .ok (.lconst 0, 1) := by decide +kernel
theorem d5_107 : decode prog_3_method_20_code 107 = .ok (.lstore 5, 2) := by decide +kernel
theorem d5_109 : decode prog_3_method_20_code 109 = .ok (.iconst 1, 1) := by decide +kernel
theorem d5_110 : decode prog_3_method_20_code 110 = .ok (.istore 7, 2) := by decide +kernel
theorem d5_112 : decode prog_3_method_20_code 112 = .ok (.iload 7, 2) := by decide +kernel
theorem d5_114 : decode prog_3_method_20_code 114 = .ok (.iload 4, 2) := by decide +kernel
theorem d5_116 : decode prog_3_method_20_code 116 = .ok (.if_icmp .gt 34, 3) := by decide +kernel
theorem d5_119 : decode prog_3_method_20_code 119 = .ok (.lload 5, 2) := by decide +kernel
theorem d5_121 : decode prog_3_method_20_code 121 = .ok (.bipush 8, 2) := by decide +kernel
theorem d5_123 : decode prog_3_method_20_code 123 = .ok (.lshl, 1) := by decide +kernel
theorem d5_124 : decode prog_3_method_20_code 124 = .ok (.aload_n 0, 1) := by decide +kernel
theorem d5_125 : decode prog_3_method_20_code 125 = .ok (.getfield 13, 3) := by decide +kernel
theorem d5_128 : decode prog_3_method_20_code 128 = .ok (.aload_n 0, 1) := by decide +kernel
theorem d5_129 : decode prog_3_method_20_code 129 = .ok (.getfield 17, 3) := by decide +kernel
theorem d5_132 : decode prog_3_method_20_code 132 = .ok (.iload 7, 2) := by decide +kernel
theorem d5_134 : decode prog_3_method_20_code 134 = .ok (.iadd, 1) := by decide +kernel
theorem d5_135 : decode prog_3_method_20_code 135 = .ok (.baload, 1) := by decide +kernel
theorem d5_136 : decode prog_3_method_20_code 136 = .ok (.sipush 255, 3) := by decide +kernel
theorem d5_139 : decode prog_3_method_20_code 139 = .ok (.iand, 1) := by decide +kernel
theorem d5_140 : decode prog_3_method_20_code 140 = .ok (.i2l, 1) := by decide +kernel
theorem d5_141 : decode prog_3_method_20_code 141 = .ok (.lor, 1) := by decide +kernel
theorem d5_142 : decode prog_3_method_20_code 142 = .ok (.lstore 5, 2) := by decide +kernel
theorem d5_144 : decode prog_3_method_20_code 144 = .ok (.iinc 7 1, 3) := by decide +kernel
theorem d5_147 : decode prog_3_method_20_code 147 = .ok (.goto (-35), 3) := by decide +kernel
theorem d5_150 : decode prog_3_method_20_code 150 = .ok (.aload_n 0, 1) := by decide +kernel
theorem d5_151 : decode prog_3_method_20_code 151 = .ok (.dup, 1) := by decide +kernel
theorem d5_152 : decode prog_3_method_20_code 152 = .ok (.getfield 17, 3) := by decide +kernel
theorem d5_155 : decode prog_3_method_20_code 155 = .ok (.iconst 1, 1) := by decide +kernel
theorem d5_156 : decode prog_3_method_20_code 156 = .ok (.iload 4, 2) := by decide +kernel
theorem d5_158 : decode prog_3_method_20_code 158 = .ok (.iadd, 1) := by decide +kernel
theorem d5_159 : decode prog_3_method_20_code 159 = .ok (.iadd, 1) := by decide +kernel
theorem d5_160 : decode prog_3_method_20_code 160 = .ok (.putfield 17, 3) := by decide +kernel
theorem d5_163 : decode prog_3_method_20_code 163 = .ok (.aload_n 0, 1) := by decide +kernel
theorem d5_164 : decode prog_3_method_20_code 164 = .ok (.getfield 115, 3) := by decide +kernel
theorem d5_167 : decode prog_3_method_20_code 167 = .ok (.ifCond .le 25, 3) := by decide +kernel
theorem d5_170 : decode prog_3_method_20_code 170 = .ok (.aload_n 2, 1) := by decide +kernel
theorem d5_171 : decode prog_3_method_20_code 171 = .ok (.getstatic 70, 3) := by decide +kernel
theorem d5_174 : decode prog_3_method_20_code 174 = .ok (.if_acmp .eq 18, 3) := by decide +kernel
theorem d5_177 : decode prog_3_method_20_code 177 = .ok (.aload_n 0, 1) := by decide +kernel
theorem d5_178 : decode prog_3_method_20_code 178 = .ok (.getfield 7, 3) := by decide +kernel
theorem d5_181 : decode prog_3_method_20_code 181 = .ok (.aload_n 0, 1) := by decide +kernel
theorem d5_182 : decode prog_3_method_20_code 182 = .ok (.getfield 115, 3) := by decide +kernel
theorem d5_185 : decode prog_3_method_20_code 185 = .ok (.iconst 1, 1) := by decide +kernel
theorem d5_186 : decode prog_3_method_20_code 186 = .ok (.isub, 1) := by decide +kernel
theorem d5_187 : decode prog_3_method_20_code 187 = .ok (.dup2, 1) := by decide +kernel
theorem d5_188 : decode prog_3_method_20_code 188 = .ok (.iaload, 1) := by decide +kernel
theorem d5_189 : decode prog_3_method_20_code 189 = .ok (.iconst 1, 1) := by decide +kernel
theorem d5_190 : decode prog_3_method_20_code 190 = .ok (.isub, 1) := by decide +kernel
theorem d5_191 : decode prog_3_method_20_code 191 = .ok (.iastore, 1) := by decide +kernel
theorem d5_192 : decode prog_3_method_20_code 192 = .ok (.lload 5, 2) := by decide +kernel
theorem d5_194 : decode prog_3_method_20_code 194 = .ok (.lreturn, 1) := by decide +kernel
theorem d6_0 : decode prog_3_method_4_code 0 = .ok (.aload_n 0, 1) := by decide +kernel
theorem d6_1 : decode prog_3_method_4_code 1 = .ok (.invokevirtual 21, 3) := by decide +kernel
theorem d6_4 : decode prog_3_method_4_code 4 = .ok (.aload_n 0, 1) := by decide +kernel
theorem d6_5 : decode prog_3_method_4_code 5 = .ok (.invokevirtual 24, 3) := by decide +kernel
theorem d6_8 : decode prog_3_method_4_code 8 = .ok (.ifCond .eq 13, 3) := by decide +kernel
theorem d6_21 : decode prog_3_method_4_code 21 = .ok (.aload_n 0, 1) := by decide +kernel
theorem d6_22 : decode prog_3_method_4_code 22 = .ok (.getfield 13, 3) := by decide +kernel
theorem d6_25 : decode prog_3_method_4_code 25 = .ok (.aload_n 0, 1) := by decide +kernel
theorem d6_26 : decode prog_3_method_4_code 26 = .ok (.getfield 17, 3) := by decide +kernel
theorem d6_29 : decode prog_3_method_4_code 29 = .ok (.baload, 1) := by decide +kernel
theorem d6_30 : decode prog_3_method_4_code 30 = .ok (.sipush 255, 3) := by decide +kernel
theorem d6_33 : decode prog_3_method_4_code 33 = .ok (.iand, 1) := by decide +kernel
theorem d6_34 : decode prog_3_method_4_code 34 = .ok (.istore_n 1, 1) := by decide +kernel
theorem d6_35 : decode prog_3_method_4_code 35 = .ok (.iload_n 1, 1) := by decide +kernel
theorem d6_36 : decode prog_3_method_4_code 36 = .ok (.bipush 31, 2) := by decide +kernel
theorem d6_38 : decode prog_3_method_4_code 38 = .ok (.iand, 1) := by decide +kernel
theorem d6_39 : decode prog_3_method_4_code 39 = .ok (.istore_n 2, 1) := by decide +kernel
theorem d6_40 : decode prog_3_method_4_code 40 = .ok (.iload_n 2, 1) := by decide +kernel
theorem d6_41 : decode prog_3_method_4_code 41 = .ok (.bipush 31, 2) := by decide +kernel
theorem d6_43 : decode prog_3_method_4_code 43 = .ok (.if_icmp .ne 20, 3) := by decide +kernel
theorem d6_63 : decode prog_3_method_4_code 63 = .ok (.iload_n 2, 1) := by decide +kernel
theorem d6_64 : decode prog_3_method_4_code 64 = .ok (.bipush 27, 2) := by decide +kernel
theorem d6_66 : decode prog_3_method_4_code 66 = .ok (.if_icmp .le 24, 3) := by decide +kernel
theorem d6_90 : decode prog_3_method_4_code 90 = .ok (.iload_n 1, 1) := by decide +kernel
theorem d6_91 : decode prog_3_method_4_code 91 = .ok (.iconst 5, 1) := by decide +kernel
theorem d6_92 : decode prog_3_method_4_code 92 = .ok (.iushr, 1) := by decide +kernel
theorem d6_93 : decode prog_3_method_4_code 93 = .ok (.tableswitch 92 0 6 #[43, 50, 57, 64, 71, 78, 85], 43) := by decide +kernel
theorem d6_136 : decode prog_3_method_4_code 136 = .ok (.getstatic 49, 3) := by decide +kernel
theorem d6_139 : decode prog_3_method_4_code 139 = .ok (.astore_n 3, 1) := by decide +kernel
theorem d6_140 : decode prog_3_method_4_code 140 = .ok (.goto 81, 3) := by decide +kernel
theorem d6_164 : decode prog_3_method_4_code 164 = .ok (.getstatic 64, 3) := by decide +kernel
theorem d6_167 : decode prog_3_method_4_code 167 = .ok (.astore_n 3, 1) := by decide +kernel
theorem d6_168 : decode prog_3_method_4_code 168 = .ok (.goto 53, 3) := by decide +kernel
theorem d6_171 : decode prog_3_method_4_code 171 = .ok (.getstatic 67, 3) := by decide +kernel
theorem d6_174 : decode prog_3_method_4_code 174 = .ok (.astore_n 3, 1) := by decide +kernel
theorem d6_175 : decode prog_3_method_4_code 175 = .ok (.goto 46, 3) := by decide +kernel
theorem d6_178 : decode prog_3_method_4_code 178 = .ok (.getstatic 70, 3) := by decide +kernel
theorem d6_181 : decode prog_3_method_4_code 181 = .ok (.astore_n 3, 1) := by decide +kernel
theorem d6_182 : decode prog_3_method_4_code 182 = .ok (.goto 39, 3) := by decide +kernel
theorem d6_221 : decode prog_3_method_4_code 221 = .ok (.aload_n 3, 1) := by decide +kernel
theorem d6_222 : decode prog_3_method_4_code 222 = .ok (.areturn, 1) := by decide +kernel
theorem d7_0 : decode prog_3_method_22_code 0 = .ok (.aload_n 0, 1) := by decide +kernel
theorem d7_1 : decode prog_3_method_22_code 1 = .ok (.getfield 115, 3) := by decide +kernel
theorem d7_4 : decode prog_3_method_22_code 4 = .ok (.ifCond .le 34, 3) := by decide +kernel
theorem d7_7 : decode prog_3_method_22_code 7 = .ok (.aload_n 0, 1) := by decide +kernel
theorem d7_8 : decode prog_3_method_22_code 8 = .ok (.getfield 7, 3) := by decide +kernel
theorem d7_11 : decode prog_3_method_22_code 11 = .ok (.aload_n 0, 1) := by decide +kernel
theorem d7_12 : decode prog_3_method_22_code 12 = .ok (.getfield 115, 3) := by decide +kernel
theorem d7_15 : decode prog_3_method_22_code 15 = .ok (.iconst 1, 1) := by decide +kernel
theorem d7_16 : decode prog_3_method_22_code 16 = .ok (.isub, 1) := by decide +kernel
theorem d7_17 : decode prog_3_method_22_code 17 = .ok (.iaload, 1) := by decide +kernel
theorem d7_18 : decode prog_3_method_22_code 18 = .ok (.ifCond .ne 20, 3) := by decide +kernel
theorem d7_38 : decode prog_3_method_22_code 38 = .ok (.return_, 1) := by decide +kernel
theorem d8_0 : decode prog_3_method_2_code 0 = .ok (.aload_n 0, 1) := by decide +kernel
theorem d8_1 : decode prog_3_method_2_code 1 = .ok (.getfield 17, 3) := by decide +kernel
theorem d8_4 : decode prog_3_method_2_code 4 = .ok (.aload_n 0, 1) := by decide +kernel
theorem d8_5 : decode prog_3_method_2_code 5 = .ok (.getfield 13, 3) := by decide +kernel
theorem d8_8 : decode prog_3_method_2_code 8 = .ok (.arraylength, 1) := by decide +kernel
theorem d8_9 : decode prog_3_method_2_code 9 = .ok (.if_icmp .ne 7, 3) := by decide +kernel
theorem d8_16 : decode prog_3_method_2_code 16 = .ok (.iconst 0, 1) := by decide +kernel
theorem d8_17 : decode prog_3_method_2_code 17 = .ok (.ireturn, 1) := by decide +kernel
theorem d9_0 : decode prog_3_method_21_code 0 = .ok (.aload_n 0, 1) := by decide +kernel
theorem d9_1 : decode prog_3_method_21_code 1 = .ok (.getfield 13, 3) := by decide +kernel
theorem d9_4 : decode prog_3_method_21_code 4 = .ok (.arraylength, 1) := by decide +kernel
theorem d9_5 : decode prog_3_method_21_code 5 = .ok (.aload_n 0, 1) := by decide +kernel
theorem d9_6 : decode prog_3_method_21_code 6 = .ok (.getfield 17, 3) := by decide +kernel
theorem d9_9 : decode prog_3_method_21_code 9 = .ok (.isub, 1) := by decide +kernel
theorem d9_10 : decode prog_3_method_21_code 10 = .ok (.ireturn, 1) := by decide +kernel
theorem d10_0 : decode jdk_35_method_43_code 0 = .ok (.lload_n 0, 1) := by decide +kernel
theorem d10_1 : decode jdk_35_method_43_code 1 = .ok (.ldc2_w 168, 3) := by decide +kernel
theorem d10_4 : decode jdk_35_method_43_code 4 = .ok (.ladd, 1) := by decide +kernel
theorem d10_5 : decode jdk_35_method_43_code 5 = .ok (.lload_n 2, 1) := by decide +kernel
theorem d10_6 : decode jdk_35_method_43_code 6 = .ok (.ldc2_w 168, 3) := by decide +kernel
theorem d10_9 : decode jdk_35_method_43_code 9 = .ok (.ladd, 1) := by decide +kernel
theorem d10_10 : decode jdk_35_method_43_code 10 = .ok (.invokestatic 302, 3) := by decide +kernel
theorem d10_13 : decode jdk_35_method_43_code 13 = .ok (.ireturn, 1) := by decide +kernel
theorem d11_0 : decode jdk_35_method_42_code 0 = .ok (.lload_n 0, 1) := by decide +kernel
theorem d11_1 : decode jdk_35_method_42_code 1 = .ok (.lload_n 2, 1) := by decide +kernel
theorem d11_2 : decode jdk_35_method_42_code 2 = .ok (.lcmp, 1) := by decide +kernel
theorem d11_3 : decode jdk_35_method_42_code 3 = .ok (.ifCond .ge 7, 3) := by decide +kernel
theorem d11_6 : decode jdk_35_method_42_code 6 = .ok (.iconst (-1), 1) := by decide +kernel
theorem d11_7 : decode jdk_35_method_42_code 7 = .ok (.goto 14, 3) := by decide +kernel
theorem d11_10 : decode jdk_35_method_42_code 10 = .ok (.lload_n 0, 1) := by decide +kernel
theorem d11_11 : decode jdk_35_method_42_code 11 = .ok (.lload_n 2, 1) := by decide +kernel
theorem d11_12 : decode jdk_35_method_42_code 12 = .ok (.lcmp, 1) := by decide +kernel
theorem d11_13 : decode jdk_35_method_42_code 13 = .ok (.ifCond .ne 7, 3) := by decide +kernel
theorem d11_16 : decode jdk_35_method_42_code 16 = .ok (.iconst 0, 1) := by decide +kernel
theorem d11_17 : decode jdk_35_method_42_code 17 = .ok (.goto 4, 3) := by decide +kernel
theorem d11_20 : decode jdk_35_method_42_code 20 = .ok (.iconst 1, 1) := by decide +kernel
theorem d11_21 : decode jdk_35_method_42_code 21 = .ok (.ireturn, 1) := by decide +kernel
theorem d12_0 : decode prog_3_method_8_code 0 = .ok (.aload_n 0, 1) := by decide +kernel
theorem d12_1 : decode prog_3_method_8_code 1 = .ok (.getfield 115, 3) := by decide +kernel
theorem d12_4 : decode prog_3_method_8_code 4 = .ok (.ifCond .ne 13, 3) := by decide +kernel
theorem d12_17 : decode prog_3_method_8_code 17 = .ok (.aload_n 0, 1) := by decide +kernel
theorem d12_18 : decode prog_3_method_8_code 18 = .ok (.getfield 7, 3) := by decide +kernel
theorem d12_21 : decode prog_3_method_8_code 21 = .ok (.aload_n 0, 1) := by decide +kernel
theorem d12_22 : decode prog_3_method_8_code 22 = .ok (.getfield 115, 3) := by decide +kernel
theorem d12_25 : decode prog_3_method_8_code 25 = .ok (.iconst 1, 1) := by decide +kernel
theorem d12_26 : decode prog_3_method_8_code 26 = .ok (.isub, 1) := by decide +kernel
theorem d12_27 : decode prog_3_method_8_code 27 = .ok (.iaload, 1) := by decide +kernel
theorem d12_28 : decode prog_3_method_8_code 28 = .ok (.ireturn, 1) := by decide +kernel
theorem d13_0 : decode prog_3_method_6_code 0 = .ok (.aload_n 0, 1) := by decide +kernel
theorem d13_1 : decode prog_3_method_6_code 1 = .ok (.getstatic 67, 3) := by decide +kernel
theorem d13_4 : decode prog_3_method_6_code 4 = .ok (.ldc 90, 2) := by decide +kernel
theorem d13_6 : decode prog_3_method_6_code 6 = .ok (.ldc 92, 2) := by decide +kernel
theorem d13_8 : decode prog_3_method_6_code 8 = .ok (.iconst 2, 1) := by decide +kernel
theorem d13_9 : decode prog_3_method_6_code 9 = .ok (.invokevirtual 86, 3) := by decide +kernel
theorem d13_12 : decode prog_3_method_6_code 12 = .ok (.return_, 1) := by decide +kernel
theorem d14_0 : decode prog_3_method_10_code 0 = .ok (.aload_n 0, 1) := by decide +kernel
theorem d14_1 : decode prog_3_method_10_code 1 = .ok (.invokevirtual 129, 3) := by decide +kernel
theorem d14_4 : decode prog_3_method_10_code 4 = .ok (.return_, 1) := by decide +kernel
theorem d15_0 : decode prog_3_method_11_code 0 = .ok (.aload_n 0, 1) := by decide +kernel
theorem d15_1 : decode prog_3_method_11_code 1 = .ok (.invokevirtual 132, 3) := by decide +kernel
theorem d15_4 : decode prog_3_method_11_code 4 = .ok (.ifCond .eq 20, 3) := by decide +kernel
theorem d15_24 : decode prog_3_method_11_code 24 = .ok (.aload_n 0, 1) := by decide +kernel
theorem d15_25 : decode prog_3_method_11_code 25 = .ok (.dup, 1) := by decide +kernel
theorem d15_26 : decode prog_3_method_11_code 26 = .ok (.getfield 115, 3) := by decide +kernel
theorem d15_29 : decode prog_3_method_11_code 29 = .ok (.iconst 1, 1) := by decide +kernel
theorem d15_30 : decode prog_3_method_11_code 30 = .ok (.isub, 1) := by decide +kernel
theorem d15_31 : decode prog_3_method_11_code 31 = .ok (.putfield 115, 3) := by decide +kernel
theorem d15_34 : decode prog_3_method_11_code 34 = .ok (.return_, 1) := by decide +kernel
theorem d16_0 : decode jdk_65_method_123_code 0 = .ok (.iload_n 1, 1) := by decide +kernel
theorem d16_1 : decode jdk_65_method_123_code 1 = .ok (.aload_n 0, 1) := by decide +kernel
theorem d16_2 : decode jdk_65_method_123_code 2 = .ok (.arraylength, 1) := by decide +kernel
theorem d16_3 : decode jdk_65_method_123_code 3 = .ok (.if_icmp .ne 11, 3) := by decide +kernel
theorem d16_14 : decode jdk_65_method_123_code 14 = .ok (.iload_n 1, 1) := by decide +kernel
theorem d16_15 : decode jdk_65_method_123_code 15 = .ok (.newarray .int, 2) := by decide +kernel
theorem d16_17 : decode jdk_65_method_123_code 17 = .ok (.astore_n 2, 1) := by decide +kernel
theorem d16_18 : decode jdk_65_method_123_code 18 = .ok (.aload_n 0, 1) := by decide +kernel
theorem d16_19 : decode jdk_65_method_123_code 19 = .ok (.iconst 0, 1) := by decide +kernel
theorem d16_20 : decode jdk_65_method_123_code 20 = .ok (.aload_n 2, 1) := by decide +kernel
theorem d16_21 : decode jdk_65_method_123_code 21 = .ok (.iconst 0, 1) := by decide +kernel
theorem d16_22 : decode jdk_65_method_123_code 22 = .ok (.aload_n 0, 1) := by decide +kernel
theorem d16_23 : decode jdk_65_method_123_code 23 = .ok (.arraylength, 1) := by decide +kernel
theorem d16_24 : decode jdk_65_method_123_code 24 = .ok (.iload_n 1, 1) := by decide +kernel
theorem d16_25 : decode jdk_65_method_123_code 25 = .ok (.invokestatic 304, 3) := by decide +kernel
theorem d16_28 : decode jdk_65_method_123_code 28 = .ok (.invokestatic 150, 3) := by decide +kernel
theorem d16_31 : decode jdk_65_method_123_code 31 = .ok (.aload_n 2, 1) := by decide +kernel
theorem d16_32 : decode jdk_65_method_123_code 32 = .ok (.areturn, 1) := by decide +kernel
theorem d17_0 : decode jdk_29_method_69_code 0 = .ok (.iload_n 0, 1) := by decide +kernel
theorem d17_1 : decode jdk_29_method_69_code 1 = .ok (.iload_n 1, 1) := by decide +kernel
theorem d17_2 : decode jdk_29_method_69_code 2 = .ok (.if_icmp .gt 7, 3) := by decide +kernel
theorem d17_5 : decode jdk_29_method_69_code 5 = .ok (.iload_n 0, 1) := by decide +kernel
theorem d17_6 : decode jdk_29_method_69_code 6 = .ok (.goto 4, 3) := by decide +kernel
theorem d17_9 : decode jdk_29_method_69_code 9 = .ok (.iload_n 1, 1) := by decide +kernel
theorem d17_10 : decode jdk_29_method_69_code 10 = .ok (.ireturn, 1) := by decide +kernel
theorem d18_0 : decode prog_3_method_12_code 0 = .ok (.aload_n 0, 1) := by decide +kernel
theorem d18_1 : decode prog_3_method_12_code 1 = .ok (.getfield 17, 3) := by decide +kernel
theorem d18_4 : decode prog_3_method_12_code 4 = .ok (.istore_n 1, 1) := by decide +kernel
theorem d18_5 : decode prog_3_method_12_code 5 = .ok (.aload_n 0, 1) := by decide +kernel
theorem d18_6 : decode prog_3_method_12_code 6 = .ok (.getstatic 49, 3) := by decide +kernel
theorem d18_9 : decode prog_3_method_12_code 9 = .ok (.invokevirtual 94, 3) := by decide +kernel
theorem d18_12 : decode prog_3_method_12_code 12 = .ok (.lstore_n 2, 1) := by decide +kernel
theorem d18_13 : decode prog_3_method_12_code 13 = .ok (.lload_n 2, 1) := by decide +kernel
theorem d18_14 : decode prog_3_method_12_code 14 = .ok (.lconst 0, 1) := by decide +kernel
theorem d18_15 : decode prog_3_method_12_code 15 = .ok (.lcmp, 1) := by decide +kernel
theorem d18_16 : decode prog_3_method_12_code 16 = .ok (.ifCond .ge 21, 3) := by decide +kernel
theorem d18_37 : decode prog_3_method_12_code 37 = .ok (.lload_n 2, 1) := by decide +kernel
theorem d18_38 : decode prog_3_method_12_code 38 = .ok (.lreturn, 1) := by decide +kernel
theorem d19_0 : decode prog_3_method_18_code 0 = .ok (.aload_n 0, 1) := by decide +kernel
theorem d19_1 : decode prog_3_method_18_code 1 = .ok (.getstatic 70, 3) := by decide +kernel
theorem d19_4 : decode prog_3_method_18_code 4 = .ok (.invokevirtual 94, 3) := by decide +kernel
theorem d19_7 : decode prog_3_method_18_code 7 = .ok (.lreturn, 1) := by decide +kernel
theorem d20_0 : decode prog_3_method_9_code 0 = .ok (.aload_n 0, 1) := by decide +kernel
theorem d20_1 : decode prog_3_method_9_code 1 = .ok (.invokevirtual 129, 3) := by decide +kernel
theorem d20_4 : decode prog_3_method_9_code 4 = .ok (.return_, 1) := by decide +kernel
theorem pd_0 : parseMethodDescriptor "()V" = some ⟨[], none⟩ := by decide +kernel
theorem pd_1 : parseMethodDescriptor "()Z" = some ⟨[], some .boolean⟩ := by decide +kernel
theorem pd_2 : parseMethodDescriptor "()Lcom/example/brevidns/brevidns/CborReader$Kind;" = some ⟨[], some (.object "com/example/brevidns/brevidns/CborReader$Kind")⟩ := by decide +kernel
theorem pd_3 : parseMethodDescriptor "()I" = some ⟨[], some .int⟩ := by decide +kernel
theorem pd_4 : parseMethodDescriptor "(JJ)I" = some ⟨[.long, .long], some .int⟩ := by decide +kernel
theorem pd_5 : parseMethodDescriptor "(II)I" = some ⟨[.int, .int], some .int⟩ := by decide +kernel
theorem pd_6 : parseMethodDescriptor "(Lcom/example/brevidns/brevidns/CborReader$Kind;)J" = some ⟨[(.object "com/example/brevidns/brevidns/CborReader$Kind")], some .long⟩ := by decide +kernel
theorem pd_7 : parseMethodDescriptor "(Lcom/example/brevidns/brevidns/CborReader$Kind;Ljava/lang/String;Ljava/lang/String;I)V" = some ⟨[(.object "com/example/brevidns/brevidns/CborReader$Kind"), (.object "java/lang/String"), (.object "java/lang/String"), .int], none⟩ := by decide +kernel
theorem pd_8 : parseMethodDescriptor "([II)[I" = some ⟨[(.array .int), .int], some (.array .int)⟩ := by decide +kernel
theorem pd_9 : parseMethodDescriptor "([B)V" = some ⟨[(.array .byte)], none⟩ := by decide +kernel
theorem pd_10 : parseMethodDescriptor "()J" = some ⟨[], some .long⟩ := by decide +kernel
theorem pn_7 : plainFor (⟨"com/example/brevidns/brevidns/CborReader", "checkInsideContainer", "()V"⟩ : MethodName) = true := by first | (exact plainFor_of_name (show plainName "com/example/brevidns/brevidns/CborReader" = true by first | (simp [plainName, overriddenIn]; done) | decide +kernel)) | decide +kernel
theorem ef_rm_ch0 (m : MethodId) (x0 : Addr) : entryFrame m #[(.ref x0)] 1 = mkF m 0 #[.val (.ref x0)] [] := by first | (simp [entryFrame, mkF, argsToLocals, Value.category]; done) | rfl
set_option maxRecDepth 65536 in
set_option maxHeartbeats 40000000 in
theorem rm_ch0 (l : Launch) (Z : State) (a0 : Array Value) (hw : ∀ d ∈ tables_1, d.before a0 Z = true) (r0 : Addr) (h0 : Heap) (n0 : Nat) (Z0 : n0 ≤ h0.size) (Fd : Fld Z h0 r0 "com/example/brevidns/brevidns/CborReader" "depth" "I" (.int 0)) :
  Con l Z (⟨"com/example/brevidns/brevidns/CborReader", "checkInsideContainer", "()V"⟩ : MethodName) prog_3_method_22_code 1 none ({ frames := 0, cells := 0, slots := 0, locals := 0 } : Room) #[(.ref r0)] h0 (fun v h L => v = none ∧ Fr n0 L ∧ h = h0) := by
 refine own_body pn_7 ?_
 intro p e s m below meth c s₁ hx hby hml hown hnm hret hZ e0 X0 G go rt
 have N0 := Fr.nil n0
 rw [ef_rm_ch0 m r0]
 show G (s₁.setTop (mkF m 0 #[vR r0] []))
 refine go _ _ (fun _ k => XS.aloadN X0.here hx rfl (hb hby d7_0) rfl rfl  k) ?_
 show G (s₁.setTop (mkF m 1 #[vR r0] [(.ref r0)]))
 obtain ⟨T101, X101, e101, st101⟩ := getF X0 hx hZ hown (host := "") (Or.inl (wd hw 50 rfl)) Via.refl e0 Fd (g := (mkF m 1 #[vR r0] [(.ref r0)])) rfl rfl (hb hby d7_1)
 refine go _ _ st101 ?_
 show G (T101.setTop (mkF m 4 #[vR r0] [(.int (0 : Int32))]))
 refine go _ _ (fun _ k => XS.ifYes X101.here hx rfl (pc0 := 4) (pc' := 38) rfl (hb hby d7_4) rfl (Free.XT.i0_le_t (by decide)) (by decide) (by decide) k) ?_
 show G (T101.setTop (mkF m 38 #[vR r0] []))
 refine own_retV rt X101 hx hret (hb hby d7_38) (by decide) (by decide) ?_
 exact ⟨rfl, N0, e101⟩
theorem ef_rm_chd (m : MethodId) (x0 : Addr) : entryFrame m #[(.ref x0)] 1 = mkF m 0 #[.val (.ref x0)] [] := by first | (simp [entryFrame, mkF, argsToLocals, Value.category]; done) | rfl
set_option maxRecDepth 65536 in
set_option maxHeartbeats 40000000 in
theorem rm_chd (l : Launch) (Z : State) (a0 : Array Value) (hw : ∀ d ∈ tables_1, d.before a0 Z = true) (r0 il : Addr) (dp : Int32) (dn sz : Nat) (t : Nat → Int32) (h0 : Heap) (n0 : Nat) (Z0 : n0 ≤ h0.size) (Fl : Fld Z h0 r0 "com/example/brevidns/brevidns/CborReader" "itemsLeft" "[I" (.ref il)) (Fd : Fld Z h0 r0 "com/example/brevidns/brevidns/CborReader" "depth" "I" (.int dp)) (B : Ary Z h0 il .int sz (fun i => .int (t i))) (hdp : dp.toInt = dn) (hd1 : 1 ≤ dn) (hds : dn ≤ sz) (hs8 : sz ≤ 8) (ht : ¬ t (dn - 1) = 0) :
  Con l Z (⟨"com/example/brevidns/brevidns/CborReader", "checkInsideContainer", "()V"⟩ : MethodName) prog_3_method_22_code 1 none ({ frames := 0, cells := 0, slots := 0, locals := 0 } : Room) #[(.ref r0)] h0 (fun v h L => v = none ∧ Fr n0 L ∧ h = h0) := by
 refine own_body pn_7 ?_
 intro p e s m below meth c s₁ hx hby hml hown hnm hret hZ e0 X0 G go rt
 have N0 := Fr.nil n0
 rw [ef_rm_chd m r0]
 show G (s₁.setTop (mkF m 0 #[vR r0] []))
 refine go _ _ (fun _ k => XS.aloadN X0.here hx rfl (hb hby d7_0) rfl rfl  k) ?_
 show G (s₁.setTop (mkF m 1 #[vR r0] [(.ref r0)]))
 obtain ⟨T102, X102, e102, st102⟩ := getF X0 hx hZ hown (host := "") (Or.inl (wd hw 50 rfl)) Via.refl e0 Fd (g := (mkF m 1 #[vR r0] [(.ref r0)])) rfl rfl (hb hby d7_1)
 refine go _ _ st102 ?_
 show G (T102.setTop (mkF m 4 #[vR r0] [(.int dp)]))
 refine go _ _ (fun _ k => XS.ifNo X102.here hx rfl (hb hby d7_4) rfl (Free.XT.i0_le_f (own_pos hdp hd1)) k) ?_
 show G (T102.setTop (mkF m 7 #[vR r0] []))
 refine go _ _ (fun _ k => XS.aloadN X102.here hx rfl (hb hby d7_7) rfl rfl  k) ?_
 show G (T102.setTop (mkF m 8 #[vR r0] [(.ref r0)]))
 obtain ⟨T103, X103, e103, st103⟩ := getF X102 hx hZ hown (host := "") (Or.inl (wd hw 11 rfl)) Via.refl e102 Fl (g := (mkF m 8 #[vR r0] [(.ref r0)])) rfl rfl (hb hby d7_8)
 refine go _ _ st103 ?_
 show G (T103.setTop (mkF m 11 #[vR r0] [(.ref il)]))
 refine go _ _ (fun _ k => XS.aloadN X103.here hx rfl (hb hby d7_11) rfl rfl  k) ?_
 show G (T103.setTop (mkF m 12 #[vR r0] [(.ref r0), (.ref il)]))
 obtain ⟨T104, X104, e104, st104⟩ := getF X103 hx hZ hown (host := "") (Or.inl (wd hw 50 rfl)) Via.refl e103 Fd (g := (mkF m 12 #[vR r0] [(.ref r0), (.ref il)])) rfl rfl (hb hby d7_12)
 refine go _ _ st104 ?_
 show G (T104.setTop (mkF m 15 #[vR r0] [(.int dp), (.ref il)]))
 refine go _ _ (fun _ k => XS.iconst X104.here hx rfl (hb hby d7_15) k) ?_
 show G (T104.setTop (mkF m 16 #[vR r0] [(.int (1 : Int32)), (.int dp), (.ref il)]))
 refine go _ _ (fun _ k => XS.isub X104.here hx rfl (hb hby d7_16) rfl k) ?_
 show G (T104.setTop (mkF m 17 #[vR r0] [(.int (dp - (1 : Int32))), (.ref il)]))
 refine own_iaload go X104 hx hZ e104 (dn - 1) (own_m1 hdp hd1 (by omega)) (by omega) (g := (mkF m 17 #[vR r0] [(.int (dp - (1 : Int32))), (.ref il)])) rfl B rfl (hb hby d7_17) ?_
 show G (T104.setTop (mkF m 18 #[vR r0] [(.int (t (dn - 1)))]))
 refine go _ _ (fun _ k => XS.ifYes X104.here hx rfl (pc0 := 18) (pc' := 38) rfl (hb hby d7_18) rfl (Free.XT.i0_ne_t ht) (by decide) (by decide) k) ?_
 show G (T104.setTop (mkF m 38 #[vR r0] []))
 refine own_retV rt X104 hx hret (hb hby d7_38) (by decide) (by decide) ?_
 exact ⟨rfl, N0, e104⟩
theorem pn_8 : plainFor (⟨"com/example/brevidns/brevidns/CborReader", "atEnd", "()Z"⟩ : MethodName) = true := by first | (exact plainFor_of_name (show plainName "com/example/brevidns/brevidns/CborReader" = true by first | (simp [plainName, overriddenIn]; done) | decide +kernel)) | decide +kernel
theorem ef_rm_ae (m : MethodId) (x0 : Addr) : entryFrame m #[(.ref x0)] 1 = mkF m 0 #[.val (.ref x0)] [] := by first | (simp [entryFrame, mkF, argsToLocals, Value.category]; done) | rfl
set_option maxRecDepth 65536 in
set_option maxHeartbeats 40000000 in
theorem rm_ae (l : Launch) (Z : State) (a0 : Array Value) (hw : ∀ d ∈ tables_1, d.before a0 Z = true) (r0 r1 : Addr) (pos : Int32) (pn : Nat) (g : Nat → Int32) (h0 : Heap) (n0 : Nat) (Z0 : n0 ≤ h0.size) (Fi : Fld Z h0 r0 "com/example/brevidns/brevidns/CborReader" "input" "[B" (.ref r1)) (Fp : Fld Z h0 r0 "com/example/brevidns/brevidns/CborReader" "position" "I" (.int pos)) (A : Ary Z h0 r1 .byte 64 (fun i => .int (g i))) (hpos : pos.toInt = pn) (hlt : pn < 64) :
  Con l Z (⟨"com/example/brevidns/brevidns/CborReader", "atEnd", "()Z"⟩ : MethodName) prog_3_method_2_code 1 (some .boolean) ({ frames := 0, cells := 0, slots := 0, locals := 0 } : Room) #[(.ref r0)] h0 (fun v h L => v = some (.int 0) ∧ Fr n0 L ∧ h = h0) := by
 refine own_body pn_8 ?_
 intro p e s m below meth c s₁ hx hby hml hown hnm hret hZ e0 X0 G go rt
 have N0 := Fr.nil n0
 rw [ef_rm_ae m r0]
 show G (s₁.setTop (mkF m 0 #[vR r0] []))
 refine go _ _ (fun _ k => XS.aloadN X0.here hx rfl (hb hby d8_0) rfl rfl  k) ?_
 show G (s₁.setTop (mkF m 1 #[vR r0] [(.ref r0)]))
 obtain ⟨T105, X105, e105, st105⟩ := getF X0 hx hZ hown (host := "") (Or.inl (wd hw 35 rfl)) Via.refl e0 Fp (g := (mkF m 1 #[vR r0] [(.ref r0)])) rfl rfl (hb hby d8_1)
 refine go _ _ st105 ?_
 show G (T105.setTop (mkF m 4 #[vR r0] [(.int pos)]))
 refine go _ _ (fun _ k => XS.aloadN X105.here hx rfl (hb hby d8_4) rfl rfl  k) ?_
 show G (T105.setTop (mkF m 5 #[vR r0] [(.ref r0), (.int pos)]))
 obtain ⟨T106, X106, e106, st106⟩ := getF X105 hx hZ hown (host := "") (Or.inl (wd hw 13 rfl)) Via.refl e105 Fi (g := (mkF m 5 #[vR r0] [(.ref r0), (.int pos)])) rfl rfl (hb hby d8_5)
 refine go _ _ st106 ?_
 show G (T106.setTop (mkF m 8 #[vR r0] [(.ref r1), (.int pos)]))
 refine own_arrlen go X106 hx hZ e106 (g := (mkF m 8 #[vR r0] [(.ref r1), (.int pos)])) rfl A rfl (hb hby d8_8) ?_
 show G (T106.setTop (mkF m 9 #[vR r0] [(.int (64 : Int32)), (.int pos)]))
 refine go _ _ (fun _ k => XS.icmpYes X106.here hx rfl (pc0 := 9) (pc' := 16) rfl (hb hby d8_9) rfl (Free.XT.ii_ne_t ((not_congr (own_lit 64 (kk := 64) rfl hpos)).mpr (by omega))) (by decide) (by decide) k) ?_
 show G (T106.setTop (mkF m 16 #[vR r0] []))
 refine go _ _ (fun _ k => XS.iconst X106.here hx rfl (hb hby d8_16) k) ?_
 show G (T106.setTop (mkF m 17 #[vR r0] [(.int (0 : Int32))]))
 refine own_retZ rt X106 hx (t := .boolean) hret (by simp) (hb hby d8_17) (by decide) (by decide) ?_
 exact ⟨rfl, N0, e106⟩
theorem pn_9 : plainFor (⟨"com/example/brevidns/brevidns/CborReader", "remaining", "()I"⟩ : MethodName) = true := by first | (exact plainFor_of_name (show plainName "com/example/brevidns/brevidns/CborReader" = true by first | (simp [plainName, overriddenIn]; done) | decide +kernel)) | decide +kernel
theorem ef_rm_re (m : MethodId) (x0 : Addr) : entryFrame m #[(.ref x0)] 1 = mkF m 0 #[.val (.ref x0)] [] := by first | (simp [entryFrame, mkF, argsToLocals, Value.category]; done) | rfl
set_option maxRecDepth 65536 in
set_option maxHeartbeats 40000000 in
theorem rm_re (l : Launch) (Z : State) (a0 : Array Value) (hw : ∀ d ∈ tables_1, d.before a0 Z = true) (r0 r1 : Addr) (pos : Int32) (g : Nat → Int32) (h0 : Heap) (n0 : Nat) (Z0 : n0 ≤ h0.size) (Fi : Fld Z h0 r0 "com/example/brevidns/brevidns/CborReader" "input" "[B" (.ref r1)) (Fp : Fld Z h0 r0 "com/example/brevidns/brevidns/CborReader" "position" "I" (.int pos)) (A : Ary Z h0 r1 .byte 64 (fun i => .int (g i))) :
  Con l Z (⟨"com/example/brevidns/brevidns/CborReader", "remaining", "()I"⟩ : MethodName) prog_3_method_21_code 1 (some .int) ({ frames := 0, cells := 0, slots := 0, locals := 0 } : Room) #[(.ref r0)] h0 (fun v h L => v = some (.int ((64 : Int32) - pos)) ∧ Fr n0 L ∧ h = h0) := by
 refine own_body pn_9 ?_
 intro p e s m below meth c s₁ hx hby hml hown hnm hret hZ e0 X0 G go rt
 have N0 := Fr.nil n0
 rw [ef_rm_re m r0]
 show G (s₁.setTop (mkF m 0 #[vR r0] []))
 refine go _ _ (fun _ k => XS.aloadN X0.here hx rfl (hb hby d9_0) rfl rfl  k) ?_
 show G (s₁.setTop (mkF m 1 #[vR r0] [(.ref r0)]))
 obtain ⟨T107, X107, e107, st107⟩ := getF X0 hx hZ hown (host := "") (Or.inl (wd hw 13 rfl)) Via.refl e0 Fi (g := (mkF m 1 #[vR r0] [(.ref r0)])) rfl rfl (hb hby d9_1)
 refine go _ _ st107 ?_
 show G (T107.setTop (mkF m 4 #[vR r0] [(.ref r1)]))
 refine own_arrlen go X107 hx hZ e107 (g := (mkF m 4 #[vR r0] [(.ref r1)])) rfl A rfl (hb hby d9_4) ?_
 show G (T107.setTop (mkF m 5 #[vR r0] [(.int (64 : Int32))]))
 refine go _ _ (fun _ k => XS.aloadN X107.here hx rfl (hb hby d9_5) rfl rfl  k) ?_
 show G (T107.setTop (mkF m 6 #[vR r0] [(.ref r0), (.int (64 : Int32))]))
 obtain ⟨T108, X108, e108, st108⟩ := getF X107 hx hZ hown (host := "") (Or.inl (wd hw 35 rfl)) Via.refl e107 Fp (g := (mkF m 6 #[vR r0] [(.ref r0), (.int (64 : Int32))])) rfl rfl (hb hby d9_6)
 refine go _ _ st108 ?_
 show G (T108.setTop (mkF m 9 #[vR r0] [(.int pos), (.int (64 : Int32))]))
 refine go _ _ (fun _ k => XS.isub X108.here hx rfl (hb hby d9_9) rfl k) ?_
 show G (T108.setTop (mkF m 10 #[vR r0] [(.int ((64 : Int32) - pos))]))
 refine own_retI rt X108 hx hret (hb hby d9_10) (by decide) (by decide) ?_
 exact ⟨rfl, N0, e108⟩
theorem pn_6 : plainFor (⟨"com/example/brevidns/brevidns/CborReader", "peek", "()Lcom/example/brevidns/brevidns/CborReader$Kind;"⟩ : MethodName) = true := by first | (exact plainFor_of_name (show plainName "com/example/brevidns/brevidns/CborReader" = true by first | (simp [plainName, overriddenIn]; done) | decide +kernel)) | decide +kernel
theorem ef_rm_pk4z (m : MethodId) (x0 : Addr) : entryFrame m #[(.ref x0)] 4 = mkF m 0 #[.val (.ref x0), .unset, .unset, .unset] [] := by first | (simp [entryFrame, mkF, argsToLocals, Value.category]; done) | rfl
set_option maxRecDepth 65536 in
set_option maxHeartbeats 40000000 in
theorem rm_pk4z (l : Launch) (Z : State) (a0 : Array Value) (hw : ∀ d ∈ tables_1, d.before a0 Z = true) (r0 r1 il zu za zm zt : Addr) (pos : Int32) (pn dn sz : Nat) (g t : Nat → Int32) (w cn : Nat) (h0 : Heap) (n0 : Nat) (Z0 : n0 ≤ h0.size) (E0 : Exa Z h0 r0 "com/example/brevidns/brevidns/CborReader") (Fp : Fld Z h0 r0 "com/example/brevidns/brevidns/CborReader" "position" "I" (.int pos)) (Fi : Fld Z h0 r0 "com/example/brevidns/brevidns/CborReader" "input" "[B" (.ref r1)) (Fl : Fld Z h0 r0 "com/example/brevidns/brevidns/CborReader" "itemsLeft" "[I" (.ref il)) (Fd : Fld Z h0 r0 "com/example/brevidns/brevidns/CborReader" "depth" "I" (.int 0)) (A : Ary Z h0 r1 .byte 64 (fun i => .int (g i))) (B : Ary Z h0 il .int sz (fun i => .int (t i))) (n10 : r1 ≠ r0) (n20 : il ≠ r0) (n12 : r1 ≠ il) (hpos : pos.toInt = pn) (hdp : (0 : Int32).toInt = dn) (Szu : Sta Z h0 "com/example/brevidns/brevidns/CborReader$Kind" "UNSIGNED_INTEGER" "Lcom/example/brevidns/brevidns/CborReader$Kind;" (.ref zu)) (Sza : Sta Z h0 "com/example/brevidns/brevidns/CborReader$Kind" "ARRAY" "Lcom/example/brevidns/brevidns/CborReader$Kind;" (.ref za)) (Szm : Sta Z h0 "com/example/brevidns/brevidns/CborReader$Kind" "MAP" "Lcom/example/brevidns/brevidns/CborReader$Kind;" (.ref zm)) (Szt : Sta Z h0 "com/example/brevidns/brevidns/CborReader$Kind" "TAG" "Lcom/example/brevidns/brevidns/CborReader$Kind;" (.ref zt)) (nut : zu ≠ zt) (nat : za ≠ zt) (nmt : zm ≠ zt) (hd : Head g 4 pn w cn) (hpw : pn + w ≤ 63) :
  Con l Z (⟨"com/example/brevidns/brevidns/CborReader", "peek", "()Lcom/example/brevidns/brevidns/CborReader$Kind;"⟩ : MethodName) prog_3_method_4_code 4 (some (.object "com/example/brevidns/brevidns/CborReader$Kind")) ({ frames := 1, cells := 0, slots := 0, locals := 12 } : Room) #[(.ref r0)] h0 (fun v h L => v = some (.ref za) ∧ Fr n0 L ∧ h = h0) := by
 refine own_body pn_6 ?_
 intro p e s m below meth c s₁ hx hby hml hown hnm hret hZ e0 X0 G go rt
 have N0 := Fr.nil n0
 rw [ef_rm_pk4z m r0]
 have hww : w = 1 ∨ w = 2 := hd.ww
 have hrg := hd.rng
 have x2 := own_x31 (g pn)
 have x3 := hd.1
 show G (s₁.setTop (mkF m 0 #[vR r0, .unset, .unset, .unset] []))
 refine go _ _ (fun _ k => XS.aloadN X0.here hx rfl (hb hby d6_0) rfl rfl  k) ?_
 show G (s₁.setTop (mkF m 1 #[vR r0, .unset, .unset, .unset] [(.ref r0)]))
 refine own_private go X0 hx hZ e0 hown (wd hw 46 rfl) (wd hw 47 rfl) (wd hw 18 rfl) rfl (wd hw 48 rfl) (wd hw 3 rfl) (wd hw 49 rfl) (by decide) (rm_ch0 l Z a0 hw r0 h0 n0 Z0 Fd) 0 (by decide) (by decide) (by decide) (by decide) E0 (g := (mkF m 1 #[vR r0, .unset, .unset, .unset] [(.ref r0)])) rfl (by rw [hml]; rfl) [] [] rfl (lenOf pd_0 rfl) rfl (by show 2 * 0 + _ ≤ _; exact Nat.le_of_eq rfl) (hb hby d6_1) ?_
 intro T109 L109 v109 X109 q109
 obtain ⟨rfl, N109, hh109⟩ := q109
 obtain ⟨lc109, X109h, N109h⟩ := own_hide X109 (Fr.app N0 N109)
 show G (T109.setTop (mkF m 4 #[vR r0, .unset, .unset, .unset] []))
 refine go _ _ (fun _ k => XS.aloadN X109h.here hx rfl (hb hby d6_4) rfl rfl  k) ?_
 show G (T109.setTop (mkF m 5 #[vR r0, .unset, .unset, .unset] [(.ref r0)]))
 refine own_virtual go X109h hx hZ hh109 hown (wd hw 52 rfl) (wd hw 53 rfl) (notFace_of_selects (args := #[]) (mvT hZ (wd hw 55 rfl))) (wd hw 55 rfl) (wd hw 54 rfl) (wd hw 3 rfl) (wd hw 56 rfl) (by decide) (rm_ae l Z a0 hw r0 r1 pos pn g h0 n0 Z0 Fi Fp A hpos (by omega)) 0 (by decide) (by decide) (by decide) (by decide) E0 (g := (mkF m 5 #[vR r0, .unset, .unset, .unset] [(.ref r0)])) rfl (by rw [hml]; rfl) [] [] rfl (lenOf pd_1 rfl) rfl (by show 2 * 0 + _ ≤ _; exact Nat.le_of_eq rfl) (hb hby d6_5) ?_
 intro T110 L110 v110 X110 q110
 obtain ⟨rfl, N110, hh110⟩ := q110
 obtain ⟨lc110, X110h, N110h⟩ := own_hide X110 (Fr.app N109h N110)
 show G (T110.setTop (mkF m 8 #[vR r0, .unset, .unset, .unset] [(.int (0 : Int32))]))
 refine go _ _ (fun _ k => XS.ifYes X110h.here hx rfl (pc0 := 8) (pc' := 21) rfl (hb hby d6_8) rfl (Free.XT.i0_eq_t (by decide)) (by decide) (by decide) k) ?_
 show G (T110.setTop (mkF m 21 #[vR r0, .unset, .unset, .unset] []))
 refine go _ _ (fun _ k => XS.aloadN X110h.here hx rfl (hb hby d6_21) rfl rfl  k) ?_
 show G (T110.setTop (mkF m 22 #[vR r0, .unset, .unset, .unset] [(.ref r0)]))
 obtain ⟨T111, X111, e111, st111⟩ := getF X110h hx hZ hown (host := "") (Or.inl (wd hw 13 rfl)) Via.refl hh110 Fi (g := (mkF m 22 #[vR r0, .unset, .unset, .unset] [(.ref r0)])) rfl rfl (hb hby d6_22)
 refine go _ _ st111 ?_
 show G (T111.setTop (mkF m 25 #[vR r0, .unset, .unset, .unset] [(.ref r1)]))
 refine go _ _ (fun _ k => XS.aloadN X111.here hx rfl (hb hby d6_25) rfl rfl  k) ?_
 show G (T111.setTop (mkF m 26 #[vR r0, .unset, .unset, .unset] [(.ref r0), (.ref r1)]))
 obtain ⟨T112, X112, e112, st112⟩ := getF X111 hx hZ hown (host := "") (Or.inl (wd hw 35 rfl)) Via.refl e111 Fp (g := (mkF m 26 #[vR r0, .unset, .unset, .unset] [(.ref r0), (.ref r1)])) rfl rfl (hb hby d6_26)
 refine go _ _ st112 ?_
 show G (T112.setTop (mkF m 29 #[vR r0, .unset, .unset, .unset] [(.int pos), (.ref r1)]))
 refine own_baload go X112 hx hZ e112 pn hpos (by omega) (g := (mkF m 29 #[vR r0, .unset, .unset, .unset] [(.int pos), (.ref r1)])) rfl A rfl (hb hby d6_29) ?_
 show G (T112.setTop (mkF m 30 #[vR r0, .unset, .unset, .unset] [(.int (g pn))]))
 refine go _ _ (fun _ k => XS.sipush X112.here hx rfl (hb hby d6_30) k) ?_
 show G (T112.setTop (mkF m 33 #[vR r0, .unset, .unset, .unset] [(.int (255 : Int32)), (.int (g pn))]))
 refine go _ _ (fun _ k => XS.iand X112.here hx rfl (hb hby d6_33) rfl k) ?_
 show G (T112.setTop (mkF m 34 #[vR r0, .unset, .unset, .unset] [(.int ((g pn) &&& (255 : Int32)))]))
 refine go _ _ (fun _ k => XS.istoreN X112.here hx rfl (hb hby d6_34) rfl (l' := #[vR r0, vI ((g pn) &&& (255 : Int32)), .unset, .unset]) rfl k) ?_
 show G (T112.setTop (mkF m 35 #[vR r0, vI ((g pn) &&& (255 : Int32)), .unset, .unset] []))
 refine go _ _ (fun _ k => XS.iloadN X112.here hx rfl (hb hby d6_35) rfl  k) ?_
 show G (T112.setTop (mkF m 36 #[vR r0, vI ((g pn) &&& (255 : Int32)), .unset, .unset] [(.int ((g pn) &&& (255 : Int32)))]))
 refine go _ _ (fun _ k => XS.bipush X112.here hx rfl (hb hby d6_36) k) ?_
 show G (T112.setTop (mkF m 38 #[vR r0, vI ((g pn) &&& (255 : Int32)), .unset, .unset] [(.int (31 : Int32)), (.int ((g pn) &&& (255 : Int32)))]))
 refine go _ _ (fun _ k => XS.iand X112.here hx rfl (hb hby d6_38) rfl k) ?_
 show G (T112.setTop (mkF m 39 #[vR r0, vI ((g pn) &&& (255 : Int32)), .unset, .unset] [(.int (((g pn) &&& (255 : Int32)) &&& (31 : Int32)))]))
 rw [x2]
 show G (T112.setTop (mkF m 39 #[vR r0, vI ((g pn) &&& (255 : Int32)), .unset, .unset] [(.int (g pn &&& (31 : Int32)))]))
 refine go _ _ (fun _ k => XS.istoreN X112.here hx rfl (hb hby d6_39) rfl (l' := #[vR r0, vI ((g pn) &&& (255 : Int32)), vI (g pn &&& (31 : Int32)), .unset]) rfl k) ?_
 show G (T112.setTop (mkF m 40 #[vR r0, vI ((g pn) &&& (255 : Int32)), vI (g pn &&& (31 : Int32)), .unset] []))
 refine go _ _ (fun _ k => XS.iloadN X112.here hx rfl (hb hby d6_40) rfl  k) ?_
 show G (T112.setTop (mkF m 41 #[vR r0, vI ((g pn) &&& (255 : Int32)), vI (g pn &&& (31 : Int32)), .unset] [(.int (g pn &&& (31 : Int32)))]))
 refine go _ _ (fun _ k => XS.bipush X112.here hx rfl (hb hby d6_41) k) ?_
 show G (T112.setTop (mkF m 43 #[vR r0, vI ((g pn) &&& (255 : Int32)), vI (g pn &&& (31 : Int32)), .unset] [(.int (31 : Int32)), (.int (g pn &&& (31 : Int32)))]))
 refine go _ _ (fun _ k => XS.icmpYes X112.here hx rfl (pc0 := 43) (pc' := 63) rfl (hb hby d6_43) rfl (Free.XT.ii_ne_t (fun z => absurd (z ▸ hrg.2) (by decide))) (by decide) (by decide) k) ?_
 show G (T112.setTop (mkF m 63 #[vR r0, vI ((g pn) &&& (255 : Int32)), vI (g pn &&& (31 : Int32)), .unset] []))
 refine go _ _ (fun _ k => XS.iloadN X112.here hx rfl (hb hby d6_63) rfl  k) ?_
 show G (T112.setTop (mkF m 64 #[vR r0, vI ((g pn) &&& (255 : Int32)), vI (g pn &&& (31 : Int32)), .unset] [(.int (g pn &&& (31 : Int32)))]))
 refine go _ _ (fun _ k => XS.bipush X112.here hx rfl (hb hby d6_64) k) ?_
 show G (T112.setTop (mkF m 66 #[vR r0, vI ((g pn) &&& (255 : Int32)), vI (g pn &&& (31 : Int32)), .unset] [(.int (27 : Int32)), (.int (g pn &&& (31 : Int32)))]))
 refine go _ _ (fun _ k => XS.icmpYes X112.here hx rfl (pc0 := 66) (pc' := 90) rfl (hb hby d6_66) rfl (Free.XT.ii_le_t (fun z => absurd (Int32.lt_iff_toInt_lt.mp z) (by have e : (27 : Int32).toInt = 27 := rfl; omega))) (by decide) (by decide) k) ?_
 show G (T112.setTop (mkF m 90 #[vR r0, vI ((g pn) &&& (255 : Int32)), vI (g pn &&& (31 : Int32)), .unset] []))
 refine go _ _ (fun _ k => XS.iloadN X112.here hx rfl (hb hby d6_90) rfl  k) ?_
 show G (T112.setTop (mkF m 91 #[vR r0, vI ((g pn) &&& (255 : Int32)), vI (g pn &&& (31 : Int32)), .unset] [(.int ((g pn) &&& (255 : Int32)))]))
 refine go _ _ (fun _ k => XS.iconst X112.here hx rfl (hb hby d6_91) k) ?_
 show G (T112.setTop (mkF m 92 #[vR r0, vI ((g pn) &&& (255 : Int32)), vI (g pn &&& (31 : Int32)), .unset] [(.int (5 : Int32)), (.int ((g pn) &&& (255 : Int32)))]))
 refine go _ _ (fun _ k => XS.iushr X112.here hx rfl (hb hby d6_92) rfl k) ?_
 show G (T112.setTop (mkF m 93 #[vR r0, vI ((g pn) &&& (255 : Int32)), vI (g pn &&& (31 : Int32)), .unset] [(.int ((((g pn) &&& (255 : Int32)).toUInt32 >>> ((5 : Int32) &&& 31).toUInt32).toInt32))]))
 rw [x3]
 show G (T112.setTop (mkF m 93 #[vR r0, vI ((g pn) &&& (255 : Int32)), vI (g pn &&& (31 : Int32)), .unset] [(.int (4 : Int32))]))
 refine go _ _ (fun _ k => XS.tswIn X112.here hx rfl (pc0 := 93) (pc' := 164) rfl (hb hby d6_93) rfl (by decide) (o := 71) (by decide) (by decide) (by decide) k) ?_
 show G (T112.setTop (mkF m 164 #[vR r0, vI ((g pn) &&& (255 : Int32)), vI (g pn &&& (31 : Int32)), .unset] []))
 obtain ⟨T113, X113, e113, st113⟩ := getS X112 hx hZ hown (host := "") (wd hw 20 rfl) Via.refl e112 Sza (g := (mkF m 164 #[vR r0, vI ((g pn) &&& (255 : Int32)), vI (g pn &&& (31 : Int32)), .unset] [])) rfl (hb hby d6_164)
 refine go _ _ st113 ?_
 show G (T113.setTop (mkF m 167 #[vR r0, vI ((g pn) &&& (255 : Int32)), vI (g pn &&& (31 : Int32)), .unset] [(.ref za)]))
 refine go _ _ (fun _ k => XS.astoreN X113.here hx rfl (hb hby d6_167) rfl rfl (l' := #[vR r0, vI ((g pn) &&& (255 : Int32)), vI (g pn &&& (31 : Int32)), vR za]) rfl k) ?_
 show G (T113.setTop (mkF m 168 #[vR r0, vI ((g pn) &&& (255 : Int32)), vI (g pn &&& (31 : Int32)), vR za] []))
 refine go _ _ (fun _ k => XS.goto X113.here hx rfl (pc0 := 168) (pc' := 221) rfl (hb hby d6_168) (by decide) (by decide) k) ?_
 show G (T113.setTop (mkF m 221 #[vR r0, vI ((g pn) &&& (255 : Int32)), vI (g pn &&& (31 : Int32)), vR za] []))
 refine go _ _ (fun _ k => XS.aloadN X113.here hx rfl (hb hby d6_221) rfl rfl  k) ?_
 show G (T113.setTop (mkF m 222 #[vR r0, vI ((g pn) &&& (255 : Int32)), vI (g pn &&& (31 : Int32)), vR za] [(.ref za)]))
 refine own_retA rt X113 hx hret rfl rfl (hb hby d6_222) (by decide) (by decide) ?_
 exact ⟨rfl, N110h, e113⟩
theorem pn_5 : plainFor (⟨"com/example/brevidns/brevidns/CborReader", "readHead", "(Lcom/example/brevidns/brevidns/CborReader$Kind;)J"⟩ : MethodName) = true := by first | (exact plainFor_of_name (show plainName "com/example/brevidns/brevidns/CborReader" = true by first | (simp [plainName, overriddenIn]; done) | decide +kernel)) | decide +kernel
theorem ef_rm_rh4z (m : MethodId) (x0 : Addr) (x1 : Addr) : entryFrame m #[(.ref x0), (.ref x1)] 8 = mkF m 0 #[.val (.ref x0), .val (.ref x1), .unset, .unset, .unset, .unset, .unset, .unset] [] := by first | (simp [entryFrame, mkF, argsToLocals, Value.category]; done) | rfl
set_option maxRecDepth 65536 in
set_option maxHeartbeats 40000000 in
theorem rm_rh4z (l : Launch) (Z : State) (a0 : Array Value) (hw : ∀ d ∈ tables_1, d.before a0 Z = true) (r0 r1 il zu za zm zt : Addr) (pos : Int32) (pn dn sz : Nat) (g t : Nat → Int32) (w cn : Nat) (h0 : Heap) (n0 : Nat) (Z0 : n0 ≤ h0.size) (g_r0 : n0 ≤ r0) (E0 : Exa Z h0 r0 "com/example/brevidns/brevidns/CborReader") (Fp : Fld Z h0 r0 "com/example/brevidns/brevidns/CborReader" "position" "I" (.int pos)) (Fi : Fld Z h0 r0 "com/example/brevidns/brevidns/CborReader" "input" "[B" (.ref r1)) (Fl : Fld Z h0 r0 "com/example/brevidns/brevidns/CborReader" "itemsLeft" "[I" (.ref il)) (Fd : Fld Z h0 r0 "com/example/brevidns/brevidns/CborReader" "depth" "I" (.int 0)) (A : Ary Z h0 r1 .byte 64 (fun i => .int (g i))) (B : Ary Z h0 il .int sz (fun i => .int (t i))) (n10 : r1 ≠ r0) (n20 : il ≠ r0) (n12 : r1 ≠ il) (hpos : pos.toInt = pn) (hdp : (0 : Int32).toInt = dn) (Szu : Sta Z h0 "com/example/brevidns/brevidns/CborReader$Kind" "UNSIGNED_INTEGER" "Lcom/example/brevidns/brevidns/CborReader$Kind;" (.ref zu)) (Sza : Sta Z h0 "com/example/brevidns/brevidns/CborReader$Kind" "ARRAY" "Lcom/example/brevidns/brevidns/CborReader$Kind;" (.ref za)) (Szm : Sta Z h0 "com/example/brevidns/brevidns/CborReader$Kind" "MAP" "Lcom/example/brevidns/brevidns/CborReader$Kind;" (.ref zm)) (Szt : Sta Z h0 "com/example/brevidns/brevidns/CborReader$Kind" "TAG" "Lcom/example/brevidns/brevidns/CborReader$Kind;" (.ref zt)) (nut : zu ≠ zt) (nat : za ≠ zt) (nmt : zm ≠ zt) (hd : Head g 4 pn w cn) (hpw : pn + w ≤ 63) :
  Con l Z (⟨"com/example/brevidns/brevidns/CborReader", "readHead", "(Lcom/example/brevidns/brevidns/CborReader$Kind;)J"⟩ : MethodName) prog_3_method_20_code 8 (some .long) ({ frames := 2, cells := 0, slots := 0, locals := 27 } : Room) #[(.ref r0), (.ref za)] h0 (fun v h L => v = some (.long (Int32.ofNat cn).toInt64) ∧ Fr n0 L ∧ Keep h0 h [r0] ∧ ∃ pos2 : Int32, pos2.toInt = ((pn + w : Nat) : Int) ∧ Exa Z h r0 "com/example/brevidns/brevidns/CborReader" ∧ Fld Z h r0 "com/example/brevidns/brevidns/CborReader" "position" "I" (.int pos2) ∧ Fld Z h r0 "com/example/brevidns/brevidns/CborReader" "input" "[B" (.ref r1) ∧ Fld Z h r0 "com/example/brevidns/brevidns/CborReader" "itemsLeft" "[I" (.ref il) ∧ Fld Z h r0 "com/example/brevidns/brevidns/CborReader" "depth" "I" (.int (0 : Int32)) ∧ Ary Z h il .int sz (fun i => .int (t i))) := by
 refine own_body pn_5 ?_
 intro p e s m below meth c s₁ hx hby hml hown hnm hret hZ e0 X0 G go rt
 have N0 := Fr.nil n0
 rw [ef_rm_rh4z m r0 za]
 have hww : w = 1 ∨ w = 2 := hd.ww
 show G (s₁.setTop (mkF m 0 #[vR r0, vR za, .unset, .unset, .unset, .unset, .unset, .unset] []))
 refine go _ _ (fun _ k => XS.aloadN X0.here hx rfl (hb hby d5_0) rfl rfl  k) ?_
 show G (s₁.setTop (mkF m 1 #[vR r0, vR za, .unset, .unset, .unset, .unset, .unset, .unset] [(.ref r0)]))
 refine own_virtual go X0 hx hZ e0 hown (wd hw 41 rfl) (wd hw 42 rfl) (notFace_of_selects (args := #[]) (mvT hZ (wd hw 44 rfl))) (wd hw 44 rfl) (wd hw 43 rfl) (wd hw 3 rfl) (wd hw 45 rfl) (by decide) (rm_pk4z l Z a0 hw r0 r1 il zu za zm zt pos pn dn sz g t w cn h0 n0 Z0 E0 Fp Fi Fl Fd A B n10 n20 n12 hpos hdp Szu Sza Szm Szt nut nat nmt hd hpw) 0 (by decide) (by decide) (by decide) (by decide) E0 (g := (mkF m 1 #[vR r0, vR za, .unset, .unset, .unset, .unset, .unset, .unset] [(.ref r0)])) rfl (by rw [hml]; rfl) [] [] rfl (lenOf pd_2 rfl) rfl (by show 2 * 0 + _ ≤ _; exact Nat.le_of_eq rfl) (hb hby d5_1) ?_
 intro T114 L114 v114 X114 q114
 obtain ⟨rfl, N114, hh114⟩ := q114
 obtain ⟨lc114, X114h, N114h⟩ := own_hide X114 (Fr.app N0 N114)
 show G (T114.setTop (mkF m 4 #[vR r0, vR za, .unset, .unset, .unset, .unset, .unset, .unset] [(.ref za)]))
 refine go _ _ (fun _ k => XS.astoreN X114h.here hx rfl (hb hby d5_4) rfl rfl (l' := #[vR r0, vR za, vR za, .unset, .unset, .unset, .unset, .unset]) rfl k) ?_
 show G (T114.setTop (mkF m 5 #[vR r0, vR za, vR za, .unset, .unset, .unset, .unset, .unset] []))
 refine go _ _ (fun _ k => XS.aloadN X114h.here hx rfl (hb hby d5_5) rfl rfl  k) ?_
 show G (T114.setTop (mkF m 6 #[vR r0, vR za, vR za, .unset, .unset, .unset, .unset, .unset] [(.ref za)]))
 refine go _ _ (fun _ k => XS.aloadN X114h.here hx rfl (hb hby d5_6) rfl rfl  k) ?_
 show G (T114.setTop (mkF m 7 #[vR r0, vR za, vR za, .unset, .unset, .unset, .unset, .unset] [(.ref za), (.ref za)]))
 refine go _ _ (fun _ k => Jvm.RoadKit.acmp (g := (mkF m 7 #[vR r0, vR za, vR za, .unset, .unset, .unset, .unset, .unset] [(.ref za), (.ref za)])) X114h hx rfl (x := (.ref za)) (y := (.ref za)) rfl rfl (rest := []) (pc0 := 7) (pc' := 35) (same := true) rfl (hb hby d5_7) rfl (decide_eq_true rfl) (by decide) (by decide) k) ?_
 show G (T114.setTop (mkF m 35 #[vR r0, vR za, vR za, .unset, .unset, .unset, .unset, .unset] []))
 refine go _ _ (fun _ k => XS.aloadN X114h.here hx rfl (hb hby d5_35) rfl rfl  k) ?_
 show G (T114.setTop (mkF m 36 #[vR r0, vR za, vR za, .unset, .unset, .unset, .unset, .unset] [(.ref r0)]))
 obtain ⟨T115, X115, e115, st115⟩ := getF X114h hx hZ hown (host := "") (Or.inl (wd hw 13 rfl)) Via.refl hh114 Fi (g := (mkF m 36 #[vR r0, vR za, vR za, .unset, .unset, .unset, .unset, .unset] [(.ref r0)])) rfl rfl (hb hby d5_36)
 refine go _ _ st115 ?_
 show G (T115.setTop (mkF m 39 #[vR r0, vR za, vR za, .unset, .unset, .unset, .unset, .unset] [(.ref r1)]))
 refine go _ _ (fun _ k => XS.aloadN X115.here hx rfl (hb hby d5_39) rfl rfl  k) ?_
 show G (T115.setTop (mkF m 40 #[vR r0, vR za, vR za, .unset, .unset, .unset, .unset, .unset] [(.ref r0), (.ref r1)]))
 obtain ⟨T116, X116, e116, st116⟩ := getF X115 hx hZ hown (host := "") (Or.inl (wd hw 35 rfl)) Via.refl e115 Fp (g := (mkF m 40 #[vR r0, vR za, vR za, .unset, .unset, .unset, .unset, .unset] [(.ref r0), (.ref r1)])) rfl rfl (hb hby d5_40)
 refine go _ _ st116 ?_
 show G (T116.setTop (mkF m 43 #[vR r0, vR za, vR za, .unset, .unset, .unset, .unset, .unset] [(.int pos), (.ref r1)]))
 refine own_baload go X116 hx hZ e116 pn hpos (by omega) (g := (mkF m 43 #[vR r0, vR za, vR za, .unset, .unset, .unset, .unset, .unset] [(.int pos), (.ref r1)])) rfl A rfl (hb hby d5_43) ?_
 show G (T116.setTop (mkF m 44 #[vR r0, vR za, vR za, .unset, .unset, .unset, .unset, .unset] [(.int (g pn))]))
 refine go _ _ (fun _ k => XS.bipush X116.here hx rfl (hb hby d5_44) k) ?_
 show G (T116.setTop (mkF m 46 #[vR r0, vR za, vR za, .unset, .unset, .unset, .unset, .unset] [(.int (31 : Int32)), (.int (g pn))]))
 refine go _ _ (fun _ k => XS.iand X116.here hx rfl (hb hby d5_46) rfl k) ?_
 show G (T116.setTop (mkF m 47 #[vR r0, vR za, vR za, .unset, .unset, .unset, .unset, .unset] [(.int ((g pn) &&& (31 : Int32)))]))
 rcases hd.2 with ⟨rfl, d1, d2⟩ | ⟨rfl, d1, d2, d3⟩
 ·rw [d1]
  show G (T116.setTop (mkF m 47 #[vR r0, vR za, vR za, .unset, .unset, .unset, .unset, .unset] [(.int (Int32.ofNat cn))]))
  refine go _ _ (fun _ k => XS.istoreN X116.here hx rfl (hb hby d5_47) rfl (l' := #[vR r0, vR za, vR za, vI (Int32.ofNat cn), .unset, .unset, .unset, .unset]) rfl k) ?_
  show G (T116.setTop (mkF m 48 #[vR r0, vR za, vR za, vI (Int32.ofNat cn), .unset, .unset, .unset, .unset] []))
  refine go _ _ (fun _ k => XS.iloadN X116.here hx rfl (hb hby d5_48) rfl  k) ?_
  show G (T116.setTop (mkF m 49 #[vR r0, vR za, vR za, vI (Int32.ofNat cn), .unset, .unset, .unset, .unset] [(.int (Int32.ofNat cn))]))
  refine go _ _ (fun _ k => XS.bipush X116.here hx rfl (hb hby d5_49) k) ?_
  show G (T116.setTop (mkF m 51 #[vR r0, vR za, vR za, vI (Int32.ofNat cn), .unset, .unset, .unset, .unset] [(.int (23 : Int32)), (.int (Int32.ofNat cn))]))
  refine go _ _ (fun _ k => XS.icmpNo X116.here hx rfl (hb hby d5_51) rfl (Free.XT.ii_gt_f (own_lt23 d2)) k) ?_
  show G (T116.setTop (mkF m 54 #[vR r0, vR za, vR za, vI (Int32.ofNat cn), .unset, .unset, .unset, .unset] []))
  refine go _ _ (fun _ k => XS.iconst X116.here hx rfl (hb hby d5_54) k) ?_
  show G (T116.setTop (mkF m 55 #[vR r0, vR za, vR za, vI (Int32.ofNat cn), .unset, .unset, .unset, .unset] [(.int (0 : Int32))]))
  refine go _ _ (fun _ k => XS.istore X116.here hx rfl (hb hby d5_55) rfl (l' := #[vR r0, vR za, vR za, vI (Int32.ofNat cn), vI 0, .unset, .unset, .unset]) rfl k) ?_
  show G (T116.setTop (mkF m 57 #[vR r0, vR za, vR za, vI (Int32.ofNat cn), vI 0, .unset, .unset, .unset] []))
  refine go _ _ (fun _ k => XS.goto X116.here hx rfl (pc0 := 57) (pc' := 68) rfl (hb hby d5_57) (by decide) (by decide) k) ?_
  show G (T116.setTop (mkF m 68 #[vR r0, vR za, vR za, vI (Int32.ofNat cn), vI 0, .unset, .unset, .unset] []))
  refine go _ _ (fun _ k => XS.iload X116.here hx rfl (hb hby d5_68) rfl  k) ?_
  show G (T116.setTop (mkF m 70 #[vR r0, vR za, vR za, vI (Int32.ofNat cn), vI 0, .unset, .unset, .unset] [(.int (0 : Int32))]))
  refine go _ _ (fun _ k => XS.aloadN X116.here hx rfl (hb hby d5_70) rfl rfl  k) ?_
  show G (T116.setTop (mkF m 71 #[vR r0, vR za, vR za, vI (Int32.ofNat cn), vI 0, .unset, .unset, .unset] [(.ref r0), (.int (0 : Int32))]))
  refine own_private go X116 hx hZ e116 hown (wd hw 57 rfl) (wd hw 58 rfl) (wd hw 18 rfl) rfl (wd hw 59 rfl) (wd hw 3 rfl) (wd hw 60 rfl) (by decide) (rm_re l Z a0 hw r0 r1 pos g h0 n0 Z0 Fi Fp A) 1 (by decide) (by decide) (by decide) (by decide) E0 (g := (mkF m 71 #[vR r0, vR za, vR za, vI (Int32.ofNat cn), vI 0, .unset, .unset, .unset] [(.ref r0), (.int (0 : Int32))])) rfl (by rw [hml]; rfl) [] [(.int (0 : Int32))] rfl (lenOf pd_3 rfl) rfl (by show 2 * 0 + _ ≤ _; exact Nat.le_of_eq rfl) (hb hby d5_71) ?_
  intro T117 L117 v117 X117 q117
  obtain ⟨rfl, N117, hh117⟩ := q117
  obtain ⟨lc117, X117h, N117h⟩ := own_hide X117 (Fr.app N114h N117)
  show G (T117.setTop (mkF m 74 #[vR r0, vR za, vR za, vI (Int32.ofNat cn), vI 0, .unset, .unset, .unset] [(.int ((64 : Int32) - pos)), (.int (0 : Int32))]))
  refine go _ _ (fun _ k => XS.icmpYes X117h.here hx rfl (pc0 := 74) (pc' := 94) rfl (hb hby d5_74) rfl (Free.XT.ii_lt_t (own_rem64 0 (kk := 0) rfl hpos (by omega))) (by decide) (by decide) k) ?_
  show G (T117.setTop (mkF m 94 #[vR r0, vR za, vR za, vI (Int32.ofNat cn), vI 0, .unset, .unset, .unset] []))
  refine go _ _ (fun _ k => XS.iload X117h.here hx rfl (hb hby d5_94) rfl  k) ?_
  show G (T117.setTop (mkF m 96 #[vR r0, vR za, vR za, vI (Int32.ofNat cn), vI 0, .unset, .unset, .unset] [(.int (0 : Int32))]))
  refine go _ _ (fun _ k => XS.ifNo X117h.here hx rfl (hb hby d5_96) rfl (Free.XT.i0_ne_f (by decide)) k) ?_
  show G (T117.setTop (mkF m 99 #[vR r0, vR za, vR za, vI (Int32.ofNat cn), vI 0, .unset, .unset, .unset] []))
  refine go _ _ (fun _ k => XS.iloadN X117h.here hx rfl (hb hby d5_99) rfl  k) ?_
  show G (T117.setTop (mkF m 100 #[vR r0, vR za, vR za, vI (Int32.ofNat cn), vI 0, .unset, .unset, .unset] [(.int (Int32.ofNat cn))]))
  refine go _ _ (fun _ k => XS.i2l X117h.here hx rfl (hb hby d5_100) rfl k) ?_
  show G (T117.setTop (mkF m 101 #[vR r0, vR za, vR za, vI (Int32.ofNat cn), vI 0, .unset, .unset, .unset] [(.long ((Int32.ofNat cn).toInt64))]))
  refine go _ _ (fun _ k => XS.lstore X117h.here hx rfl (hb hby d5_101) rfl (l' := #[vR r0, vR za, vR za, vI (Int32.ofNat cn), vI 0, .val (.long ((Int32.ofNat cn).toInt64)), .second, .unset]) rfl k) ?_
  show G (T117.setTop (mkF m 103 #[vR r0, vR za, vR za, vI (Int32.ofNat cn), vI 0, .val (.long ((Int32.ofNat cn).toInt64)), .second, .unset] []))
  refine go _ _ (fun _ k => XS.goto X117h.here hx rfl (pc0 := 103) (pc' := 150) rfl (hb hby d5_103) (by decide) (by decide) k) ?_
  show G (T117.setTop (mkF m 150 #[vR r0, vR za, vR za, vI (Int32.ofNat cn), vI 0, .val (.long ((Int32.ofNat cn).toInt64)), .second, .unset] []))
  refine go _ _ (fun _ k => XS.aloadN X117h.here hx rfl (hb hby d5_150) rfl rfl  k) ?_
  show G (T117.setTop (mkF m 151 #[vR r0, vR za, vR za, vI (Int32.ofNat cn), vI 0, .val (.long ((Int32.ofNat cn).toInt64)), .second, .unset] [(.ref r0)]))
  refine go _ _ (fun _ k => XS.dup X117h.here hx rfl (hb hby d5_151) rfl rfl k) ?_
  show G (T117.setTop (mkF m 152 #[vR r0, vR za, vR za, vI (Int32.ofNat cn), vI 0, .val (.long ((Int32.ofNat cn).toInt64)), .second, .unset] [(.ref r0), (.ref r0)]))
  obtain ⟨T118, X118, e118, st118⟩ := getF X117h hx hZ hown (host := "") (Or.inl (wd hw 35 rfl)) Via.refl hh117 Fp (g := (mkF m 152 #[vR r0, vR za, vR za, vI (Int32.ofNat cn), vI 0, .val (.long ((Int32.ofNat cn).toInt64)), .second, .unset] [(.ref r0), (.ref r0)])) rfl rfl (hb hby d5_152)
  refine go _ _ st118 ?_
  show G (T118.setTop (mkF m 155 #[vR r0, vR za, vR za, vI (Int32.ofNat cn), vI 0, .val (.long ((Int32.ofNat cn).toInt64)), .second, .unset] [(.int pos), (.ref r0)]))
  refine go _ _ (fun _ k => XS.iconst X118.here hx rfl (hb hby d5_155) k) ?_
  show G (T118.setTop (mkF m 156 #[vR r0, vR za, vR za, vI (Int32.ofNat cn), vI 0, .val (.long ((Int32.ofNat cn).toInt64)), .second, .unset] [(.int (1 : Int32)), (.int pos), (.ref r0)]))
  refine go _ _ (fun _ k => XS.iload X118.here hx rfl (hb hby d5_156) rfl  k) ?_
  show G (T118.setTop (mkF m 158 #[vR r0, vR za, vR za, vI (Int32.ofNat cn), vI 0, .val (.long ((Int32.ofNat cn).toInt64)), .second, .unset] [(.int (0 : Int32)), (.int (1 : Int32)), (.int pos), (.ref r0)]))
  refine go _ _ (fun _ k => XS.iadd X118.here hx rfl (hb hby d5_158) rfl k) ?_
  show G (T118.setTop (mkF m 159 #[vR r0, vR za, vR za, vI (Int32.ofNat cn), vI 0, .val (.long ((Int32.ofNat cn).toInt64)), .second, .unset] [(.int ((1 : Int32) + (0 : Int32))), (.int pos), (.ref r0)]))
  refine go _ _ (fun _ k => XS.iadd X118.here hx rfl (hb hby d5_159) rfl k) ?_
  show G (T118.setTop (mkF m 160 #[vR r0, vR za, vR za, vI (Int32.ofNat cn), vI 0, .val (.long ((Int32.ofNat cn).toInt64)), .second, .unset] [(.int (pos + ((1 : Int32) + (0 : Int32)))), (.ref r0)]))
  obtain ⟨T119, h119, X119, e119, W119, st119⟩ := putF X118 hx hZ hown (host := "") (Or.inl (wd hw 35 rfl)) Via.refl e118 Fp E0 (Or.inl (wd hw 36 rfl)) (wd hw 2 rfl) (ty := .int) (by decide) rfl rfl (g := (mkF m 160 #[vR r0, vR za, vR za, vI (Int32.ofNat cn), vI 0, .val (.long ((Int32.ofNat cn).toInt64)), .second, .unset] [(.int (pos + ((1 : Int32) + (0 : Int32)))), (.ref r0)])) rfl rfl (hb hby d5_160)
  have F119 := Fp.same W119
  have K120 : Keep h0 h119 [r0] := (Keep.refl h0 [r0]).wr W119 (Or.inl (List.mem_of_getElem? (i := 0) rfl))
  obtain ⟨lc119, X119h, N119h⟩ := own_hide X119 (Fr.snoc X119 N117h g_r0)
  have Z121 : n0 ≤ h119.size := Nat.le_trans Z0 (Nat.le_of_eq W119.size.symm)
  refine go _ _ st119 ?_
  show G (T119.setTop (mkF m 163 #[vR r0, vR za, vR za, vI (Int32.ofNat cn), vI 0, .val (.long ((Int32.ofNat cn).toInt64)), .second, .unset] []))
  refine go _ _ (fun _ k => XS.aloadN X119h.here hx rfl (hb hby d5_163) rfl rfl  k) ?_
  show G (T119.setTop (mkF m 164 #[vR r0, vR za, vR za, vI (Int32.ofNat cn), vI 0, .val (.long ((Int32.ofNat cn).toInt64)), .second, .unset] [(.ref r0)]))
  have f122 := (Fd.other W119 (Or.inr (slot_ne (Or.inl (wd hw 51 rfl)) (Or.inl (wd hw 36 rfl)) (by decide) (t := .int) (t' := .int) (by decide) (by decide))))
  obtain ⟨T123, X123, e123, st123⟩ := getF X119h hx hZ hown (host := "") (Or.inl (wd hw 50 rfl)) Via.refl e119 f122 (g := (mkF m 164 #[vR r0, vR za, vR za, vI (Int32.ofNat cn), vI 0, .val (.long ((Int32.ofNat cn).toInt64)), .second, .unset] [(.ref r0)])) rfl rfl (hb hby d5_164)
  refine go _ _ st123 ?_
  show G (T123.setTop (mkF m 167 #[vR r0, vR za, vR za, vI (Int32.ofNat cn), vI 0, .val (.long ((Int32.ofNat cn).toInt64)), .second, .unset] [(.int (0 : Int32))]))
  refine go _ _ (fun _ k => XS.ifYes X123.here hx rfl (pc0 := 167) (pc' := 192) rfl (hb hby d5_167) rfl (Free.XT.i0_le_t (by decide)) (by decide) (by decide) k) ?_
  show G (T123.setTop (mkF m 192 #[vR r0, vR za, vR za, vI (Int32.ofNat cn), vI 0, .val (.long ((Int32.ofNat cn).toInt64)), .second, .unset] []))
  refine go _ _ (fun _ k => XS.lload X123.here hx rfl (hb hby d5_192) rfl  k) ?_
  show G (T123.setTop (mkF m 194 #[vR r0, vR za, vR za, vI (Int32.ofNat cn), vI 0, .val (.long ((Int32.ofNat cn).toInt64)), .second, .unset] [(.long ((Int32.ofNat cn).toInt64))]))
  refine own_retJ rt X123 hx hret (hb hby d5_194) (by decide) (by decide) ?_
  have f124 := (E0.wr W119)
  have f125 := (Fi.other W119 (Or.inr (slot_ne (Or.inr (wd hw 14 rfl)) (Or.inl (wd hw 36 rfl)) (by decide) (t := (.array .byte)) (t' := .int) (by decide) (by decide))))
  have f126 := (Fl.other W119 (Or.inr (slot_ne (Or.inl (wd hw 12 rfl)) (Or.inl (wd hw 36 rfl)) (by decide) (t := (.array .int)) (t' := .int) (by decide) (by decide))))
  have f127 := (B.other W119 n20)
  rw [e123]
  exact ⟨rfl, N119h, K120, _, own_add hpos (by rfl) (by omega), f124, F119, f125, f126, f122, f127⟩
 ·rw [d1]
  show G (T116.setTop (mkF m 47 #[vR r0, vR za, vR za, .unset, .unset, .unset, .unset, .unset] [(.int (24 : Int32))]))
  refine go _ _ (fun _ k => XS.istoreN X116.here hx rfl (hb hby d5_47) rfl (l' := #[vR r0, vR za, vR za, vI 24, .unset, .unset, .unset, .unset]) rfl k) ?_
  show G (T116.setTop (mkF m 48 #[vR r0, vR za, vR za, vI 24, .unset, .unset, .unset, .unset] []))
  refine go _ _ (fun _ k => XS.iloadN X116.here hx rfl (hb hby d5_48) rfl  k) ?_
  show G (T116.setTop (mkF m 49 #[vR r0, vR za, vR za, vI 24, .unset, .unset, .unset, .unset] [(.int (24 : Int32))]))
  refine go _ _ (fun _ k => XS.bipush X116.here hx rfl (hb hby d5_49) k) ?_
  show G (T116.setTop (mkF m 51 #[vR r0, vR za, vR za, vI 24, .unset, .unset, .unset, .unset] [(.int (23 : Int32)), (.int (24 : Int32))]))
  refine go _ _ (fun _ k => XS.icmpYes X116.here hx rfl (pc0 := 51) (pc' := 60) rfl (hb hby d5_51) rfl (Free.XT.ii_gt_t (by decide)) (by decide) (by decide) k) ?_
  show G (T116.setTop (mkF m 60 #[vR r0, vR za, vR za, vI 24, .unset, .unset, .unset, .unset] []))
  refine go _ _ (fun _ k => XS.iconst X116.here hx rfl (hb hby d5_60) k) ?_
  show G (T116.setTop (mkF m 61 #[vR r0, vR za, vR za, vI 24, .unset, .unset, .unset, .unset] [(.int (1 : Int32))]))
  refine go _ _ (fun _ k => XS.iloadN X116.here hx rfl (hb hby d5_61) rfl  k) ?_
  show G (T116.setTop (mkF m 62 #[vR r0, vR za, vR za, vI 24, .unset, .unset, .unset, .unset] [(.int (24 : Int32)), (.int (1 : Int32))]))
  refine go _ _ (fun _ k => XS.bipush X116.here hx rfl (hb hby d5_62) k) ?_
  show G (T116.setTop (mkF m 64 #[vR r0, vR za, vR za, vI 24, .unset, .unset, .unset, .unset] [(.int (24 : Int32)), (.int (24 : Int32)), (.int (1 : Int32))]))
  refine go _ _ (fun _ k => XS.isub X116.here hx rfl (hb hby d5_64) rfl k) ?_
  show G (T116.setTop (mkF m 65 #[vR r0, vR za, vR za, vI 24, .unset, .unset, .unset, .unset] [(.int ((24 : Int32) - (24 : Int32))), (.int (1 : Int32))]))
  refine go _ _ (fun _ k => XS.ishl X116.here hx rfl (hb hby d5_65) rfl k) ?_
  show G (T116.setTop (mkF m 66 #[vR r0, vR za, vR za, vI 24, .unset, .unset, .unset, .unset] [(.int ((1 : Int32) <<< (((24 : Int32) - (24 : Int32)) &&& 31)))]))
  refine go _ _ (fun _ k => XS.istore X116.here hx rfl (hb hby d5_66) rfl (l' := #[vR r0, vR za, vR za, vI 24, vI ((1 : Int32) <<< (((24 : Int32) - (24 : Int32)) &&& 31)), .unset, .unset, .unset]) rfl k) ?_
  show G (T116.setTop (mkF m 68 #[vR r0, vR za, vR za, vI 24, vI ((1 : Int32) <<< (((24 : Int32) - (24 : Int32)) &&& 31)), .unset, .unset, .unset] []))
  show G (T116.setTop (mkF m 68 #[vR r0, vR za, vR za, vI 24, vI 1, .unset, .unset, .unset] []))
  refine go _ _ (fun _ k => XS.iload X116.here hx rfl (hb hby d5_68) rfl  k) ?_
  show G (T116.setTop (mkF m 70 #[vR r0, vR za, vR za, vI 24, vI 1, .unset, .unset, .unset] [(.int (1 : Int32))]))
  refine go _ _ (fun _ k => XS.aloadN X116.here hx rfl (hb hby d5_70) rfl rfl  k) ?_
  show G (T116.setTop (mkF m 71 #[vR r0, vR za, vR za, vI 24, vI 1, .unset, .unset, .unset] [(.ref r0), (.int (1 : Int32))]))
  refine own_private go X116 hx hZ e116 hown (wd hw 57 rfl) (wd hw 58 rfl) (wd hw 18 rfl) rfl (wd hw 59 rfl) (wd hw 3 rfl) (wd hw 60 rfl) (by decide) (rm_re l Z a0 hw r0 r1 pos g h0 n0 Z0 Fi Fp A) 1 (by decide) (by decide) (by decide) (by decide) E0 (g := (mkF m 71 #[vR r0, vR za, vR za, vI 24, vI 1, .unset, .unset, .unset] [(.ref r0), (.int (1 : Int32))])) rfl (by rw [hml]; rfl) [] [(.int (1 : Int32))] rfl (lenOf pd_3 rfl) rfl (by show 2 * 0 + _ ≤ _; exact Nat.le_of_eq rfl) (hb hby d5_71) ?_
  intro T128 L128 v128 X128 q128
  obtain ⟨rfl, N128, hh128⟩ := q128
  obtain ⟨lc128, X128h, N128h⟩ := own_hide X128 (Fr.app N114h N128)
  show G (T128.setTop (mkF m 74 #[vR r0, vR za, vR za, vI 24, vI 1, .unset, .unset, .unset] [(.int ((64 : Int32) - pos)), (.int (1 : Int32))]))
  refine go _ _ (fun _ k => XS.icmpYes X128h.here hx rfl (pc0 := 74) (pc' := 94) rfl (hb hby d5_74) rfl (Free.XT.ii_lt_t (own_rem64 1 (kk := 1) rfl hpos (by omega))) (by decide) (by decide) k) ?_
  show G (T128.setTop (mkF m 94 #[vR r0, vR za, vR za, vI 24, vI 1, .unset, .unset, .unset] []))
  refine go _ _ (fun _ k => XS.iload X128h.here hx rfl (hb hby d5_94) rfl  k) ?_
  show G (T128.setTop (mkF m 96 #[vR r0, vR za, vR za, vI 24, vI 1, .unset, .unset, .unset] [(.int (1 : Int32))]))
  refine go _ _ (fun _ k => XS.ifYes X128h.here hx rfl (pc0 := 96) (pc' := 106) rfl (hb hby d5_96) rfl (Free.XT.i0_ne_t (by decide)) (by decide) (by decide) k) ?_
  show G (T128.setTop (mkF m 106 #[vR r0, vR za, vR za, vI 24, vI 1, .unset, .unset, .unset] []))
  refine go _ _ (fun _ k => XS.lconst X128h.here hx rfl (hb hby d5_106) k) ?_
  show G (T128.setTop (mkF m 107 #[vR r0, vR za, vR za, vI 24, vI 1, .unset, .unset, .unset] [(.long (0 : Int64))]))
  refine go _ _ (fun _ k => XS.lstore X128h.here hx rfl (hb hby d5_107) rfl (l' := #[vR r0, vR za, vR za, vI 24, vI 1, .val (.long (0 : Int64)), .second, .unset]) rfl k) ?_
  show G (T128.setTop (mkF m 109 #[vR r0, vR za, vR za, vI 24, vI 1, .val (.long (0 : Int64)), .second, .unset] []))
  refine go _ _ (fun _ k => XS.iconst X128h.here hx rfl (hb hby d5_109) k) ?_
  show G (T128.setTop (mkF m 110 #[vR r0, vR za, vR za, vI 24, vI 1, .val (.long (0 : Int64)), .second, .unset] [(.int (1 : Int32))]))
  refine go _ _ (fun _ k => XS.istore X128h.here hx rfl (hb hby d5_110) rfl (l' := #[vR r0, vR za, vR za, vI 24, vI 1, .val (.long (0 : Int64)), .second, vI 1]) rfl k) ?_
  show G (T128.setTop (mkF m 112 #[vR r0, vR za, vR za, vI 24, vI 1, .val (.long (0 : Int64)), .second, vI 1] []))
  refine go _ _ (fun _ k => XS.iload X128h.here hx rfl (hb hby d5_112) rfl  k) ?_
  show G (T128.setTop (mkF m 114 #[vR r0, vR za, vR za, vI 24, vI 1, .val (.long (0 : Int64)), .second, vI 1] [(.int (1 : Int32))]))
  refine go _ _ (fun _ k => XS.iload X128h.here hx rfl (hb hby d5_114) rfl  k) ?_
  show G (T128.setTop (mkF m 116 #[vR r0, vR za, vR za, vI 24, vI 1, .val (.long (0 : Int64)), .second, vI 1] [(.int (1 : Int32)), (.int (1 : Int32))]))
  refine go _ _ (fun _ k => XS.icmpNo X128h.here hx rfl (hb hby d5_116) rfl (Free.XT.ii_gt_f (by decide)) k) ?_
  show G (T128.setTop (mkF m 119 #[vR r0, vR za, vR za, vI 24, vI 1, .val (.long (0 : Int64)), .second, vI 1] []))
  refine go _ _ (fun _ k => XS.lload X128h.here hx rfl (hb hby d5_119) rfl  k) ?_
  show G (T128.setTop (mkF m 121 #[vR r0, vR za, vR za, vI 24, vI 1, .val (.long (0 : Int64)), .second, vI 1] [(.long (0 : Int64))]))
  refine go _ _ (fun _ k => XS.bipush X128h.here hx rfl (hb hby d5_121) k) ?_
  show G (T128.setTop (mkF m 123 #[vR r0, vR za, vR za, vI 24, vI 1, .val (.long (0 : Int64)), .second, vI 1] [(.int (8 : Int32)), (.long (0 : Int64))]))
  refine go _ _ (fun _ k => XS.lshl X128h.here hx rfl (hb hby d5_123) rfl k) ?_
  show G (T128.setTop (mkF m 124 #[vR r0, vR za, vR za, vI 24, vI 1, .val (.long (0 : Int64)), .second, vI 1] [(.long ((0 : Int64) <<< ((8 : Int32) &&& 0x3f).toInt64))]))
  refine go _ _ (fun _ k => XS.aloadN X128h.here hx rfl (hb hby d5_124) rfl rfl  k) ?_
  show G (T128.setTop (mkF m 125 #[vR r0, vR za, vR za, vI 24, vI 1, .val (.long (0 : Int64)), .second, vI 1] [(.ref r0), (.long ((0 : Int64) <<< ((8 : Int32) &&& 0x3f).toInt64))]))
  obtain ⟨T129, X129, e129, st129⟩ := getF X128h hx hZ hown (host := "") (Or.inl (wd hw 13 rfl)) Via.refl hh128 Fi (g := (mkF m 125 #[vR r0, vR za, vR za, vI 24, vI 1, .val (.long (0 : Int64)), .second, vI 1] [(.ref r0), (.long ((0 : Int64) <<< ((8 : Int32) &&& 0x3f).toInt64))])) rfl rfl (hb hby d5_125)
  refine go _ _ st129 ?_
  show G (T129.setTop (mkF m 128 #[vR r0, vR za, vR za, vI 24, vI 1, .val (.long (0 : Int64)), .second, vI 1] [(.ref r1), (.long ((0 : Int64) <<< ((8 : Int32) &&& 0x3f).toInt64))]))
  refine go _ _ (fun _ k => XS.aloadN X129.here hx rfl (hb hby d5_128) rfl rfl  k) ?_
  show G (T129.setTop (mkF m 129 #[vR r0, vR za, vR za, vI 24, vI 1, .val (.long (0 : Int64)), .second, vI 1] [(.ref r0), (.ref r1), (.long ((0 : Int64) <<< ((8 : Int32) &&& 0x3f).toInt64))]))
  obtain ⟨T130, X130, e130, st130⟩ := getF X129 hx hZ hown (host := "") (Or.inl (wd hw 35 rfl)) Via.refl e129 Fp (g := (mkF m 129 #[vR r0, vR za, vR za, vI 24, vI 1, .val (.long (0 : Int64)), .second, vI 1] [(.ref r0), (.ref r1), (.long ((0 : Int64) <<< ((8 : Int32) &&& 0x3f).toInt64))])) rfl rfl (hb hby d5_129)
  refine go _ _ st130 ?_
  show G (T130.setTop (mkF m 132 #[vR r0, vR za, vR za, vI 24, vI 1, .val (.long (0 : Int64)), .second, vI 1] [(.int pos), (.ref r1), (.long ((0 : Int64) <<< ((8 : Int32) &&& 0x3f).toInt64))]))
  refine go _ _ (fun _ k => XS.iload X130.here hx rfl (hb hby d5_132) rfl  k) ?_
  show G (T130.setTop (mkF m 134 #[vR r0, vR za, vR za, vI 24, vI 1, .val (.long (0 : Int64)), .second, vI 1] [(.int (1 : Int32)), (.int pos), (.ref r1), (.long ((0 : Int64) <<< ((8 : Int32) &&& 0x3f).toInt64))]))
  refine go _ _ (fun _ k => XS.iadd X130.here hx rfl (hb hby d5_134) rfl k) ?_
  show G (T130.setTop (mkF m 135 #[vR r0, vR za, vR za, vI 24, vI 1, .val (.long (0 : Int64)), .second, vI 1] [(.int (pos + (1 : Int32))), (.ref r1), (.long ((0 : Int64) <<< ((8 : Int32) &&& 0x3f).toInt64))]))
  refine own_baload go X130 hx hZ e130 (pn + 1) (own_add hpos (by rfl) (by omega)) (by omega) (g := (mkF m 135 #[vR r0, vR za, vR za, vI 24, vI 1, .val (.long (0 : Int64)), .second, vI 1] [(.int (pos + (1 : Int32))), (.ref r1), (.long ((0 : Int64) <<< ((8 : Int32) &&& 0x3f).toInt64))])) rfl A rfl (hb hby d5_135) ?_
  show G (T130.setTop (mkF m 136 #[vR r0, vR za, vR za, vI 24, vI 1, .val (.long (0 : Int64)), .second, vI 1] [(.int (g (pn + 1))), (.long ((0 : Int64) <<< ((8 : Int32) &&& 0x3f).toInt64))]))
  refine go _ _ (fun _ k => XS.sipush X130.here hx rfl (hb hby d5_136) k) ?_
  show G (T130.setTop (mkF m 139 #[vR r0, vR za, vR za, vI 24, vI 1, .val (.long (0 : Int64)), .second, vI 1] [(.int (255 : Int32)), (.int (g (pn + 1))), (.long ((0 : Int64) <<< ((8 : Int32) &&& 0x3f).toInt64))]))
  refine go _ _ (fun _ k => XS.iand X130.here hx rfl (hb hby d5_139) rfl k) ?_
  show G (T130.setTop (mkF m 140 #[vR r0, vR za, vR za, vI 24, vI 1, .val (.long (0 : Int64)), .second, vI 1] [(.int ((g (pn + 1)) &&& (255 : Int32))), (.long ((0 : Int64) <<< ((8 : Int32) &&& 0x3f).toInt64))]))
  refine go _ _ (fun _ k => XS.i2l X130.here hx rfl (hb hby d5_140) rfl k) ?_
  show G (T130.setTop (mkF m 141 #[vR r0, vR za, vR za, vI 24, vI 1, .val (.long (0 : Int64)), .second, vI 1] [(.long (((g (pn + 1)) &&& (255 : Int32)).toInt64)), (.long ((0 : Int64) <<< ((8 : Int32) &&& 0x3f).toInt64))]))
  refine go _ _ (fun _ k => XS.lor X130.here hx rfl (hb hby d5_141) rfl k) ?_
  show G (T130.setTop (mkF m 142 #[vR r0, vR za, vR za, vI 24, vI 1, .val (.long (0 : Int64)), .second, vI 1] [(.long (((0 : Int64) <<< ((8 : Int32) &&& 0x3f).toInt64) ||| (((g (pn + 1)) &&& (255 : Int32)).toInt64)))]))
  rw [d2, own_or0]
  show G (T130.setTop (mkF m 142 #[vR r0, vR za, vR za, vI 24, vI 1, .val (.long (0 : Int64)), .second, vI 1] [(.long ((Int32.ofNat cn).toInt64))]))
  refine go _ _ (fun _ k => XS.lstore X130.here hx rfl (hb hby d5_142) rfl (l' := #[vR r0, vR za, vR za, vI 24, vI 1, .val (.long ((Int32.ofNat cn).toInt64)), .second, vI 1]) rfl k) ?_
  show G (T130.setTop (mkF m 144 #[vR r0, vR za, vR za, vI 24, vI 1, .val (.long ((Int32.ofNat cn).toInt64)), .second, vI 1] []))
  refine go _ _ (fun _ k => XS.iinc X130.here hx rfl (hb hby d5_144) rfl (l' := #[vR r0, vR za, vR za, vI 24, vI 1, .val (.long ((Int32.ofNat cn).toInt64)), .second, vI ((1 : Int32) + (1 : Int32))]) rfl k) ?_
  show G (T130.setTop (mkF m 147 #[vR r0, vR za, vR za, vI 24, vI 1, .val (.long ((Int32.ofNat cn).toInt64)), .second, vI ((1 : Int32) + (1 : Int32))] []))
  refine go _ _ (fun _ k => XS.goto X130.here hx rfl (pc0 := 147) (pc' := 112) rfl (hb hby d5_147) (by decide) (by decide) k) ?_
  show G (T130.setTop (mkF m 112 #[vR r0, vR za, vR za, vI 24, vI 1, .val (.long ((Int32.ofNat cn).toInt64)), .second, vI ((1 : Int32) + (1 : Int32))] []))
  show G (T130.setTop (mkF m 112 #[vR r0, vR za, vR za, vI 24, vI 1, .val (.long ((Int32.ofNat cn).toInt64)), .second, vI 2] []))
  refine go _ _ (fun _ k => XS.iload X130.here hx rfl (hb hby d5_112) rfl  k) ?_
  show G (T130.setTop (mkF m 114 #[vR r0, vR za, vR za, vI 24, vI 1, .val (.long ((Int32.ofNat cn).toInt64)), .second, vI 2] [(.int (2 : Int32))]))
  refine go _ _ (fun _ k => XS.iload X130.here hx rfl (hb hby d5_114) rfl  k) ?_
  show G (T130.setTop (mkF m 116 #[vR r0, vR za, vR za, vI 24, vI 1, .val (.long ((Int32.ofNat cn).toInt64)), .second, vI 2] [(.int (1 : Int32)), (.int (2 : Int32))]))
  refine go _ _ (fun _ k => XS.icmpYes X130.here hx rfl (pc0 := 116) (pc' := 150) rfl (hb hby d5_116) rfl (Free.XT.ii_gt_t (by decide)) (by decide) (by decide) k) ?_
  show G (T130.setTop (mkF m 150 #[vR r0, vR za, vR za, vI 24, vI 1, .val (.long ((Int32.ofNat cn).toInt64)), .second, vI 2] []))
  refine go _ _ (fun _ k => XS.aloadN X130.here hx rfl (hb hby d5_150) rfl rfl  k) ?_
  show G (T130.setTop (mkF m 151 #[vR r0, vR za, vR za, vI 24, vI 1, .val (.long ((Int32.ofNat cn).toInt64)), .second, vI 2] [(.ref r0)]))
  refine go _ _ (fun _ k => XS.dup X130.here hx rfl (hb hby d5_151) rfl rfl k) ?_
  show G (T130.setTop (mkF m 152 #[vR r0, vR za, vR za, vI 24, vI 1, .val (.long ((Int32.ofNat cn).toInt64)), .second, vI 2] [(.ref r0), (.ref r0)]))
  obtain ⟨T131, X131, e131, st131⟩ := getF X130 hx hZ hown (host := "") (Or.inl (wd hw 35 rfl)) Via.refl e130 Fp (g := (mkF m 152 #[vR r0, vR za, vR za, vI 24, vI 1, .val (.long ((Int32.ofNat cn).toInt64)), .second, vI 2] [(.ref r0), (.ref r0)])) rfl rfl (hb hby d5_152)
  refine go _ _ st131 ?_
  show G (T131.setTop (mkF m 155 #[vR r0, vR za, vR za, vI 24, vI 1, .val (.long ((Int32.ofNat cn).toInt64)), .second, vI 2] [(.int pos), (.ref r0)]))
  refine go _ _ (fun _ k => XS.iconst X131.here hx rfl (hb hby d5_155) k) ?_
  show G (T131.setTop (mkF m 156 #[vR r0, vR za, vR za, vI 24, vI 1, .val (.long ((Int32.ofNat cn).toInt64)), .second, vI 2] [(.int (1 : Int32)), (.int pos), (.ref r0)]))
  refine go _ _ (fun _ k => XS.iload X131.here hx rfl (hb hby d5_156) rfl  k) ?_
  show G (T131.setTop (mkF m 158 #[vR r0, vR za, vR za, vI 24, vI 1, .val (.long ((Int32.ofNat cn).toInt64)), .second, vI 2] [(.int (1 : Int32)), (.int (1 : Int32)), (.int pos), (.ref r0)]))
  refine go _ _ (fun _ k => XS.iadd X131.here hx rfl (hb hby d5_158) rfl k) ?_
  show G (T131.setTop (mkF m 159 #[vR r0, vR za, vR za, vI 24, vI 1, .val (.long ((Int32.ofNat cn).toInt64)), .second, vI 2] [(.int ((1 : Int32) + (1 : Int32))), (.int pos), (.ref r0)]))
  refine go _ _ (fun _ k => XS.iadd X131.here hx rfl (hb hby d5_159) rfl k) ?_
  show G (T131.setTop (mkF m 160 #[vR r0, vR za, vR za, vI 24, vI 1, .val (.long ((Int32.ofNat cn).toInt64)), .second, vI 2] [(.int (pos + ((1 : Int32) + (1 : Int32)))), (.ref r0)]))
  obtain ⟨T132, h132, X132, e132, W132, st132⟩ := putF X131 hx hZ hown (host := "") (Or.inl (wd hw 35 rfl)) Via.refl e131 Fp E0 (Or.inl (wd hw 36 rfl)) (wd hw 2 rfl) (ty := .int) (by decide) rfl rfl (g := (mkF m 160 #[vR r0, vR za, vR za, vI 24, vI 1, .val (.long ((Int32.ofNat cn).toInt64)), .second, vI 2] [(.int (pos + ((1 : Int32) + (1 : Int32)))), (.ref r0)])) rfl rfl (hb hby d5_160)
  have F132 := Fp.same W132
  have K133 : Keep h0 h132 [r0] := (Keep.refl h0 [r0]).wr W132 (Or.inl (List.mem_of_getElem? (i := 0) rfl))
  obtain ⟨lc132, X132h, N132h⟩ := own_hide X132 (Fr.snoc X132 N128h g_r0)
  have Z134 : n0 ≤ h132.size := Nat.le_trans Z0 (Nat.le_of_eq W132.size.symm)
  refine go _ _ st132 ?_
  show G (T132.setTop (mkF m 163 #[vR r0, vR za, vR za, vI 24, vI 1, .val (.long ((Int32.ofNat cn).toInt64)), .second, vI 2] []))
  refine go _ _ (fun _ k => XS.aloadN X132h.here hx rfl (hb hby d5_163) rfl rfl  k) ?_
  show G (T132.setTop (mkF m 164 #[vR r0, vR za, vR za, vI 24, vI 1, .val (.long ((Int32.ofNat cn).toInt64)), .second, vI 2] [(.ref r0)]))
  have f135 := (Fd.other W132 (Or.inr (slot_ne (Or.inl (wd hw 51 rfl)) (Or.inl (wd hw 36 rfl)) (by decide) (t := .int) (t' := .int) (by decide) (by decide))))
  obtain ⟨T136, X136, e136, st136⟩ := getF X132h hx hZ hown (host := "") (Or.inl (wd hw 50 rfl)) Via.refl e132 f135 (g := (mkF m 164 #[vR r0, vR za, vR za, vI 24, vI 1, .val (.long ((Int32.ofNat cn).toInt64)), .second, vI 2] [(.ref r0)])) rfl rfl (hb hby d5_164)
  refine go _ _ st136 ?_
  show G (T136.setTop (mkF m 167 #[vR r0, vR za, vR za, vI 24, vI 1, .val (.long ((Int32.ofNat cn).toInt64)), .second, vI 2] [(.int (0 : Int32))]))
  refine go _ _ (fun _ k => XS.ifYes X136.here hx rfl (pc0 := 167) (pc' := 192) rfl (hb hby d5_167) rfl (Free.XT.i0_le_t (by decide)) (by decide) (by decide) k) ?_
  show G (T136.setTop (mkF m 192 #[vR r0, vR za, vR za, vI 24, vI 1, .val (.long ((Int32.ofNat cn).toInt64)), .second, vI 2] []))
  refine go _ _ (fun _ k => XS.lload X136.here hx rfl (hb hby d5_192) rfl  k) ?_
  show G (T136.setTop (mkF m 194 #[vR r0, vR za, vR za, vI 24, vI 1, .val (.long ((Int32.ofNat cn).toInt64)), .second, vI 2] [(.long ((Int32.ofNat cn).toInt64))]))
  refine own_retJ rt X136 hx hret (hb hby d5_194) (by decide) (by decide) ?_
  have f137 := (E0.wr W132)
  have f138 := (Fi.other W132 (Or.inr (slot_ne (Or.inr (wd hw 14 rfl)) (Or.inl (wd hw 36 rfl)) (by decide) (t := (.array .byte)) (t' := .int) (by decide) (by decide))))
  have f139 := (Fl.other W132 (Or.inr (slot_ne (Or.inl (wd hw 12 rfl)) (Or.inl (wd hw 36 rfl)) (by decide) (t := (.array .int)) (t' := .int) (by decide) (by decide))))
  have f140 := (B.other W132 n20)
  rw [e136]
  exact ⟨rfl, N132h, K133, _, own_add hpos (by rfl) (by omega), f137, F132, f138, f139, f135, f140⟩
theorem ef_rm_pk4d (m : MethodId) (x0 : Addr) : entryFrame m #[(.ref x0)] 4 = mkF m 0 #[.val (.ref x0), .unset, .unset, .unset] [] := by first | (simp [entryFrame, mkF, argsToLocals, Value.category]; done) | rfl
set_option maxRecDepth 65536 in
set_option maxHeartbeats 40000000 in
theorem rm_pk4d (l : Launch) (Z : State) (a0 : Array Value) (hw : ∀ d ∈ tables_1, d.before a0 Z = true) (r0 r1 il zu za zm zt : Addr) (pos dp : Int32) (pn dn sz : Nat) (g t : Nat → Int32) (w cn : Nat) (h0 : Heap) (n0 : Nat) (Z0 : n0 ≤ h0.size) (E0 : Exa Z h0 r0 "com/example/brevidns/brevidns/CborReader") (Fp : Fld Z h0 r0 "com/example/brevidns/brevidns/CborReader" "position" "I" (.int pos)) (Fi : Fld Z h0 r0 "com/example/brevidns/brevidns/CborReader" "input" "[B" (.ref r1)) (Fl : Fld Z h0 r0 "com/example/brevidns/brevidns/CborReader" "itemsLeft" "[I" (.ref il)) (Fd : Fld Z h0 r0 "com/example/brevidns/brevidns/CborReader" "depth" "I" (.int dp)) (A : Ary Z h0 r1 .byte 64 (fun i => .int (g i))) (B : Ary Z h0 il .int sz (fun i => .int (t i))) (n10 : r1 ≠ r0) (n20 : il ≠ r0) (n12 : r1 ≠ il) (hpos : pos.toInt = pn) (hdp : dp.toInt = dn) (Szu : Sta Z h0 "com/example/brevidns/brevidns/CborReader$Kind" "UNSIGNED_INTEGER" "Lcom/example/brevidns/brevidns/CborReader$Kind;" (.ref zu)) (Sza : Sta Z h0 "com/example/brevidns/brevidns/CborReader$Kind" "ARRAY" "Lcom/example/brevidns/brevidns/CborReader$Kind;" (.ref za)) (Szm : Sta Z h0 "com/example/brevidns/brevidns/CborReader$Kind" "MAP" "Lcom/example/brevidns/brevidns/CborReader$Kind;" (.ref zm)) (Szt : Sta Z h0 "com/example/brevidns/brevidns/CborReader$Kind" "TAG" "Lcom/example/brevidns/brevidns/CborReader$Kind;" (.ref zt)) (nut : zu ≠ zt) (nat : za ≠ zt) (nmt : zm ≠ zt) (hd : Head g 4 pn w cn) (hpw : pn + w ≤ 63) (hd1 : 1 ≤ dn) (hds : dn ≤ sz) (hs8 : sz ≤ 8) (ht : ¬ t (dn - 1) = 0) :
  Con l Z (⟨"com/example/brevidns/brevidns/CborReader", "peek", "()Lcom/example/brevidns/brevidns/CborReader$Kind;"⟩ : MethodName) prog_3_method_4_code 4 (some (.object "com/example/brevidns/brevidns/CborReader$Kind")) ({ frames := 1, cells := 0, slots := 0, locals := 12 } : Room) #[(.ref r0)] h0 (fun v h L => v = some (.ref za) ∧ Fr n0 L ∧ h = h0) := by
 refine own_body pn_6 ?_
 intro p e s m below meth c s₁ hx hby hml hown hnm hret hZ e0 X0 G go rt
 have N0 := Fr.nil n0
 rw [ef_rm_pk4d m r0]
 have hww : w = 1 ∨ w = 2 := hd.ww
 have hrg := hd.rng
 have x2 := own_x31 (g pn)
 have x3 := hd.1
 show G (s₁.setTop (mkF m 0 #[vR r0, .unset, .unset, .unset] []))
 refine go _ _ (fun _ k => XS.aloadN X0.here hx rfl (hb hby d6_0) rfl rfl  k) ?_
 show G (s₁.setTop (mkF m 1 #[vR r0, .unset, .unset, .unset] [(.ref r0)]))
 refine own_private go X0 hx hZ e0 hown (wd hw 46 rfl) (wd hw 47 rfl) (wd hw 18 rfl) rfl (wd hw 48 rfl) (wd hw 3 rfl) (wd hw 49 rfl) (by decide) (rm_chd l Z a0 hw r0 il dp dn sz t h0 n0 Z0 Fl Fd B hdp hd1 hds hs8 ht) 0 (by decide) (by decide) (by decide) (by decide) E0 (g := (mkF m 1 #[vR r0, .unset, .unset, .unset] [(.ref r0)])) rfl (by rw [hml]; rfl) [] [] rfl (lenOf pd_0 rfl) rfl (by show 2 * 0 + _ ≤ _; exact Nat.le_of_eq rfl) (hb hby d6_1) ?_
 intro T141 L141 v141 X141 q141
 obtain ⟨rfl, N141, hh141⟩ := q141
 obtain ⟨lc141, X141h, N141h⟩ := own_hide X141 (Fr.app N0 N141)
 show G (T141.setTop (mkF m 4 #[vR r0, .unset, .unset, .unset] []))
 refine go _ _ (fun _ k => XS.aloadN X141h.here hx rfl (hb hby d6_4) rfl rfl  k) ?_
 show G (T141.setTop (mkF m 5 #[vR r0, .unset, .unset, .unset] [(.ref r0)]))
 refine own_virtual go X141h hx hZ hh141 hown (wd hw 52 rfl) (wd hw 53 rfl) (notFace_of_selects (args := #[]) (mvT hZ (wd hw 55 rfl))) (wd hw 55 rfl) (wd hw 54 rfl) (wd hw 3 rfl) (wd hw 56 rfl) (by decide) (rm_ae l Z a0 hw r0 r1 pos pn g h0 n0 Z0 Fi Fp A hpos (by omega)) 0 (by decide) (by decide) (by decide) (by decide) E0 (g := (mkF m 5 #[vR r0, .unset, .unset, .unset] [(.ref r0)])) rfl (by rw [hml]; rfl) [] [] rfl (lenOf pd_1 rfl) rfl (by show 2 * 0 + _ ≤ _; exact Nat.le_of_eq rfl) (hb hby d6_5) ?_
 intro T142 L142 v142 X142 q142
 obtain ⟨rfl, N142, hh142⟩ := q142
 obtain ⟨lc142, X142h, N142h⟩ := own_hide X142 (Fr.app N141h N142)
 show G (T142.setTop (mkF m 8 #[vR r0, .unset, .unset, .unset] [(.int (0 : Int32))]))
 refine go _ _ (fun _ k => XS.ifYes X142h.here hx rfl (pc0 := 8) (pc' := 21) rfl (hb hby d6_8) rfl (Free.XT.i0_eq_t (by decide)) (by decide) (by decide) k) ?_
 show G (T142.setTop (mkF m 21 #[vR r0, .unset, .unset, .unset] []))
 refine go _ _ (fun _ k => XS.aloadN X142h.here hx rfl (hb hby d6_21) rfl rfl  k) ?_
 show G (T142.setTop (mkF m 22 #[vR r0, .unset, .unset, .unset] [(.ref r0)]))
 obtain ⟨T143, X143, e143, st143⟩ := getF X142h hx hZ hown (host := "") (Or.inl (wd hw 13 rfl)) Via.refl hh142 Fi (g := (mkF m 22 #[vR r0, .unset, .unset, .unset] [(.ref r0)])) rfl rfl (hb hby d6_22)
 refine go _ _ st143 ?_
 show G (T143.setTop (mkF m 25 #[vR r0, .unset, .unset, .unset] [(.ref r1)]))
 refine go _ _ (fun _ k => XS.aloadN X143.here hx rfl (hb hby d6_25) rfl rfl  k) ?_
 show G (T143.setTop (mkF m 26 #[vR r0, .unset, .unset, .unset] [(.ref r0), (.ref r1)]))
 obtain ⟨T144, X144, e144, st144⟩ := getF X143 hx hZ hown (host := "") (Or.inl (wd hw 35 rfl)) Via.refl e143 Fp (g := (mkF m 26 #[vR r0, .unset, .unset, .unset] [(.ref r0), (.ref r1)])) rfl rfl (hb hby d6_26)
 refine go _ _ st144 ?_
 show G (T144.setTop (mkF m 29 #[vR r0, .unset, .unset, .unset] [(.int pos), (.ref r1)]))
 refine own_baload go X144 hx hZ e144 pn hpos (by omega) (g := (mkF m 29 #[vR r0, .unset, .unset, .unset] [(.int pos), (.ref r1)])) rfl A rfl (hb hby d6_29) ?_
 show G (T144.setTop (mkF m 30 #[vR r0, .unset, .unset, .unset] [(.int (g pn))]))
 refine go _ _ (fun _ k => XS.sipush X144.here hx rfl (hb hby d6_30) k) ?_
 show G (T144.setTop (mkF m 33 #[vR r0, .unset, .unset, .unset] [(.int (255 : Int32)), (.int (g pn))]))
 refine go _ _ (fun _ k => XS.iand X144.here hx rfl (hb hby d6_33) rfl k) ?_
 show G (T144.setTop (mkF m 34 #[vR r0, .unset, .unset, .unset] [(.int ((g pn) &&& (255 : Int32)))]))
 refine go _ _ (fun _ k => XS.istoreN X144.here hx rfl (hb hby d6_34) rfl (l' := #[vR r0, vI ((g pn) &&& (255 : Int32)), .unset, .unset]) rfl k) ?_
 show G (T144.setTop (mkF m 35 #[vR r0, vI ((g pn) &&& (255 : Int32)), .unset, .unset] []))
 refine go _ _ (fun _ k => XS.iloadN X144.here hx rfl (hb hby d6_35) rfl  k) ?_
 show G (T144.setTop (mkF m 36 #[vR r0, vI ((g pn) &&& (255 : Int32)), .unset, .unset] [(.int ((g pn) &&& (255 : Int32)))]))
 refine go _ _ (fun _ k => XS.bipush X144.here hx rfl (hb hby d6_36) k) ?_
 show G (T144.setTop (mkF m 38 #[vR r0, vI ((g pn) &&& (255 : Int32)), .unset, .unset] [(.int (31 : Int32)), (.int ((g pn) &&& (255 : Int32)))]))
 refine go _ _ (fun _ k => XS.iand X144.here hx rfl (hb hby d6_38) rfl k) ?_
 show G (T144.setTop (mkF m 39 #[vR r0, vI ((g pn) &&& (255 : Int32)), .unset, .unset] [(.int (((g pn) &&& (255 : Int32)) &&& (31 : Int32)))]))
 rw [x2]
 show G (T144.setTop (mkF m 39 #[vR r0, vI ((g pn) &&& (255 : Int32)), .unset, .unset] [(.int (g pn &&& (31 : Int32)))]))
 refine go _ _ (fun _ k => XS.istoreN X144.here hx rfl (hb hby d6_39) rfl (l' := #[vR r0, vI ((g pn) &&& (255 : Int32)), vI (g pn &&& (31 : Int32)), .unset]) rfl k) ?_
 show G (T144.setTop (mkF m 40 #[vR r0, vI ((g pn) &&& (255 : Int32)), vI (g pn &&& (31 : Int32)), .unset] []))
 refine go _ _ (fun _ k => XS.iloadN X144.here hx rfl (hb hby d6_40) rfl  k) ?_
 show G (T144.setTop (mkF m 41 #[vR r0, vI ((g pn) &&& (255 : Int32)), vI (g pn &&& (31 : Int32)), .unset] [(.int (g pn &&& (31 : Int32)))]))
 refine go _ _ (fun _ k => XS.bipush X144.here hx rfl (hb hby d6_41) k) ?_
 show G (T144.setTop (mkF m 43 #[vR r0, vI ((g pn) &&& (255 : Int32)), vI (g pn &&& (31 : Int32)), .unset] [(.int (31 : Int32)), (.int (g pn &&& (31 : Int32)))]))
 refine go _ _ (fun _ k => XS.icmpYes X144.here hx rfl (pc0 := 43) (pc' := 63) rfl (hb hby d6_43) rfl (Free.XT.ii_ne_t (fun z => absurd (z ▸ hrg.2) (by decide))) (by decide) (by decide) k) ?_
 show G (T144.setTop (mkF m 63 #[vR r0, vI ((g pn) &&& (255 : Int32)), vI (g pn &&& (31 : Int32)), .unset] []))
 refine go _ _ (fun _ k => XS.iloadN X144.here hx rfl (hb hby d6_63) rfl  k) ?_
 show G (T144.setTop (mkF m 64 #[vR r0, vI ((g pn) &&& (255 : Int32)), vI (g pn &&& (31 : Int32)), .unset] [(.int (g pn &&& (31 : Int32)))]))
 refine go _ _ (fun _ k => XS.bipush X144.here hx rfl (hb hby d6_64) k) ?_
 show G (T144.setTop (mkF m 66 #[vR r0, vI ((g pn) &&& (255 : Int32)), vI (g pn &&& (31 : Int32)), .unset] [(.int (27 : Int32)), (.int (g pn &&& (31 : Int32)))]))
 refine go _ _ (fun _ k => XS.icmpYes X144.here hx rfl (pc0 := 66) (pc' := 90) rfl (hb hby d6_66) rfl (Free.XT.ii_le_t (fun z => absurd (Int32.lt_iff_toInt_lt.mp z) (by have e : (27 : Int32).toInt = 27 := rfl; omega))) (by decide) (by decide) k) ?_
 show G (T144.setTop (mkF m 90 #[vR r0, vI ((g pn) &&& (255 : Int32)), vI (g pn &&& (31 : Int32)), .unset] []))
 refine go _ _ (fun _ k => XS.iloadN X144.here hx rfl (hb hby d6_90) rfl  k) ?_
 show G (T144.setTop (mkF m 91 #[vR r0, vI ((g pn) &&& (255 : Int32)), vI (g pn &&& (31 : Int32)), .unset] [(.int ((g pn) &&& (255 : Int32)))]))
 refine go _ _ (fun _ k => XS.iconst X144.here hx rfl (hb hby d6_91) k) ?_
 show G (T144.setTop (mkF m 92 #[vR r0, vI ((g pn) &&& (255 : Int32)), vI (g pn &&& (31 : Int32)), .unset] [(.int (5 : Int32)), (.int ((g pn) &&& (255 : Int32)))]))
 refine go _ _ (fun _ k => XS.iushr X144.here hx rfl (hb hby d6_92) rfl k) ?_
 show G (T144.setTop (mkF m 93 #[vR r0, vI ((g pn) &&& (255 : Int32)), vI (g pn &&& (31 : Int32)), .unset] [(.int ((((g pn) &&& (255 : Int32)).toUInt32 >>> ((5 : Int32) &&& 31).toUInt32).toInt32))]))
 rw [x3]
 show G (T144.setTop (mkF m 93 #[vR r0, vI ((g pn) &&& (255 : Int32)), vI (g pn &&& (31 : Int32)), .unset] [(.int (4 : Int32))]))
 refine go _ _ (fun _ k => XS.tswIn X144.here hx rfl (pc0 := 93) (pc' := 164) rfl (hb hby d6_93) rfl (by decide) (o := 71) (by decide) (by decide) (by decide) k) ?_
 show G (T144.setTop (mkF m 164 #[vR r0, vI ((g pn) &&& (255 : Int32)), vI (g pn &&& (31 : Int32)), .unset] []))
 obtain ⟨T145, X145, e145, st145⟩ := getS X144 hx hZ hown (host := "") (wd hw 20 rfl) Via.refl e144 Sza (g := (mkF m 164 #[vR r0, vI ((g pn) &&& (255 : Int32)), vI (g pn &&& (31 : Int32)), .unset] [])) rfl (hb hby d6_164)
 refine go _ _ st145 ?_
 show G (T145.setTop (mkF m 167 #[vR r0, vI ((g pn) &&& (255 : Int32)), vI (g pn &&& (31 : Int32)), .unset] [(.ref za)]))
 refine go _ _ (fun _ k => XS.astoreN X145.here hx rfl (hb hby d6_167) rfl rfl (l' := #[vR r0, vI ((g pn) &&& (255 : Int32)), vI (g pn &&& (31 : Int32)), vR za]) rfl k) ?_
 show G (T145.setTop (mkF m 168 #[vR r0, vI ((g pn) &&& (255 : Int32)), vI (g pn &&& (31 : Int32)), vR za] []))
 refine go _ _ (fun _ k => XS.goto X145.here hx rfl (pc0 := 168) (pc' := 221) rfl (hb hby d6_168) (by decide) (by decide) k) ?_
 show G (T145.setTop (mkF m 221 #[vR r0, vI ((g pn) &&& (255 : Int32)), vI (g pn &&& (31 : Int32)), vR za] []))
 refine go _ _ (fun _ k => XS.aloadN X145.here hx rfl (hb hby d6_221) rfl rfl  k) ?_
 show G (T145.setTop (mkF m 222 #[vR r0, vI ((g pn) &&& (255 : Int32)), vI (g pn &&& (31 : Int32)), vR za] [(.ref za)]))
 refine own_retA rt X145 hx hret rfl rfl (hb hby d6_222) (by decide) (by decide) ?_
 exact ⟨rfl, N142h, e145⟩
theorem ef_rm_rh4d (m : MethodId) (x0 : Addr) (x1 : Addr) : entryFrame m #[(.ref x0), (.ref x1)] 8 = mkF m 0 #[.val (.ref x0), .val (.ref x1), .unset, .unset, .unset, .unset, .unset, .unset] [] := by first | (simp [entryFrame, mkF, argsToLocals, Value.category]; done) | rfl
set_option maxRecDepth 65536 in
set_option maxHeartbeats 40000000 in
theorem rm_rh4d (l : Launch) (Z : State) (a0 : Array Value) (hw : ∀ d ∈ tables_1, d.before a0 Z = true) (r0 r1 il zu za zm zt : Addr) (pos dp : Int32) (pn dn sz : Nat) (g t : Nat → Int32) (w cn : Nat) (h0 : Heap) (n0 : Nat) (Z0 : n0 ≤ h0.size) (g_r0 : n0 ≤ r0) (g_il : n0 ≤ il) (E0 : Exa Z h0 r0 "com/example/brevidns/brevidns/CborReader") (Fp : Fld Z h0 r0 "com/example/brevidns/brevidns/CborReader" "position" "I" (.int pos)) (Fi : Fld Z h0 r0 "com/example/brevidns/brevidns/CborReader" "input" "[B" (.ref r1)) (Fl : Fld Z h0 r0 "com/example/brevidns/brevidns/CborReader" "itemsLeft" "[I" (.ref il)) (Fd : Fld Z h0 r0 "com/example/brevidns/brevidns/CborReader" "depth" "I" (.int dp)) (A : Ary Z h0 r1 .byte 64 (fun i => .int (g i))) (B : Ary Z h0 il .int sz (fun i => .int (t i))) (n10 : r1 ≠ r0) (n20 : il ≠ r0) (n12 : r1 ≠ il) (hpos : pos.toInt = pn) (hdp : dp.toInt = dn) (Szu : Sta Z h0 "com/example/brevidns/brevidns/CborReader$Kind" "UNSIGNED_INTEGER" "Lcom/example/brevidns/brevidns/CborReader$Kind;" (.ref zu)) (Sza : Sta Z h0 "com/example/brevidns/brevidns/CborReader$Kind" "ARRAY" "Lcom/example/brevidns/brevidns/CborReader$Kind;" (.ref za)) (Szm : Sta Z h0 "com/example/brevidns/brevidns/CborReader$Kind" "MAP" "Lcom/example/brevidns/brevidns/CborReader$Kind;" (.ref zm)) (Szt : Sta Z h0 "com/example/brevidns/brevidns/CborReader$Kind" "TAG" "Lcom/example/brevidns/brevidns/CborReader$Kind;" (.ref zt)) (nut : zu ≠ zt) (nat : za ≠ zt) (nmt : zm ≠ zt) (hd : Head g 4 pn w cn) (hpw : pn + w ≤ 63) (hd1 : 1 ≤ dn) (hds : dn ≤ sz) (hs8 : sz ≤ 8) (ht : ¬ t (dn - 1) = 0) :
  Con l Z (⟨"com/example/brevidns/brevidns/CborReader", "readHead", "(Lcom/example/brevidns/brevidns/CborReader$Kind;)J"⟩ : MethodName) prog_3_method_20_code 8 (some .long) ({ frames := 2, cells := 0, slots := 0, locals := 27 } : Room) #[(.ref r0), (.ref za)] h0 (fun v h L => v = some (.long (Int32.ofNat cn).toInt64) ∧ Fr n0 L ∧ Keep h0 h [r0, il] ∧ ∃ pos2 : Int32, pos2.toInt = ((pn + w : Nat) : Int) ∧ Exa Z h r0 "com/example/brevidns/brevidns/CborReader" ∧ Fld Z h r0 "com/example/brevidns/brevidns/CborReader" "position" "I" (.int pos2) ∧ Fld Z h r0 "com/example/brevidns/brevidns/CborReader" "input" "[B" (.ref r1) ∧ Fld Z h r0 "com/example/brevidns/brevidns/CborReader" "itemsLeft" "[I" (.ref il) ∧ Fld Z h r0 "com/example/brevidns/brevidns/CborReader" "depth" "I" (.int dp) ∧ Ary Z h il .int sz (fun i => .int ((upd t (dn - 1) (t (dn - 1) - 1)) i))) := by
 refine own_body pn_5 ?_
 intro p e s m below meth c s₁ hx hby hml hown hnm hret hZ e0 X0 G go rt
 have N0 := Fr.nil n0
 rw [ef_rm_rh4d m r0 za]
 have hww : w = 1 ∨ w = 2 := hd.ww
 show G (s₁.setTop (mkF m 0 #[vR r0, vR za, .unset, .unset, .unset, .unset, .unset, .unset] []))
 refine go _ _ (fun _ k => XS.aloadN X0.here hx rfl (hb hby d5_0) rfl rfl  k) ?_
 show G (s₁.setTop (mkF m 1 #[vR r0, vR za, .unset, .unset, .unset, .unset, .unset, .unset] [(.ref r0)]))
 refine own_virtual go X0 hx hZ e0 hown (wd hw 41 rfl) (wd hw 42 rfl) (notFace_of_selects (args := #[]) (mvT hZ (wd hw 44 rfl))) (wd hw 44 rfl) (wd hw 43 rfl) (wd hw 3 rfl) (wd hw 45 rfl) (by decide) (rm_pk4d l Z a0 hw r0 r1 il zu za zm zt pos dp pn dn sz g t w cn h0 n0 Z0 E0 Fp Fi Fl Fd A B n10 n20 n12 hpos hdp Szu Sza Szm Szt nut nat nmt hd hpw hd1 hds hs8 ht) 0 (by decide) (by decide) (by decide) (by decide) E0 (g := (mkF m 1 #[vR r0, vR za, .unset, .unset, .unset, .unset, .unset, .unset] [(.ref r0)])) rfl (by rw [hml]; rfl) [] [] rfl (lenOf pd_2 rfl) rfl (by show 2 * 0 + _ ≤ _; exact Nat.le_of_eq rfl) (hb hby d5_1) ?_
 intro T146 L146 v146 X146 q146
 obtain ⟨rfl, N146, hh146⟩ := q146
 obtain ⟨lc146, X146h, N146h⟩ := own_hide X146 (Fr.app N0 N146)
 show G (T146.setTop (mkF m 4 #[vR r0, vR za, .unset, .unset, .unset, .unset, .unset, .unset] [(.ref za)]))
 refine go _ _ (fun _ k => XS.astoreN X146h.here hx rfl (hb hby d5_4) rfl rfl (l' := #[vR r0, vR za, vR za, .unset, .unset, .unset, .unset, .unset]) rfl k) ?_
 show G (T146.setTop (mkF m 5 #[vR r0, vR za, vR za, .unset, .unset, .unset, .unset, .unset] []))
 refine go _ _ (fun _ k => XS.aloadN X146h.here hx rfl (hb hby d5_5) rfl rfl  k) ?_
 show G (T146.setTop (mkF m 6 #[vR r0, vR za, vR za, .unset, .unset, .unset, .unset, .unset] [(.ref za)]))
 refine go _ _ (fun _ k => XS.aloadN X146h.here hx rfl (hb hby d5_6) rfl rfl  k) ?_
 show G (T146.setTop (mkF m 7 #[vR r0, vR za, vR za, .unset, .unset, .unset, .unset, .unset] [(.ref za), (.ref za)]))
 refine go _ _ (fun _ k => Jvm.RoadKit.acmp (g := (mkF m 7 #[vR r0, vR za, vR za, .unset, .unset, .unset, .unset, .unset] [(.ref za), (.ref za)])) X146h hx rfl (x := (.ref za)) (y := (.ref za)) rfl rfl (rest := []) (pc0 := 7) (pc' := 35) (same := true) rfl (hb hby d5_7) rfl (decide_eq_true rfl) (by decide) (by decide) k) ?_
 show G (T146.setTop (mkF m 35 #[vR r0, vR za, vR za, .unset, .unset, .unset, .unset, .unset] []))
 refine go _ _ (fun _ k => XS.aloadN X146h.here hx rfl (hb hby d5_35) rfl rfl  k) ?_
 show G (T146.setTop (mkF m 36 #[vR r0, vR za, vR za, .unset, .unset, .unset, .unset, .unset] [(.ref r0)]))
 obtain ⟨T147, X147, e147, st147⟩ := getF X146h hx hZ hown (host := "") (Or.inl (wd hw 13 rfl)) Via.refl hh146 Fi (g := (mkF m 36 #[vR r0, vR za, vR za, .unset, .unset, .unset, .unset, .unset] [(.ref r0)])) rfl rfl (hb hby d5_36)
 refine go _ _ st147 ?_
 show G (T147.setTop (mkF m 39 #[vR r0, vR za, vR za, .unset, .unset, .unset, .unset, .unset] [(.ref r1)]))
 refine go _ _ (fun _ k => XS.aloadN X147.here hx rfl (hb hby d5_39) rfl rfl  k) ?_
 show G (T147.setTop (mkF m 40 #[vR r0, vR za, vR za, .unset, .unset, .unset, .unset, .unset] [(.ref r0), (.ref r1)]))
 obtain ⟨T148, X148, e148, st148⟩ := getF X147 hx hZ hown (host := "") (Or.inl (wd hw 35 rfl)) Via.refl e147 Fp (g := (mkF m 40 #[vR r0, vR za, vR za, .unset, .unset, .unset, .unset, .unset] [(.ref r0), (.ref r1)])) rfl rfl (hb hby d5_40)
 refine go _ _ st148 ?_
 show G (T148.setTop (mkF m 43 #[vR r0, vR za, vR za, .unset, .unset, .unset, .unset, .unset] [(.int pos), (.ref r1)]))
 refine own_baload go X148 hx hZ e148 pn hpos (by omega) (g := (mkF m 43 #[vR r0, vR za, vR za, .unset, .unset, .unset, .unset, .unset] [(.int pos), (.ref r1)])) rfl A rfl (hb hby d5_43) ?_
 show G (T148.setTop (mkF m 44 #[vR r0, vR za, vR za, .unset, .unset, .unset, .unset, .unset] [(.int (g pn))]))
 refine go _ _ (fun _ k => XS.bipush X148.here hx rfl (hb hby d5_44) k) ?_
 show G (T148.setTop (mkF m 46 #[vR r0, vR za, vR za, .unset, .unset, .unset, .unset, .unset] [(.int (31 : Int32)), (.int (g pn))]))
 refine go _ _ (fun _ k => XS.iand X148.here hx rfl (hb hby d5_46) rfl k) ?_
 show G (T148.setTop (mkF m 47 #[vR r0, vR za, vR za, .unset, .unset, .unset, .unset, .unset] [(.int ((g pn) &&& (31 : Int32)))]))
 rcases hd.2 with ⟨rfl, d1, d2⟩ | ⟨rfl, d1, d2, d3⟩
 ·rw [d1]
  show G (T148.setTop (mkF m 47 #[vR r0, vR za, vR za, .unset, .unset, .unset, .unset, .unset] [(.int (Int32.ofNat cn))]))
  refine go _ _ (fun _ k => XS.istoreN X148.here hx rfl (hb hby d5_47) rfl (l' := #[vR r0, vR za, vR za, vI (Int32.ofNat cn), .unset, .unset, .unset, .unset]) rfl k) ?_
  show G (T148.setTop (mkF m 48 #[vR r0, vR za, vR za, vI (Int32.ofNat cn), .unset, .unset, .unset, .unset] []))
  refine go _ _ (fun _ k => XS.iloadN X148.here hx rfl (hb hby d5_48) rfl  k) ?_
  show G (T148.setTop (mkF m 49 #[vR r0, vR za, vR za, vI (Int32.ofNat cn), .unset, .unset, .unset, .unset] [(.int (Int32.ofNat cn))]))
  refine go _ _ (fun _ k => XS.bipush X148.here hx rfl (hb hby d5_49) k) ?_
  show G (T148.setTop (mkF m 51 #[vR r0, vR za, vR za, vI (Int32.ofNat cn), .unset, .unset, .unset, .unset] [(.int (23 : Int32)), (.int (Int32.ofNat cn))]))
  refine go _ _ (fun _ k => XS.icmpNo X148.here hx rfl (hb hby d5_51) rfl (Free.XT.ii_gt_f (own_lt23 d2)) k) ?_
  show G (T148.setTop (mkF m 54 #[vR r0, vR za, vR za, vI (Int32.ofNat cn), .unset, .unset, .unset, .unset] []))
  refine go _ _ (fun _ k => XS.iconst X148.here hx rfl (hb hby d5_54) k) ?_
  show G (T148.setTop (mkF m 55 #[vR r0, vR za, vR za, vI (Int32.ofNat cn), .unset, .unset, .unset, .unset] [(.int (0 : Int32))]))
  refine go _ _ (fun _ k => XS.istore X148.here hx rfl (hb hby d5_55) rfl (l' := #[vR r0, vR za, vR za, vI (Int32.ofNat cn), vI 0, .unset, .unset, .unset]) rfl k) ?_
  show G (T148.setTop (mkF m 57 #[vR r0, vR za, vR za, vI (Int32.ofNat cn), vI 0, .unset, .unset, .unset] []))
  refine go _ _ (fun _ k => XS.goto X148.here hx rfl (pc0 := 57) (pc' := 68) rfl (hb hby d5_57) (by decide) (by decide) k) ?_
  show G (T148.setTop (mkF m 68 #[vR r0, vR za, vR za, vI (Int32.ofNat cn), vI 0, .unset, .unset, .unset] []))
  refine go _ _ (fun _ k => XS.iload X148.here hx rfl (hb hby d5_68) rfl  k) ?_
  show G (T148.setTop (mkF m 70 #[vR r0, vR za, vR za, vI (Int32.ofNat cn), vI 0, .unset, .unset, .unset] [(.int (0 : Int32))]))
  refine go _ _ (fun _ k => XS.aloadN X148.here hx rfl (hb hby d5_70) rfl rfl  k) ?_
  show G (T148.setTop (mkF m 71 #[vR r0, vR za, vR za, vI (Int32.ofNat cn), vI 0, .unset, .unset, .unset] [(.ref r0), (.int (0 : Int32))]))
  refine own_private go X148 hx hZ e148 hown (wd hw 57 rfl) (wd hw 58 rfl) (wd hw 18 rfl) rfl (wd hw 59 rfl) (wd hw 3 rfl) (wd hw 60 rfl) (by decide) (rm_re l Z a0 hw r0 r1 pos g h0 n0 Z0 Fi Fp A) 1 (by decide) (by decide) (by decide) (by decide) E0 (g := (mkF m 71 #[vR r0, vR za, vR za, vI (Int32.ofNat cn), vI 0, .unset, .unset, .unset] [(.ref r0), (.int (0 : Int32))])) rfl (by rw [hml]; rfl) [] [(.int (0 : Int32))] rfl (lenOf pd_3 rfl) rfl (by show 2 * 0 + _ ≤ _; exact Nat.le_of_eq rfl) (hb hby d5_71) ?_
  intro T149 L149 v149 X149 q149
  obtain ⟨rfl, N149, hh149⟩ := q149
  obtain ⟨lc149, X149h, N149h⟩ := own_hide X149 (Fr.app N146h N149)
  show G (T149.setTop (mkF m 74 #[vR r0, vR za, vR za, vI (Int32.ofNat cn), vI 0, .unset, .unset, .unset] [(.int ((64 : Int32) - pos)), (.int (0 : Int32))]))
  refine go _ _ (fun _ k => XS.icmpYes X149h.here hx rfl (pc0 := 74) (pc' := 94) rfl (hb hby d5_74) rfl (Free.XT.ii_lt_t (own_rem64 0 (kk := 0) rfl hpos (by omega))) (by decide) (by decide) k) ?_
  show G (T149.setTop (mkF m 94 #[vR r0, vR za, vR za, vI (Int32.ofNat cn), vI 0, .unset, .unset, .unset] []))
  refine go _ _ (fun _ k => XS.iload X149h.here hx rfl (hb hby d5_94) rfl  k) ?_
  show G (T149.setTop (mkF m 96 #[vR r0, vR za, vR za, vI (Int32.ofNat cn), vI 0, .unset, .unset, .unset] [(.int (0 : Int32))]))
  refine go _ _ (fun _ k => XS.ifNo X149h.here hx rfl (hb hby d5_96) rfl (Free.XT.i0_ne_f (by decide)) k) ?_
  show G (T149.setTop (mkF m 99 #[vR r0, vR za, vR za, vI (Int32.ofNat cn), vI 0, .unset, .unset, .unset] []))
  refine go _ _ (fun _ k => XS.iloadN X149h.here hx rfl (hb hby d5_99) rfl  k) ?_
  show G (T149.setTop (mkF m 100 #[vR r0, vR za, vR za, vI (Int32.ofNat cn), vI 0, .unset, .unset, .unset] [(.int (Int32.ofNat cn))]))
  refine go _ _ (fun _ k => XS.i2l X149h.here hx rfl (hb hby d5_100) rfl k) ?_
  show G (T149.setTop (mkF m 101 #[vR r0, vR za, vR za, vI (Int32.ofNat cn), vI 0, .unset, .unset, .unset] [(.long ((Int32.ofNat cn).toInt64))]))
  refine go _ _ (fun _ k => XS.lstore X149h.here hx rfl (hb hby d5_101) rfl (l' := #[vR r0, vR za, vR za, vI (Int32.ofNat cn), vI 0, .val (.long ((Int32.ofNat cn).toInt64)), .second, .unset]) rfl k) ?_
  show G (T149.setTop (mkF m 103 #[vR r0, vR za, vR za, vI (Int32.ofNat cn), vI 0, .val (.long ((Int32.ofNat cn).toInt64)), .second, .unset] []))
  refine go _ _ (fun _ k => XS.goto X149h.here hx rfl (pc0 := 103) (pc' := 150) rfl (hb hby d5_103) (by decide) (by decide) k) ?_
  show G (T149.setTop (mkF m 150 #[vR r0, vR za, vR za, vI (Int32.ofNat cn), vI 0, .val (.long ((Int32.ofNat cn).toInt64)), .second, .unset] []))
  refine go _ _ (fun _ k => XS.aloadN X149h.here hx rfl (hb hby d5_150) rfl rfl  k) ?_
  show G (T149.setTop (mkF m 151 #[vR r0, vR za, vR za, vI (Int32.ofNat cn), vI 0, .val (.long ((Int32.ofNat cn).toInt64)), .second, .unset] [(.ref r0)]))
  refine go _ _ (fun _ k => XS.dup X149h.here hx rfl (hb hby d5_151) rfl rfl k) ?_
  show G (T149.setTop (mkF m 152 #[vR r0, vR za, vR za, vI (Int32.ofNat cn), vI 0, .val (.long ((Int32.ofNat cn).toInt64)), .second, .unset] [(.ref r0), (.ref r0)]))
  obtain ⟨T150, X150, e150, st150⟩ := getF X149h hx hZ hown (host := "") (Or.inl (wd hw 35 rfl)) Via.refl hh149 Fp (g := (mkF m 152 #[vR r0, vR za, vR za, vI (Int32.ofNat cn), vI 0, .val (.long ((Int32.ofNat cn).toInt64)), .second, .unset] [(.ref r0), (.ref r0)])) rfl rfl (hb hby d5_152)
  refine go _ _ st150 ?_
  show G (T150.setTop (mkF m 155 #[vR r0, vR za, vR za, vI (Int32.ofNat cn), vI 0, .val (.long ((Int32.ofNat cn).toInt64)), .second, .unset] [(.int pos), (.ref r0)]))
  refine go _ _ (fun _ k => XS.iconst X150.here hx rfl (hb hby d5_155) k) ?_
  show G (T150.setTop (mkF m 156 #[vR r0, vR za, vR za, vI (Int32.ofNat cn), vI 0, .val (.long ((Int32.ofNat cn).toInt64)), .second, .unset] [(.int (1 : Int32)), (.int pos), (.ref r0)]))
  refine go _ _ (fun _ k => XS.iload X150.here hx rfl (hb hby d5_156) rfl  k) ?_
  show G (T150.setTop (mkF m 158 #[vR r0, vR za, vR za, vI (Int32.ofNat cn), vI 0, .val (.long ((Int32.ofNat cn).toInt64)), .second, .unset] [(.int (0 : Int32)), (.int (1 : Int32)), (.int pos), (.ref r0)]))
  refine go _ _ (fun _ k => XS.iadd X150.here hx rfl (hb hby d5_158) rfl k) ?_
  show G (T150.setTop (mkF m 159 #[vR r0, vR za, vR za, vI (Int32.ofNat cn), vI 0, .val (.long ((Int32.ofNat cn).toInt64)), .second, .unset] [(.int ((1 : Int32) + (0 : Int32))), (.int pos), (.ref r0)]))
  refine go _ _ (fun _ k => XS.iadd X150.here hx rfl (hb hby d5_159) rfl k) ?_
  show G (T150.setTop (mkF m 160 #[vR r0, vR za, vR za, vI (Int32.ofNat cn), vI 0, .val (.long ((Int32.ofNat cn).toInt64)), .second, .unset] [(.int (pos + ((1 : Int32) + (0 : Int32)))), (.ref r0)]))
  obtain ⟨T151, h151, X151, e151, W151, st151⟩ := putF X150 hx hZ hown (host := "") (Or.inl (wd hw 35 rfl)) Via.refl e150 Fp E0 (Or.inl (wd hw 36 rfl)) (wd hw 2 rfl) (ty := .int) (by decide) rfl rfl (g := (mkF m 160 #[vR r0, vR za, vR za, vI (Int32.ofNat cn), vI 0, .val (.long ((Int32.ofNat cn).toInt64)), .second, .unset] [(.int (pos + ((1 : Int32) + (0 : Int32)))), (.ref r0)])) rfl rfl (hb hby d5_160)
  have F151 := Fp.same W151
  have K152 : Keep h0 h151 [r0, il] := (Keep.refl h0 [r0, il]).wr W151 (Or.inl (List.mem_of_getElem? (i := 0) rfl))
  obtain ⟨lc151, X151h, N151h⟩ := own_hide X151 (Fr.snoc X151 N149h g_r0)
  have Z153 : n0 ≤ h151.size := Nat.le_trans Z0 (Nat.le_of_eq W151.size.symm)
  refine go _ _ st151 ?_
  show G (T151.setTop (mkF m 163 #[vR r0, vR za, vR za, vI (Int32.ofNat cn), vI 0, .val (.long ((Int32.ofNat cn).toInt64)), .second, .unset] []))
  refine go _ _ (fun _ k => XS.aloadN X151h.here hx rfl (hb hby d5_163) rfl rfl  k) ?_
  show G (T151.setTop (mkF m 164 #[vR r0, vR za, vR za, vI (Int32.ofNat cn), vI 0, .val (.long ((Int32.ofNat cn).toInt64)), .second, .unset] [(.ref r0)]))
  have f154 := (Fd.other W151 (Or.inr (slot_ne (Or.inl (wd hw 51 rfl)) (Or.inl (wd hw 36 rfl)) (by decide) (t := .int) (t' := .int) (by decide) (by decide))))
  obtain ⟨T155, X155, e155, st155⟩ := getF X151h hx hZ hown (host := "") (Or.inl (wd hw 50 rfl)) Via.refl e151 f154 (g := (mkF m 164 #[vR r0, vR za, vR za, vI (Int32.ofNat cn), vI 0, .val (.long ((Int32.ofNat cn).toInt64)), .second, .unset] [(.ref r0)])) rfl rfl (hb hby d5_164)
  refine go _ _ st155 ?_
  show G (T155.setTop (mkF m 167 #[vR r0, vR za, vR za, vI (Int32.ofNat cn), vI 0, .val (.long ((Int32.ofNat cn).toInt64)), .second, .unset] [(.int dp)]))
  refine go _ _ (fun _ k => XS.ifNo X155.here hx rfl (hb hby d5_167) rfl (Free.XT.i0_le_f (own_pos hdp hd1)) k) ?_
  show G (T155.setTop (mkF m 170 #[vR r0, vR za, vR za, vI (Int32.ofNat cn), vI 0, .val (.long ((Int32.ofNat cn).toInt64)), .second, .unset] []))
  refine go _ _ (fun _ k => XS.aloadN X155.here hx rfl (hb hby d5_170) rfl rfl  k) ?_
  show G (T155.setTop (mkF m 171 #[vR r0, vR za, vR za, vI (Int32.ofNat cn), vI 0, .val (.long ((Int32.ofNat cn).toInt64)), .second, .unset] [(.ref za)]))
  have f156 := (Szt.wr W151)
  obtain ⟨T157, X157, e157, st157⟩ := getS X155 hx hZ hown (host := "") (wd hw 69 rfl) Via.refl e155 f156 (g := (mkF m 171 #[vR r0, vR za, vR za, vI (Int32.ofNat cn), vI 0, .val (.long ((Int32.ofNat cn).toInt64)), .second, .unset] [(.ref za)])) rfl (hb hby d5_171)
  refine go _ _ st157 ?_
  show G (T157.setTop (mkF m 174 #[vR r0, vR za, vR za, vI (Int32.ofNat cn), vI 0, .val (.long ((Int32.ofNat cn).toInt64)), .second, .unset] [(.ref zt), (.ref za)]))
  refine go _ _ (fun _ k => Jvm.RoadKit.acmp (g := (mkF m 174 #[vR r0, vR za, vR za, vI (Int32.ofNat cn), vI 0, .val (.long ((Int32.ofNat cn).toInt64)), .second, .unset] [(.ref zt), (.ref za)])) X157 hx rfl (x := (.ref za)) (y := (.ref zt)) rfl rfl (rest := []) (pc0 := 174) (pc' := 177) (same := false) rfl (hb hby d5_174) rfl (decide_eq_false (fun z => nat (Value.ref.inj z))) (by decide) (by decide) k) ?_
  show G (T157.setTop (mkF m 177 #[vR r0, vR za, vR za, vI (Int32.ofNat cn), vI 0, .val (.long ((Int32.ofNat cn).toInt64)), .second, .unset] []))
  refine go _ _ (fun _ k => XS.aloadN X157.here hx rfl (hb hby d5_177) rfl rfl  k) ?_
  show G (T157.setTop (mkF m 178 #[vR r0, vR za, vR za, vI (Int32.ofNat cn), vI 0, .val (.long ((Int32.ofNat cn).toInt64)), .second, .unset] [(.ref r0)]))
  have f158 := (Fl.other W151 (Or.inr (slot_ne (Or.inl (wd hw 12 rfl)) (Or.inl (wd hw 36 rfl)) (by decide) (t := (.array .int)) (t' := .int) (by decide) (by decide))))
  obtain ⟨T159, X159, e159, st159⟩ := getF X157 hx hZ hown (host := "") (Or.inl (wd hw 11 rfl)) Via.refl e157 f158 (g := (mkF m 178 #[vR r0, vR za, vR za, vI (Int32.ofNat cn), vI 0, .val (.long ((Int32.ofNat cn).toInt64)), .second, .unset] [(.ref r0)])) rfl rfl (hb hby d5_178)
  refine go _ _ st159 ?_
  show G (T159.setTop (mkF m 181 #[vR r0, vR za, vR za, vI (Int32.ofNat cn), vI 0, .val (.long ((Int32.ofNat cn).toInt64)), .second, .unset] [(.ref il)]))
  refine go _ _ (fun _ k => XS.aloadN X159.here hx rfl (hb hby d5_181) rfl rfl  k) ?_
  show G (T159.setTop (mkF m 182 #[vR r0, vR za, vR za, vI (Int32.ofNat cn), vI 0, .val (.long ((Int32.ofNat cn).toInt64)), .second, .unset] [(.ref r0), (.ref il)]))
  obtain ⟨T160, X160, e160, st160⟩ := getF X159 hx hZ hown (host := "") (Or.inl (wd hw 50 rfl)) Via.refl e159 f154 (g := (mkF m 182 #[vR r0, vR za, vR za, vI (Int32.ofNat cn), vI 0, .val (.long ((Int32.ofNat cn).toInt64)), .second, .unset] [(.ref r0), (.ref il)])) rfl rfl (hb hby d5_182)
  refine go _ _ st160 ?_
  show G (T160.setTop (mkF m 185 #[vR r0, vR za, vR za, vI (Int32.ofNat cn), vI 0, .val (.long ((Int32.ofNat cn).toInt64)), .second, .unset] [(.int dp), (.ref il)]))
  refine go _ _ (fun _ k => XS.iconst X160.here hx rfl (hb hby d5_185) k) ?_
  show G (T160.setTop (mkF m 186 #[vR r0, vR za, vR za, vI (Int32.ofNat cn), vI 0, .val (.long ((Int32.ofNat cn).toInt64)), .second, .unset] [(.int (1 : Int32)), (.int dp), (.ref il)]))
  refine go _ _ (fun _ k => XS.isub X160.here hx rfl (hb hby d5_186) rfl k) ?_
  show G (T160.setTop (mkF m 187 #[vR r0, vR za, vR za, vI (Int32.ofNat cn), vI 0, .val (.long ((Int32.ofNat cn).toInt64)), .second, .unset] [(.int (dp - (1 : Int32))), (.ref il)]))
  refine go _ _ (fun _ k => Free.XT.dup2 X160.here hx rfl (hb hby d5_187) rfl rfl rfl k) ?_
  show G (T160.setTop (mkF m 188 #[vR r0, vR za, vR za, vI (Int32.ofNat cn), vI 0, .val (.long ((Int32.ofNat cn).toInt64)), .second, .unset] [(.int (dp - (1 : Int32))), (.ref il), (.int (dp - (1 : Int32))), (.ref il)]))
  have f161 := (B.other W151 n20)
  refine own_iaload go X160 hx hZ e160 (dn - 1) (own_m1 hdp hd1 (by omega)) (by omega) (g := (mkF m 188 #[vR r0, vR za, vR za, vI (Int32.ofNat cn), vI 0, .val (.long ((Int32.ofNat cn).toInt64)), .second, .unset] [(.int (dp - (1 : Int32))), (.ref il), (.int (dp - (1 : Int32))), (.ref il)])) rfl f161 rfl (hb hby d5_188) ?_
  show G (T160.setTop (mkF m 189 #[vR r0, vR za, vR za, vI (Int32.ofNat cn), vI 0, .val (.long ((Int32.ofNat cn).toInt64)), .second, .unset] [(.int (t (dn - 1))), (.int (dp - (1 : Int32))), (.ref il)]))
  refine go _ _ (fun _ k => XS.iconst X160.here hx rfl (hb hby d5_189) k) ?_
  show G (T160.setTop (mkF m 190 #[vR r0, vR za, vR za, vI (Int32.ofNat cn), vI 0, .val (.long ((Int32.ofNat cn).toInt64)), .second, .unset] [(.int (1 : Int32)), (.int (t (dn - 1))), (.int (dp - (1 : Int32))), (.ref il)]))
  refine go _ _ (fun _ k => XS.isub X160.here hx rfl (hb hby d5_190) rfl k) ?_
  show G (T160.setTop (mkF m 191 #[vR r0, vR za, vR za, vI (Int32.ofNat cn), vI 0, .val (.long ((Int32.ofNat cn).toInt64)), .second, .unset] [(.int ((t (dn - 1)) - (1 : Int32))), (.int (dp - (1 : Int32))), (.ref il)]))
  refine own_iastore go X160 hx hZ e160 (dn - 1) (own_m1 hdp hd1 (by omega)) (by omega) (g := (mkF m 191 #[vR r0, vR za, vR za, vI (Int32.ofNat cn), vI 0, .val (.long ((Int32.ofNat cn).toInt64)), .second, .unset] [(.int ((t (dn - 1)) - (1 : Int32))), (.int (dp - (1 : Int32))), (.ref il)])) rfl f161 rfl (hb hby d5_191) ?_
  intro T162 h162 X162 e162 W162 A162
  have K163 : Keep h0 h162 [r0, il] := K152.wr W162 (Or.inl (List.mem_of_getElem? (i := 1) rfl))
  obtain ⟨lc162, X162h, N162h⟩ := own_hide X162 (Fr.snoc X162 N151h g_il)
  have Z164 : n0 ≤ h162.size := Nat.le_trans Z153 (Nat.le_of_eq W162.size.symm)
  have A162c := A162.cong (g := (fun i => .int ((upd t (dn - 1) (t (dn - 1) - 1)) i))) (own_upd rfl)
  show G (T162.setTop (mkF m 192 #[vR r0, vR za, vR za, vI (Int32.ofNat cn), vI 0, .val (.long ((Int32.ofNat cn).toInt64)), .second, .unset] []))
  refine go _ _ (fun _ k => XS.lload X162h.here hx rfl (hb hby d5_192) rfl  k) ?_
  show G (T162.setTop (mkF m 194 #[vR r0, vR za, vR za, vI (Int32.ofNat cn), vI 0, .val (.long ((Int32.ofNat cn).toInt64)), .second, .unset] [(.long ((Int32.ofNat cn).toInt64))]))
  refine own_retJ rt X162h hx hret (hb hby d5_194) (by decide) (by decide) ?_
  have f165 := ((E0.wr W151).wr W162)
  have f166 := (F151.other W162 (Or.inl (Ne.symm n20)))
  have f167 := ((Fi.other W151 (Or.inr (slot_ne (Or.inr (wd hw 14 rfl)) (Or.inl (wd hw 36 rfl)) (by decide) (t := (.array .byte)) (t' := .int) (by decide) (by decide)))).other W162 (Or.inl (Ne.symm n20)))
  have f168 := (f158.other W162 (Or.inl (Ne.symm n20)))
  have f169 := (f154.other W162 (Or.inl (Ne.symm n20)))
  rw [e162]
  exact ⟨rfl, N162h, K163, _, own_add hpos (by rfl) (by omega), f165, f166, f167, f168, f169, A162c⟩
 ·rw [d1]
  show G (T148.setTop (mkF m 47 #[vR r0, vR za, vR za, .unset, .unset, .unset, .unset, .unset] [(.int (24 : Int32))]))
  refine go _ _ (fun _ k => XS.istoreN X148.here hx rfl (hb hby d5_47) rfl (l' := #[vR r0, vR za, vR za, vI 24, .unset, .unset, .unset, .unset]) rfl k) ?_
  show G (T148.setTop (mkF m 48 #[vR r0, vR za, vR za, vI 24, .unset, .unset, .unset, .unset] []))
  refine go _ _ (fun _ k => XS.iloadN X148.here hx rfl (hb hby d5_48) rfl  k) ?_
  show G (T148.setTop (mkF m 49 #[vR r0, vR za, vR za, vI 24, .unset, .unset, .unset, .unset] [(.int (24 : Int32))]))
  refine go _ _ (fun _ k => XS.bipush X148.here hx rfl (hb hby d5_49) k) ?_
  show G (T148.setTop (mkF m 51 #[vR r0, vR za, vR za, vI 24, .unset, .unset, .unset, .unset] [(.int (23 : Int32)), (.int (24 : Int32))]))
  refine go _ _ (fun _ k => XS.icmpYes X148.here hx rfl (pc0 := 51) (pc' := 60) rfl (hb hby d5_51) rfl (Free.XT.ii_gt_t (by decide)) (by decide) (by decide) k) ?_
  show G (T148.setTop (mkF m 60 #[vR r0, vR za, vR za, vI 24, .unset, .unset, .unset, .unset] []))
  refine go _ _ (fun _ k => XS.iconst X148.here hx rfl (hb hby d5_60) k) ?_
  show G (T148.setTop (mkF m 61 #[vR r0, vR za, vR za, vI 24, .unset, .unset, .unset, .unset] [(.int (1 : Int32))]))
  refine go _ _ (fun _ k => XS.iloadN X148.here hx rfl (hb hby d5_61) rfl  k) ?_
  show G (T148.setTop (mkF m 62 #[vR r0, vR za, vR za, vI 24, .unset, .unset, .unset, .unset] [(.int (24 : Int32)), (.int (1 : Int32))]))
  refine go _ _ (fun _ k => XS.bipush X148.here hx rfl (hb hby d5_62) k) ?_
  show G (T148.setTop (mkF m 64 #[vR r0, vR za, vR za, vI 24, .unset, .unset, .unset, .unset] [(.int (24 : Int32)), (.int (24 : Int32)), (.int (1 : Int32))]))
  refine go _ _ (fun _ k => XS.isub X148.here hx rfl (hb hby d5_64) rfl k) ?_
  show G (T148.setTop (mkF m 65 #[vR r0, vR za, vR za, vI 24, .unset, .unset, .unset, .unset] [(.int ((24 : Int32) - (24 : Int32))), (.int (1 : Int32))]))
  refine go _ _ (fun _ k => XS.ishl X148.here hx rfl (hb hby d5_65) rfl k) ?_
  show G (T148.setTop (mkF m 66 #[vR r0, vR za, vR za, vI 24, .unset, .unset, .unset, .unset] [(.int ((1 : Int32) <<< (((24 : Int32) - (24 : Int32)) &&& 31)))]))
  refine go _ _ (fun _ k => XS.istore X148.here hx rfl (hb hby d5_66) rfl (l' := #[vR r0, vR za, vR za, vI 24, vI ((1 : Int32) <<< (((24 : Int32) - (24 : Int32)) &&& 31)), .unset, .unset, .unset]) rfl k) ?_
  show G (T148.setTop (mkF m 68 #[vR r0, vR za, vR za, vI 24, vI ((1 : Int32) <<< (((24 : Int32) - (24 : Int32)) &&& 31)), .unset, .unset, .unset] []))
  show G (T148.setTop (mkF m 68 #[vR r0, vR za, vR za, vI 24, vI 1, .unset, .unset, .unset] []))
  refine go _ _ (fun _ k => XS.iload X148.here hx rfl (hb hby d5_68) rfl  k) ?_
  show G (T148.setTop (mkF m 70 #[vR r0, vR za, vR za, vI 24, vI 1, .unset, .unset, .unset] [(.int (1 : Int32))]))
  refine go _ _ (fun _ k => XS.aloadN X148.here hx rfl (hb hby d5_70) rfl rfl  k) ?_
  show G (T148.setTop (mkF m 71 #[vR r0, vR za, vR za, vI 24, vI 1, .unset, .unset, .unset] [(.ref r0), (.int (1 : Int32))]))
  refine own_private go X148 hx hZ e148 hown (wd hw 57 rfl) (wd hw 58 rfl) (wd hw 18 rfl) rfl (wd hw 59 rfl) (wd hw 3 rfl) (wd hw 60 rfl) (by decide) (rm_re l Z a0 hw r0 r1 pos g h0 n0 Z0 Fi Fp A) 1 (by decide) (by decide) (by decide) (by decide) E0 (g := (mkF m 71 #[vR r0, vR za, vR za, vI 24, vI 1, .unset, .unset, .unset] [(.ref r0), (.int (1 : Int32))])) rfl (by rw [hml]; rfl) [] [(.int (1 : Int32))] rfl (lenOf pd_3 rfl) rfl (by show 2 * 0 + _ ≤ _; exact Nat.le_of_eq rfl) (hb hby d5_71) ?_
  intro T170 L170 v170 X170 q170
  obtain ⟨rfl, N170, hh170⟩ := q170
  obtain ⟨lc170, X170h, N170h⟩ := own_hide X170 (Fr.app N146h N170)
  show G (T170.setTop (mkF m 74 #[vR r0, vR za, vR za, vI 24, vI 1, .unset, .unset, .unset] [(.int ((64 : Int32) - pos)), (.int (1 : Int32))]))
  refine go _ _ (fun _ k => XS.icmpYes X170h.here hx rfl (pc0 := 74) (pc' := 94) rfl (hb hby d5_74) rfl (Free.XT.ii_lt_t (own_rem64 1 (kk := 1) rfl hpos (by omega))) (by decide) (by decide) k) ?_
  show G (T170.setTop (mkF m 94 #[vR r0, vR za, vR za, vI 24, vI 1, .unset, .unset, .unset] []))
  refine go _ _ (fun _ k => XS.iload X170h.here hx rfl (hb hby d5_94) rfl  k) ?_
  show G (T170.setTop (mkF m 96 #[vR r0, vR za, vR za, vI 24, vI 1, .unset, .unset, .unset] [(.int (1 : Int32))]))
  refine go _ _ (fun _ k => XS.ifYes X170h.here hx rfl (pc0 := 96) (pc' := 106) rfl (hb hby d5_96) rfl (Free.XT.i0_ne_t (by decide)) (by decide) (by decide) k) ?_
  show G (T170.setTop (mkF m 106 #[vR r0, vR za, vR za, vI 24, vI 1, .unset, .unset, .unset] []))
  refine go _ _ (fun _ k => XS.lconst X170h.here hx rfl (hb hby d5_106) k) ?_
  show G (T170.setTop (mkF m 107 #[vR r0, vR za, vR za, vI 24, vI 1, .unset, .unset, .unset] [(.long (0 : Int64))]))
  refine go _ _ (fun _ k => XS.lstore X170h.here hx rfl (hb hby d5_107) rfl (l' := #[vR r0, vR za, vR za, vI 24, vI 1, .val (.long (0 : Int64)), .second, .unset]) rfl k) ?_
  show G (T170.setTop (mkF m 109 #[vR r0, vR za, vR za, vI 24, vI 1, .val (.long (0 : Int64)), .second, .unset] []))
  refine go _ _ (fun _ k => XS.iconst X170h.here hx rfl (hb hby d5_109) k) ?_
  show G (T170.setTop (mkF m 110 #[vR r0, vR za, vR za, vI 24, vI 1, .val (.long (0 : Int64)), .second, .unset] [(.int (1 : Int32))]))
  refine go _ _ (fun _ k => XS.istore X170h.here hx rfl (hb hby d5_110) rfl (l' := #[vR r0, vR za, vR za, vI 24, vI 1, .val (.long (0 : Int64)), .second, vI 1]) rfl k) ?_
  show G (T170.setTop (mkF m 112 #[vR r0, vR za, vR za, vI 24, vI 1, .val (.long (0 : Int64)), .second, vI 1] []))
  refine go _ _ (fun _ k => XS.iload X170h.here hx rfl (hb hby d5_112) rfl  k) ?_
  show G (T170.setTop (mkF m 114 #[vR r0, vR za, vR za, vI 24, vI 1, .val (.long (0 : Int64)), .second, vI 1] [(.int (1 : Int32))]))
  refine go _ _ (fun _ k => XS.iload X170h.here hx rfl (hb hby d5_114) rfl  k) ?_
  show G (T170.setTop (mkF m 116 #[vR r0, vR za, vR za, vI 24, vI 1, .val (.long (0 : Int64)), .second, vI 1] [(.int (1 : Int32)), (.int (1 : Int32))]))
  refine go _ _ (fun _ k => XS.icmpNo X170h.here hx rfl (hb hby d5_116) rfl (Free.XT.ii_gt_f (by decide)) k) ?_
  show G (T170.setTop (mkF m 119 #[vR r0, vR za, vR za, vI 24, vI 1, .val (.long (0 : Int64)), .second, vI 1] []))
  refine go _ _ (fun _ k => XS.lload X170h.here hx rfl (hb hby d5_119) rfl  k) ?_
  show G (T170.setTop (mkF m 121 #[vR r0, vR za, vR za, vI 24, vI 1, .val (.long (0 : Int64)), .second, vI 1] [(.long (0 : Int64))]))
  refine go _ _ (fun _ k => XS.bipush X170h.here hx rfl (hb hby d5_121) k) ?_
  show G (T170.setTop (mkF m 123 #[vR r0, vR za, vR za, vI 24, vI 1, .val (.long (0 : Int64)), .second, vI 1] [(.int (8 : Int32)), (.long (0 : Int64))]))
  refine go _ _ (fun _ k => XS.lshl X170h.here hx rfl (hb hby d5_123) rfl k) ?_
  show G (T170.setTop (mkF m 124 #[vR r0, vR za, vR za, vI 24, vI 1, .val (.long (0 : Int64)), .second, vI 1] [(.long ((0 : Int64) <<< ((8 : Int32) &&& 0x3f).toInt64))]))
  refine go _ _ (fun _ k => XS.aloadN X170h.here hx rfl (hb hby d5_124) rfl rfl  k) ?_
  show G (T170.setTop (mkF m 125 #[vR r0, vR za, vR za, vI 24, vI 1, .val (.long (0 : Int64)), .second, vI 1] [(.ref r0), (.long ((0 : Int64) <<< ((8 : Int32) &&& 0x3f).toInt64))]))
  obtain ⟨T171, X171, e171, st171⟩ := getF X170h hx hZ hown (host := "") (Or.inl (wd hw 13 rfl)) Via.refl hh170 Fi (g := (mkF m 125 #[vR r0, vR za, vR za, vI 24, vI 1, .val (.long (0 : Int64)), .second, vI 1] [(.ref r0), (.long ((0 : Int64) <<< ((8 : Int32) &&& 0x3f).toInt64))])) rfl rfl (hb hby d5_125)
  refine go _ _ st171 ?_
  show G (T171.setTop (mkF m 128 #[vR r0, vR za, vR za, vI 24, vI 1, .val (.long (0 : Int64)), .second, vI 1] [(.ref r1), (.long ((0 : Int64) <<< ((8 : Int32) &&& 0x3f).toInt64))]))
  refine go _ _ (fun _ k => XS.aloadN X171.here hx rfl (hb hby d5_128) rfl rfl  k) ?_
  show G (T171.setTop (mkF m 129 #[vR r0, vR za, vR za, vI 24, vI 1, .val (.long (0 : Int64)), .second, vI 1] [(.ref r0), (.ref r1), (.long ((0 : Int64) <<< ((8 : Int32) &&& 0x3f).toInt64))]))
  obtain ⟨T172, X172, e172, st172⟩ := getF X171 hx hZ hown (host := "") (Or.inl (wd hw 35 rfl)) Via.refl e171 Fp (g := (mkF m 129 #[vR r0, vR za, vR za, vI 24, vI 1, .val (.long (0 : Int64)), .second, vI 1] [(.ref r0), (.ref r1), (.long ((0 : Int64) <<< ((8 : Int32) &&& 0x3f).toInt64))])) rfl rfl (hb hby d5_129)
  refine go _ _ st172 ?_
  show G (T172.setTop (mkF m 132 #[vR r0, vR za, vR za, vI 24, vI 1, .val (.long (0 : Int64)), .second, vI 1] [(.int pos), (.ref r1), (.long ((0 : Int64) <<< ((8 : Int32) &&& 0x3f).toInt64))]))
  refine go _ _ (fun _ k => XS.iload X172.here hx rfl (hb hby d5_132) rfl  k) ?_
  show G (T172.setTop (mkF m 134 #[vR r0, vR za, vR za, vI 24, vI 1, .val (.long (0 : Int64)), .second, vI 1] [(.int (1 : Int32)), (.int pos), (.ref r1), (.long ((0 : Int64) <<< ((8 : Int32) &&& 0x3f).toInt64))]))
  refine go _ _ (fun _ k => XS.iadd X172.here hx rfl (hb hby d5_134) rfl k) ?_
  show G (T172.setTop (mkF m 135 #[vR r0, vR za, vR za, vI 24, vI 1, .val (.long (0 : Int64)), .second, vI 1] [(.int (pos + (1 : Int32))), (.ref r1), (.long ((0 : Int64) <<< ((8 : Int32) &&& 0x3f).toInt64))]))
  refine own_baload go X172 hx hZ e172 (pn + 1) (own_add hpos (by rfl) (by omega)) (by omega) (g := (mkF m 135 #[vR r0, vR za, vR za, vI 24, vI 1, .val (.long (0 : Int64)), .second, vI 1] [(.int (pos + (1 : Int32))), (.ref r1), (.long ((0 : Int64) <<< ((8 : Int32) &&& 0x3f).toInt64))])) rfl A rfl (hb hby d5_135) ?_
  show G (T172.setTop (mkF m 136 #[vR r0, vR za, vR za, vI 24, vI 1, .val (.long (0 : Int64)), .second, vI 1] [(.int (g (pn + 1))), (.long ((0 : Int64) <<< ((8 : Int32) &&& 0x3f).toInt64))]))
  refine go _ _ (fun _ k => XS.sipush X172.here hx rfl (hb hby d5_136) k) ?_
  show G (T172.setTop (mkF m 139 #[vR r0, vR za, vR za, vI 24, vI 1, .val (.long (0 : Int64)), .second, vI 1] [(.int (255 : Int32)), (.int (g (pn + 1))), (.long ((0 : Int64) <<< ((8 : Int32) &&& 0x3f).toInt64))]))
  refine go _ _ (fun _ k => XS.iand X172.here hx rfl (hb hby d5_139) rfl k) ?_
  show G (T172.setTop (mkF m 140 #[vR r0, vR za, vR za, vI 24, vI 1, .val (.long (0 : Int64)), .second, vI 1] [(.int ((g (pn + 1)) &&& (255 : Int32))), (.long ((0 : Int64) <<< ((8 : Int32) &&& 0x3f).toInt64))]))
  refine go _ _ (fun _ k => XS.i2l X172.here hx rfl (hb hby d5_140) rfl k) ?_
  show G (T172.setTop (mkF m 141 #[vR r0, vR za, vR za, vI 24, vI 1, .val (.long (0 : Int64)), .second, vI 1] [(.long (((g (pn + 1)) &&& (255 : Int32)).toInt64)), (.long ((0 : Int64) <<< ((8 : Int32) &&& 0x3f).toInt64))]))
  refine go _ _ (fun _ k => XS.lor X172.here hx rfl (hb hby d5_141) rfl k) ?_
  show G (T172.setTop (mkF m 142 #[vR r0, vR za, vR za, vI 24, vI 1, .val (.long (0 : Int64)), .second, vI 1] [(.long (((0 : Int64) <<< ((8 : Int32) &&& 0x3f).toInt64) ||| (((g (pn + 1)) &&& (255 : Int32)).toInt64)))]))
  rw [d2, own_or0]
  show G (T172.setTop (mkF m 142 #[vR r0, vR za, vR za, vI 24, vI 1, .val (.long (0 : Int64)), .second, vI 1] [(.long ((Int32.ofNat cn).toInt64))]))
  refine go _ _ (fun _ k => XS.lstore X172.here hx rfl (hb hby d5_142) rfl (l' := #[vR r0, vR za, vR za, vI 24, vI 1, .val (.long ((Int32.ofNat cn).toInt64)), .second, vI 1]) rfl k) ?_
  show G (T172.setTop (mkF m 144 #[vR r0, vR za, vR za, vI 24, vI 1, .val (.long ((Int32.ofNat cn).toInt64)), .second, vI 1] []))
  refine go _ _ (fun _ k => XS.iinc X172.here hx rfl (hb hby d5_144) rfl (l' := #[vR r0, vR za, vR za, vI 24, vI 1, .val (.long ((Int32.ofNat cn).toInt64)), .second, vI ((1 : Int32) + (1 : Int32))]) rfl k) ?_
  show G (T172.setTop (mkF m 147 #[vR r0, vR za, vR za, vI 24, vI 1, .val (.long ((Int32.ofNat cn).toInt64)), .second, vI ((1 : Int32) + (1 : Int32))] []))
  refine go _ _ (fun _ k => XS.goto X172.here hx rfl (pc0 := 147) (pc' := 112) rfl (hb hby d5_147) (by decide) (by decide) k) ?_
  show G (T172.setTop (mkF m 112 #[vR r0, vR za, vR za, vI 24, vI 1, .val (.long ((Int32.ofNat cn).toInt64)), .second, vI ((1 : Int32) + (1 : Int32))] []))
  show G (T172.setTop (mkF m 112 #[vR r0, vR za, vR za, vI 24, vI 1, .val (.long ((Int32.ofNat cn).toInt64)), .second, vI 2] []))
  refine go _ _ (fun _ k => XS.iload X172.here hx rfl (hb hby d5_112) rfl  k) ?_
  show G (T172.setTop (mkF m 114 #[vR r0, vR za, vR za, vI 24, vI 1, .val (.long ((Int32.ofNat cn).toInt64)), .second, vI 2] [(.int (2 : Int32))]))
  refine go _ _ (fun _ k => XS.iload X172.here hx rfl (hb hby d5_114) rfl  k) ?_
  show G (T172.setTop (mkF m 116 #[vR r0, vR za, vR za, vI 24, vI 1, .val (.long ((Int32.ofNat cn).toInt64)), .second, vI 2] [(.int (1 : Int32)), (.int (2 : Int32))]))
  refine go _ _ (fun _ k => XS.icmpYes X172.here hx rfl (pc0 := 116) (pc' := 150) rfl (hb hby d5_116) rfl (Free.XT.ii_gt_t (by decide)) (by decide) (by decide) k) ?_
  show G (T172.setTop (mkF m 150 #[vR r0, vR za, vR za, vI 24, vI 1, .val (.long ((Int32.ofNat cn).toInt64)), .second, vI 2] []))
  refine go _ _ (fun _ k => XS.aloadN X172.here hx rfl (hb hby d5_150) rfl rfl  k) ?_
  show G (T172.setTop (mkF m 151 #[vR r0, vR za, vR za, vI 24, vI 1, .val (.long ((Int32.ofNat cn).toInt64)), .second, vI 2] [(.ref r0)]))
  refine go _ _ (fun _ k => XS.dup X172.here hx rfl (hb hby d5_151) rfl rfl k) ?_
  show G (T172.setTop (mkF m 152 #[vR r0, vR za, vR za, vI 24, vI 1, .val (.long ((Int32.ofNat cn).toInt64)), .second, vI 2] [(.ref r0), (.ref r0)]))
  obtain ⟨T173, X173, e173, st173⟩ := getF X172 hx hZ hown (host := "") (Or.inl (wd hw 35 rfl)) Via.refl e172 Fp (g := (mkF m 152 #[vR r0, vR za, vR za, vI 24, vI 1, .val (.long ((Int32.ofNat cn).toInt64)), .second, vI 2] [(.ref r0), (.ref r0)])) rfl rfl (hb hby d5_152)
  refine go _ _ st173 ?_
  show G (T173.setTop (mkF m 155 #[vR r0, vR za, vR za, vI 24, vI 1, .val (.long ((Int32.ofNat cn).toInt64)), .second, vI 2] [(.int pos), (.ref r0)]))
  refine go _ _ (fun _ k => XS.iconst X173.here hx rfl (hb hby d5_155) k) ?_
  show G (T173.setTop (mkF m 156 #[vR r0, vR za, vR za, vI 24, vI 1, .val (.long ((Int32.ofNat cn).toInt64)), .second, vI 2] [(.int (1 : Int32)), (.int pos), (.ref r0)]))
  refine go _ _ (fun _ k => XS.iload X173.here hx rfl (hb hby d5_156) rfl  k) ?_
  show G (T173.setTop (mkF m 158 #[vR r0, vR za, vR za, vI 24, vI 1, .val (.long ((Int32.ofNat cn).toInt64)), .second, vI 2] [(.int (1 : Int32)), (.int (1 : Int32)), (.int pos), (.ref r0)]))
  refine go _ _ (fun _ k => XS.iadd X173.here hx rfl (hb hby d5_158) rfl k) ?_
  show G (T173.setTop (mkF m 159 #[vR r0, vR za, vR za, vI 24, vI 1, .val (.long ((Int32.ofNat cn).toInt64)), .second, vI 2] [(.int ((1 : Int32) + (1 : Int32))), (.int pos), (.ref r0)]))
  refine go _ _ (fun _ k => XS.iadd X173.here hx rfl (hb hby d5_159) rfl k) ?_
  show G (T173.setTop (mkF m 160 #[vR r0, vR za, vR za, vI 24, vI 1, .val (.long ((Int32.ofNat cn).toInt64)), .second, vI 2] [(.int (pos + ((1 : Int32) + (1 : Int32)))), (.ref r0)]))
  obtain ⟨T174, h174, X174, e174, W174, st174⟩ := putF X173 hx hZ hown (host := "") (Or.inl (wd hw 35 rfl)) Via.refl e173 Fp E0 (Or.inl (wd hw 36 rfl)) (wd hw 2 rfl) (ty := .int) (by decide) rfl rfl (g := (mkF m 160 #[vR r0, vR za, vR za, vI 24, vI 1, .val (.long ((Int32.ofNat cn).toInt64)), .second, vI 2] [(.int (pos + ((1 : Int32) + (1 : Int32)))), (.ref r0)])) rfl rfl (hb hby d5_160)
  have F174 := Fp.same W174
  have K175 : Keep h0 h174 [r0, il] := (Keep.refl h0 [r0, il]).wr W174 (Or.inl (List.mem_of_getElem? (i := 0) rfl))
  obtain ⟨lc174, X174h, N174h⟩ := own_hide X174 (Fr.snoc X174 N170h g_r0)
  have Z176 : n0 ≤ h174.size := Nat.le_trans Z0 (Nat.le_of_eq W174.size.symm)
  refine go _ _ st174 ?_
  show G (T174.setTop (mkF m 163 #[vR r0, vR za, vR za, vI 24, vI 1, .val (.long ((Int32.ofNat cn).toInt64)), .second, vI 2] []))
  refine go _ _ (fun _ k => XS.aloadN X174h.here hx rfl (hb hby d5_163) rfl rfl  k) ?_
  show G (T174.setTop (mkF m 164 #[vR r0, vR za, vR za, vI 24, vI 1, .val (.long ((Int32.ofNat cn).toInt64)), .second, vI 2] [(.ref r0)]))
  have f177 := (Fd.other W174 (Or.inr (slot_ne (Or.inl (wd hw 51 rfl)) (Or.inl (wd hw 36 rfl)) (by decide) (t := .int) (t' := .int) (by decide) (by decide))))
  obtain ⟨T178, X178, e178, st178⟩ := getF X174h hx hZ hown (host := "") (Or.inl (wd hw 50 rfl)) Via.refl e174 f177 (g := (mkF m 164 #[vR r0, vR za, vR za, vI 24, vI 1, .val (.long ((Int32.ofNat cn).toInt64)), .second, vI 2] [(.ref r0)])) rfl rfl (hb hby d5_164)
  refine go _ _ st178 ?_
  show G (T178.setTop (mkF m 167 #[vR r0, vR za, vR za, vI 24, vI 1, .val (.long ((Int32.ofNat cn).toInt64)), .second, vI 2] [(.int dp)]))
  refine go _ _ (fun _ k => XS.ifNo X178.here hx rfl (hb hby d5_167) rfl (Free.XT.i0_le_f (own_pos hdp hd1)) k) ?_
  show G (T178.setTop (mkF m 170 #[vR r0, vR za, vR za, vI 24, vI 1, .val (.long ((Int32.ofNat cn).toInt64)), .second, vI 2] []))
  refine go _ _ (fun _ k => XS.aloadN X178.here hx rfl (hb hby d5_170) rfl rfl  k) ?_
  show G (T178.setTop (mkF m 171 #[vR r0, vR za, vR za, vI 24, vI 1, .val (.long ((Int32.ofNat cn).toInt64)), .second, vI 2] [(.ref za)]))
  have f179 := (Szt.wr W174)
  obtain ⟨T180, X180, e180, st180⟩ := getS X178 hx hZ hown (host := "") (wd hw 69 rfl) Via.refl e178 f179 (g := (mkF m 171 #[vR r0, vR za, vR za, vI 24, vI 1, .val (.long ((Int32.ofNat cn).toInt64)), .second, vI 2] [(.ref za)])) rfl (hb hby d5_171)
  refine go _ _ st180 ?_
  show G (T180.setTop (mkF m 174 #[vR r0, vR za, vR za, vI 24, vI 1, .val (.long ((Int32.ofNat cn).toInt64)), .second, vI 2] [(.ref zt), (.ref za)]))
  refine go _ _ (fun _ k => Jvm.RoadKit.acmp (g := (mkF m 174 #[vR r0, vR za, vR za, vI 24, vI 1, .val (.long ((Int32.ofNat cn).toInt64)), .second, vI 2] [(.ref zt), (.ref za)])) X180 hx rfl (x := (.ref za)) (y := (.ref zt)) rfl rfl (rest := []) (pc0 := 174) (pc' := 177) (same := false) rfl (hb hby d5_174) rfl (decide_eq_false (fun z => nat (Value.ref.inj z))) (by decide) (by decide) k) ?_
  show G (T180.setTop (mkF m 177 #[vR r0, vR za, vR za, vI 24, vI 1, .val (.long ((Int32.ofNat cn).toInt64)), .second, vI 2] []))
  refine go _ _ (fun _ k => XS.aloadN X180.here hx rfl (hb hby d5_177) rfl rfl  k) ?_
  show G (T180.setTop (mkF m 178 #[vR r0, vR za, vR za, vI 24, vI 1, .val (.long ((Int32.ofNat cn).toInt64)), .second, vI 2] [(.ref r0)]))
  have f181 := (Fl.other W174 (Or.inr (slot_ne (Or.inl (wd hw 12 rfl)) (Or.inl (wd hw 36 rfl)) (by decide) (t := (.array .int)) (t' := .int) (by decide) (by decide))))
  obtain ⟨T182, X182, e182, st182⟩ := getF X180 hx hZ hown (host := "") (Or.inl (wd hw 11 rfl)) Via.refl e180 f181 (g := (mkF m 178 #[vR r0, vR za, vR za, vI 24, vI 1, .val (.long ((Int32.ofNat cn).toInt64)), .second, vI 2] [(.ref r0)])) rfl rfl (hb hby d5_178)
  refine go _ _ st182 ?_
  show G (T182.setTop (mkF m 181 #[vR r0, vR za, vR za, vI 24, vI 1, .val (.long ((Int32.ofNat cn).toInt64)), .second, vI 2] [(.ref il)]))
  refine go _ _ (fun _ k => XS.aloadN X182.here hx rfl (hb hby d5_181) rfl rfl  k) ?_
  show G (T182.setTop (mkF m 182 #[vR r0, vR za, vR za, vI 24, vI 1, .val (.long ((Int32.ofNat cn).toInt64)), .second, vI 2] [(.ref r0), (.ref il)]))
  obtain ⟨T183, X183, e183, st183⟩ := getF X182 hx hZ hown (host := "") (Or.inl (wd hw 50 rfl)) Via.refl e182 f177 (g := (mkF m 182 #[vR r0, vR za, vR za, vI 24, vI 1, .val (.long ((Int32.ofNat cn).toInt64)), .second, vI 2] [(.ref r0), (.ref il)])) rfl rfl (hb hby d5_182)
  refine go _ _ st183 ?_
  show G (T183.setTop (mkF m 185 #[vR r0, vR za, vR za, vI 24, vI 1, .val (.long ((Int32.ofNat cn).toInt64)), .second, vI 2] [(.int dp), (.ref il)]))
  refine go _ _ (fun _ k => XS.iconst X183.here hx rfl (hb hby d5_185) k) ?_
  show G (T183.setTop (mkF m 186 #[vR r0, vR za, vR za, vI 24, vI 1, .val (.long ((Int32.ofNat cn).toInt64)), .second, vI 2] [(.int (1 : Int32)), (.int dp), (.ref il)]))
  refine go _ _ (fun _ k => XS.isub X183.here hx rfl (hb hby d5_186) rfl k) ?_
  show G (T183.setTop (mkF m 187 #[vR r0, vR za, vR za, vI 24, vI 1, .val (.long ((Int32.ofNat cn).toInt64)), .second, vI 2] [(.int (dp - (1 : Int32))), (.ref il)]))
  refine go _ _ (fun _ k => Free.XT.dup2 X183.here hx rfl (hb hby d5_187) rfl rfl rfl k) ?_
  show G (T183.setTop (mkF m 188 #[vR r0, vR za, vR za, vI 24, vI 1, .val (.long ((Int32.ofNat cn).toInt64)), .second, vI 2] [(.int (dp - (1 : Int32))), (.ref il), (.int (dp - (1 : Int32))), (.ref il)]))
  have f184 := (B.other W174 n20)
  refine own_iaload go X183 hx hZ e183 (dn - 1) (own_m1 hdp hd1 (by omega)) (by omega) (g := (mkF m 188 #[vR r0, vR za, vR za, vI 24, vI 1, .val (.long ((Int32.ofNat cn).toInt64)), .second, vI 2] [(.int (dp - (1 : Int32))), (.ref il), (.int (dp - (1 : Int32))), (.ref il)])) rfl f184 rfl (hb hby d5_188) ?_
  show G (T183.setTop (mkF m 189 #[vR r0, vR za, vR za, vI 24, vI 1, .val (.long ((Int32.ofNat cn).toInt64)), .second, vI 2] [(.int (t (dn - 1))), (.int (dp - (1 : Int32))), (.ref il)]))
  refine go _ _ (fun _ k => XS.iconst X183.here hx rfl (hb hby d5_189) k) ?_
  show G (T183.setTop (mkF m 190 #[vR r0, vR za, vR za, vI 24, vI 1, .val (.long ((Int32.ofNat cn).toInt64)), .second, vI 2] [(.int (1 : Int32)), (.int (t (dn - 1))), (.int (dp - (1 : Int32))), (.ref il)]))
  refine go _ _ (fun _ k => XS.isub X183.here hx rfl (hb hby d5_190) rfl k) ?_
  show G (T183.setTop (mkF m 191 #[vR r0, vR za, vR za, vI 24, vI 1, .val (.long ((Int32.ofNat cn).toInt64)), .second, vI 2] [(.int ((t (dn - 1)) - (1 : Int32))), (.int (dp - (1 : Int32))), (.ref il)]))
  refine own_iastore go X183 hx hZ e183 (dn - 1) (own_m1 hdp hd1 (by omega)) (by omega) (g := (mkF m 191 #[vR r0, vR za, vR za, vI 24, vI 1, .val (.long ((Int32.ofNat cn).toInt64)), .second, vI 2] [(.int ((t (dn - 1)) - (1 : Int32))), (.int (dp - (1 : Int32))), (.ref il)])) rfl f184 rfl (hb hby d5_191) ?_
  intro T185 h185 X185 e185 W185 A185
  have K186 : Keep h0 h185 [r0, il] := K175.wr W185 (Or.inl (List.mem_of_getElem? (i := 1) rfl))
  obtain ⟨lc185, X185h, N185h⟩ := own_hide X185 (Fr.snoc X185 N174h g_il)
  have Z187 : n0 ≤ h185.size := Nat.le_trans Z176 (Nat.le_of_eq W185.size.symm)
  have A185c := A185.cong (g := (fun i => .int ((upd t (dn - 1) (t (dn - 1) - 1)) i))) (own_upd rfl)
  show G (T185.setTop (mkF m 192 #[vR r0, vR za, vR za, vI 24, vI 1, .val (.long ((Int32.ofNat cn).toInt64)), .second, vI 2] []))
  refine go _ _ (fun _ k => XS.lload X185h.here hx rfl (hb hby d5_192) rfl  k) ?_
  show G (T185.setTop (mkF m 194 #[vR r0, vR za, vR za, vI 24, vI 1, .val (.long ((Int32.ofNat cn).toInt64)), .second, vI 2] [(.long ((Int32.ofNat cn).toInt64))]))
  refine own_retJ rt X185h hx hret (hb hby d5_194) (by decide) (by decide) ?_
  have f188 := ((E0.wr W174).wr W185)
  have f189 := (F174.other W185 (Or.inl (Ne.symm n20)))
  have f190 := ((Fi.other W174 (Or.inr (slot_ne (Or.inr (wd hw 14 rfl)) (Or.inl (wd hw 36 rfl)) (by decide) (t := (.array .byte)) (t' := .int) (by decide) (by decide)))).other W185 (Or.inl (Ne.symm n20)))
  have f191 := (f181.other W185 (Or.inl (Ne.symm n20)))
  have f192 := (f177.other W185 (Or.inl (Ne.symm n20)))
  rw [e185]
  exact ⟨rfl, N185h, K186, _, own_add hpos (by rfl) (by omega), f188, f189, f190, f191, f192, A185c⟩
theorem ef_rm_pk5z (m : MethodId) (x0 : Addr) : entryFrame m #[(.ref x0)] 4 = mkF m 0 #[.val (.ref x0), .unset, .unset, .unset] [] := by first | (simp [entryFrame, mkF, argsToLocals, Value.category]; done) | rfl
set_option maxRecDepth 65536 in
set_option maxHeartbeats 40000000 in
theorem rm_pk5z (l : Launch) (Z : State) (a0 : Array Value) (hw : ∀ d ∈ tables_1, d.before a0 Z = true) (r0 r1 il zu za zm zt : Addr) (pos : Int32) (pn dn sz : Nat) (g t : Nat → Int32) (w cn : Nat) (h0 : Heap) (n0 : Nat) (Z0 : n0 ≤ h0.size) (E0 : Exa Z h0 r0 "com/example/brevidns/brevidns/CborReader") (Fp : Fld Z h0 r0 "com/example/brevidns/brevidns/CborReader" "position" "I" (.int pos)) (Fi : Fld Z h0 r0 "com/example/brevidns/brevidns/CborReader" "input" "[B" (.ref r1)) (Fl : Fld Z h0 r0 "com/example/brevidns/brevidns/CborReader" "itemsLeft" "[I" (.ref il)) (Fd : Fld Z h0 r0 "com/example/brevidns/brevidns/CborReader" "depth" "I" (.int 0)) (A : Ary Z h0 r1 .byte 64 (fun i => .int (g i))) (B : Ary Z h0 il .int sz (fun i => .int (t i))) (n10 : r1 ≠ r0) (n20 : il ≠ r0) (n12 : r1 ≠ il) (hpos : pos.toInt = pn) (hdp : (0 : Int32).toInt = dn) (Szu : Sta Z h0 "com/example/brevidns/brevidns/CborReader$Kind" "UNSIGNED_INTEGER" "Lcom/example/brevidns/brevidns/CborReader$Kind;" (.ref zu)) (Sza : Sta Z h0 "com/example/brevidns/brevidns/CborReader$Kind" "ARRAY" "Lcom/example/brevidns/brevidns/CborReader$Kind;" (.ref za)) (Szm : Sta Z h0 "com/example/brevidns/brevidns/CborReader$Kind" "MAP" "Lcom/example/brevidns/brevidns/CborReader$Kind;" (.ref zm)) (Szt : Sta Z h0 "com/example/brevidns/brevidns/CborReader$Kind" "TAG" "Lcom/example/brevidns/brevidns/CborReader$Kind;" (.ref zt)) (nut : zu ≠ zt) (nat : za ≠ zt) (nmt : zm ≠ zt) (hd : Head g 5 pn w cn) (hpw : pn + w ≤ 63) :
  Con l Z (⟨"com/example/brevidns/brevidns/CborReader", "peek", "()Lcom/example/brevidns/brevidns/CborReader$Kind;"⟩ : MethodName) prog_3_method_4_code 4 (some (.object "com/example/brevidns/brevidns/CborReader$Kind")) ({ frames := 1, cells := 0, slots := 0, locals := 12 } : Room) #[(.ref r0)] h0 (fun v h L => v = some (.ref zm) ∧ Fr n0 L ∧ h = h0) := by
 refine own_body pn_6 ?_
 intro p e s m below meth c s₁ hx hby hml hown hnm hret hZ e0 X0 G go rt
 have N0 := Fr.nil n0
 rw [ef_rm_pk5z m r0]
 have hww : w = 1 ∨ w = 2 := hd.ww
 have hrg := hd.rng
 have x2 := own_x31 (g pn)
 have x3 := hd.1
 show G (s₁.setTop (mkF m 0 #[vR r0, .unset, .unset, .unset] []))
 refine go _ _ (fun _ k => XS.aloadN X0.here hx rfl (hb hby d6_0) rfl rfl  k) ?_
 show G (s₁.setTop (mkF m 1 #[vR r0, .unset, .unset, .unset] [(.ref r0)]))
 refine own_private go X0 hx hZ e0 hown (wd hw 46 rfl) (wd hw 47 rfl) (wd hw 18 rfl) rfl (wd hw 48 rfl) (wd hw 3 rfl) (wd hw 49 rfl) (by decide) (rm_ch0 l Z a0 hw r0 h0 n0 Z0 Fd) 0 (by decide) (by decide) (by decide) (by decide) E0 (g := (mkF m 1 #[vR r0, .unset, .unset, .unset] [(.ref r0)])) rfl (by rw [hml]; rfl) [] [] rfl (lenOf pd_0 rfl) rfl (by show 2 * 0 + _ ≤ _; exact Nat.le_of_eq rfl) (hb hby d6_1) ?_
 intro T193 L193 v193 X193 q193
 obtain ⟨rfl, N193, hh193⟩ := q193
 obtain ⟨lc193, X193h, N193h⟩ := own_hide X193 (Fr.app N0 N193)
 show G (T193.setTop (mkF m 4 #[vR r0, .unset, .unset, .unset] []))
 refine go _ _ (fun _ k => XS.aloadN X193h.here hx rfl (hb hby d6_4) rfl rfl  k) ?_
 show G (T193.setTop (mkF m 5 #[vR r0, .unset, .unset, .unset] [(.ref r0)]))
 refine own_virtual go X193h hx hZ hh193 hown (wd hw 52 rfl) (wd hw 53 rfl) (notFace_of_selects (args := #[]) (mvT hZ (wd hw 55 rfl))) (wd hw 55 rfl) (wd hw 54 rfl) (wd hw 3 rfl) (wd hw 56 rfl) (by decide) (rm_ae l Z a0 hw r0 r1 pos pn g h0 n0 Z0 Fi Fp A hpos (by omega)) 0 (by decide) (by decide) (by decide) (by decide) E0 (g := (mkF m 5 #[vR r0, .unset, .unset, .unset] [(.ref r0)])) rfl (by rw [hml]; rfl) [] [] rfl (lenOf pd_1 rfl) rfl (by show 2 * 0 + _ ≤ _; exact Nat.le_of_eq rfl) (hb hby d6_5) ?_
 intro T194 L194 v194 X194 q194
 obtain ⟨rfl, N194, hh194⟩ := q194
 obtain ⟨lc194, X194h, N194h⟩ := own_hide X194 (Fr.app N193h N194)
 show G (T194.setTop (mkF m 8 #[vR r0, .unset, .unset, .unset] [(.int (0 : Int32))]))
 refine go _ _ (fun _ k => XS.ifYes X194h.here hx rfl (pc0 := 8) (pc' := 21) rfl (hb hby d6_8) rfl (Free.XT.i0_eq_t (by decide)) (by decide) (by decide) k) ?_
 show G (T194.setTop (mkF m 21 #[vR r0, .unset, .unset, .unset] []))
 refine go _ _ (fun _ k => XS.aloadN X194h.here hx rfl (hb hby d6_21) rfl rfl  k) ?_
 show G (T194.setTop (mkF m 22 #[vR r0, .unset, .unset, .unset] [(.ref r0)]))
 obtain ⟨T195, X195, e195, st195⟩ := getF X194h hx hZ hown (host := "") (Or.inl (wd hw 13 rfl)) Via.refl hh194 Fi (g := (mkF m 22 #[vR r0, .unset, .unset, .unset] [(.ref r0)])) rfl rfl (hb hby d6_22)
 refine go _ _ st195 ?_
 show G (T195.setTop (mkF m 25 #[vR r0, .unset, .unset, .unset] [(.ref r1)]))
 refine go _ _ (fun _ k => XS.aloadN X195.here hx rfl (hb hby d6_25) rfl rfl  k) ?_
 show G (T195.setTop (mkF m 26 #[vR r0, .unset, .unset, .unset] [(.ref r0), (.ref r1)]))
 obtain ⟨T196, X196, e196, st196⟩ := getF X195 hx hZ hown (host := "") (Or.inl (wd hw 35 rfl)) Via.refl e195 Fp (g := (mkF m 26 #[vR r0, .unset, .unset, .unset] [(.ref r0), (.ref r1)])) rfl rfl (hb hby d6_26)
 refine go _ _ st196 ?_
 show G (T196.setTop (mkF m 29 #[vR r0, .unset, .unset, .unset] [(.int pos), (.ref r1)]))
 refine own_baload go X196 hx hZ e196 pn hpos (by omega) (g := (mkF m 29 #[vR r0, .unset, .unset, .unset] [(.int pos), (.ref r1)])) rfl A rfl (hb hby d6_29) ?_
 show G (T196.setTop (mkF m 30 #[vR r0, .unset, .unset, .unset] [(.int (g pn))]))
 refine go _ _ (fun _ k => XS.sipush X196.here hx rfl (hb hby d6_30) k) ?_
 show G (T196.setTop (mkF m 33 #[vR r0, .unset, .unset, .unset] [(.int (255 : Int32)), (.int (g pn))]))
 refine go _ _ (fun _ k => XS.iand X196.here hx rfl (hb hby d6_33) rfl k) ?_
 show G (T196.setTop (mkF m 34 #[vR r0, .unset, .unset, .unset] [(.int ((g pn) &&& (255 : Int32)))]))
 refine go _ _ (fun _ k => XS.istoreN X196.here hx rfl (hb hby d6_34) rfl (l' := #[vR r0, vI ((g pn) &&& (255 : Int32)), .unset, .unset]) rfl k) ?_
 show G (T196.setTop (mkF m 35 #[vR r0, vI ((g pn) &&& (255 : Int32)), .unset, .unset] []))
 refine go _ _ (fun _ k => XS.iloadN X196.here hx rfl (hb hby d6_35) rfl  k) ?_
 show G (T196.setTop (mkF m 36 #[vR r0, vI ((g pn) &&& (255 : Int32)), .unset, .unset] [(.int ((g pn) &&& (255 : Int32)))]))
 refine go _ _ (fun _ k => XS.bipush X196.here hx rfl (hb hby d6_36) k) ?_
 show G (T196.setTop (mkF m 38 #[vR r0, vI ((g pn) &&& (255 : Int32)), .unset, .unset] [(.int (31 : Int32)), (.int ((g pn) &&& (255 : Int32)))]))
 refine go _ _ (fun _ k => XS.iand X196.here hx rfl (hb hby d6_38) rfl k) ?_
 show G (T196.setTop (mkF m 39 #[vR r0, vI ((g pn) &&& (255 : Int32)), .unset, .unset] [(.int (((g pn) &&& (255 : Int32)) &&& (31 : Int32)))]))
 rw [x2]
 show G (T196.setTop (mkF m 39 #[vR r0, vI ((g pn) &&& (255 : Int32)), .unset, .unset] [(.int (g pn &&& (31 : Int32)))]))
 refine go _ _ (fun _ k => XS.istoreN X196.here hx rfl (hb hby d6_39) rfl (l' := #[vR r0, vI ((g pn) &&& (255 : Int32)), vI (g pn &&& (31 : Int32)), .unset]) rfl k) ?_
 show G (T196.setTop (mkF m 40 #[vR r0, vI ((g pn) &&& (255 : Int32)), vI (g pn &&& (31 : Int32)), .unset] []))
 refine go _ _ (fun _ k => XS.iloadN X196.here hx rfl (hb hby d6_40) rfl  k) ?_
 show G (T196.setTop (mkF m 41 #[vR r0, vI ((g pn) &&& (255 : Int32)), vI (g pn &&& (31 : Int32)), .unset] [(.int (g pn &&& (31 : Int32)))]))
 refine go _ _ (fun _ k => XS.bipush X196.here hx rfl (hb hby d6_41) k) ?_
 show G (T196.setTop (mkF m 43 #[vR r0, vI ((g pn) &&& (255 : Int32)), vI (g pn &&& (31 : Int32)), .unset] [(.int (31 : Int32)), (.int (g pn &&& (31 : Int32)))]))
 refine go _ _ (fun _ k => XS.icmpYes X196.here hx rfl (pc0 := 43) (pc' := 63) rfl (hb hby d6_43) rfl (Free.XT.ii_ne_t (fun z => absurd (z ▸ hrg.2) (by decide))) (by decide) (by decide) k) ?_
 show G (T196.setTop (mkF m 63 #[vR r0, vI ((g pn) &&& (255 : Int32)), vI (g pn &&& (31 : Int32)), .unset] []))
 refine go _ _ (fun _ k => XS.iloadN X196.here hx rfl (hb hby d6_63) rfl  k) ?_
 show G (T196.setTop (mkF m 64 #[vR r0, vI ((g pn) &&& (255 : Int32)), vI (g pn &&& (31 : Int32)), .unset] [(.int (g pn &&& (31 : Int32)))]))
 refine go _ _ (fun _ k => XS.bipush X196.here hx rfl (hb hby d6_64) k) ?_
 show G (T196.setTop (mkF m 66 #[vR r0, vI ((g pn) &&& (255 : Int32)), vI (g pn &&& (31 : Int32)), .unset] [(.int (27 : Int32)), (.int (g pn &&& (31 : Int32)))]))
 refine go _ _ (fun _ k => XS.icmpYes X196.here hx rfl (pc0 := 66) (pc' := 90) rfl (hb hby d6_66) rfl (Free.XT.ii_le_t (fun z => absurd (Int32.lt_iff_toInt_lt.mp z) (by have e : (27 : Int32).toInt = 27 := rfl; omega))) (by decide) (by decide) k) ?_
 show G (T196.setTop (mkF m 90 #[vR r0, vI ((g pn) &&& (255 : Int32)), vI (g pn &&& (31 : Int32)), .unset] []))
 refine go _ _ (fun _ k => XS.iloadN X196.here hx rfl (hb hby d6_90) rfl  k) ?_
 show G (T196.setTop (mkF m 91 #[vR r0, vI ((g pn) &&& (255 : Int32)), vI (g pn &&& (31 : Int32)), .unset] [(.int ((g pn) &&& (255 : Int32)))]))
 refine go _ _ (fun _ k => XS.iconst X196.here hx rfl (hb hby d6_91) k) ?_
 show G (T196.setTop (mkF m 92 #[vR r0, vI ((g pn) &&& (255 : Int32)), vI (g pn &&& (31 : Int32)), .unset] [(.int (5 : Int32)), (.int ((g pn) &&& (255 : Int32)))]))
 refine go _ _ (fun _ k => XS.iushr X196.here hx rfl (hb hby d6_92) rfl k) ?_
 show G (T196.setTop (mkF m 93 #[vR r0, vI ((g pn) &&& (255 : Int32)), vI (g pn &&& (31 : Int32)), .unset] [(.int ((((g pn) &&& (255 : Int32)).toUInt32 >>> ((5 : Int32) &&& 31).toUInt32).toInt32))]))
 rw [x3]
 show G (T196.setTop (mkF m 93 #[vR r0, vI ((g pn) &&& (255 : Int32)), vI (g pn &&& (31 : Int32)), .unset] [(.int (5 : Int32))]))
 refine go _ _ (fun _ k => XS.tswIn X196.here hx rfl (pc0 := 93) (pc' := 171) rfl (hb hby d6_93) rfl (by decide) (o := 78) (by decide) (by decide) (by decide) k) ?_
 show G (T196.setTop (mkF m 171 #[vR r0, vI ((g pn) &&& (255 : Int32)), vI (g pn &&& (31 : Int32)), .unset] []))
 obtain ⟨T197, X197, e197, st197⟩ := getS X196 hx hZ hown (host := "") (wd hw 81 rfl) Via.refl e196 Szm (g := (mkF m 171 #[vR r0, vI ((g pn) &&& (255 : Int32)), vI (g pn &&& (31 : Int32)), .unset] [])) rfl (hb hby d6_171)
 refine go _ _ st197 ?_
 show G (T197.setTop (mkF m 174 #[vR r0, vI ((g pn) &&& (255 : Int32)), vI (g pn &&& (31 : Int32)), .unset] [(.ref zm)]))
 refine go _ _ (fun _ k => XS.astoreN X197.here hx rfl (hb hby d6_174) rfl rfl (l' := #[vR r0, vI ((g pn) &&& (255 : Int32)), vI (g pn &&& (31 : Int32)), vR zm]) rfl k) ?_
 show G (T197.setTop (mkF m 175 #[vR r0, vI ((g pn) &&& (255 : Int32)), vI (g pn &&& (31 : Int32)), vR zm] []))
 refine go _ _ (fun _ k => XS.goto X197.here hx rfl (pc0 := 175) (pc' := 221) rfl (hb hby d6_175) (by decide) (by decide) k) ?_
 show G (T197.setTop (mkF m 221 #[vR r0, vI ((g pn) &&& (255 : Int32)), vI (g pn &&& (31 : Int32)), vR zm] []))
 refine go _ _ (fun _ k => XS.aloadN X197.here hx rfl (hb hby d6_221) rfl rfl  k) ?_
 show G (T197.setTop (mkF m 222 #[vR r0, vI ((g pn) &&& (255 : Int32)), vI (g pn &&& (31 : Int32)), vR zm] [(.ref zm)]))
 refine own_retA rt X197 hx hret rfl rfl (hb hby d6_222) (by decide) (by decide) ?_
 exact ⟨rfl, N194h, e197⟩
theorem ef_rm_rh5z (m : MethodId) (x0 : Addr) (x1 : Addr) : entryFrame m #[(.ref x0), (.ref x1)] 8 = mkF m 0 #[.val (.ref x0), .val (.ref x1), .unset, .unset, .unset, .unset, .unset, .unset] [] := by first | (simp [entryFrame, mkF, argsToLocals, Value.category]; done) | rfl
set_option maxRecDepth 65536 in
set_option maxHeartbeats 40000000 in
theorem rm_rh5z (l : Launch) (Z : State) (a0 : Array Value) (hw : ∀ d ∈ tables_1, d.before a0 Z = true) (r0 r1 il zu za zm zt : Addr) (pos : Int32) (pn dn sz : Nat) (g t : Nat → Int32) (w cn : Nat) (h0 : Heap) (n0 : Nat) (Z0 : n0 ≤ h0.size) (g_r0 : n0 ≤ r0) (E0 : Exa Z h0 r0 "com/example/brevidns/brevidns/CborReader") (Fp : Fld Z h0 r0 "com/example/brevidns/brevidns/CborReader" "position" "I" (.int pos)) (Fi : Fld Z h0 r0 "com/example/brevidns/brevidns/CborReader" "input" "[B" (.ref r1)) (Fl : Fld Z h0 r0 "com/example/brevidns/brevidns/CborReader" "itemsLeft" "[I" (.ref il)) (Fd : Fld Z h0 r0 "com/example/brevidns/brevidns/CborReader" "depth" "I" (.int 0)) (A : Ary Z h0 r1 .byte 64 (fun i => .int (g i))) (B : Ary Z h0 il .int sz (fun i => .int (t i))) (n10 : r1 ≠ r0) (n20 : il ≠ r0) (n12 : r1 ≠ il) (hpos : pos.toInt = pn) (hdp : (0 : Int32).toInt = dn) (Szu : Sta Z h0 "com/example/brevidns/brevidns/CborReader$Kind" "UNSIGNED_INTEGER" "Lcom/example/brevidns/brevidns/CborReader$Kind;" (.ref zu)) (Sza : Sta Z h0 "com/example/brevidns/brevidns/CborReader$Kind" "ARRAY" "Lcom/example/brevidns/brevidns/CborReader$Kind;" (.ref za)) (Szm : Sta Z h0 "com/example/brevidns/brevidns/CborReader$Kind" "MAP" "Lcom/example/brevidns/brevidns/CborReader$Kind;" (.ref zm)) (Szt : Sta Z h0 "com/example/brevidns/brevidns/CborReader$Kind" "TAG" "Lcom/example/brevidns/brevidns/CborReader$Kind;" (.ref zt)) (nut : zu ≠ zt) (nat : za ≠ zt) (nmt : zm ≠ zt) (hd : Head g 5 pn w cn) (hpw : pn + w ≤ 63) :
  Con l Z (⟨"com/example/brevidns/brevidns/CborReader", "readHead", "(Lcom/example/brevidns/brevidns/CborReader$Kind;)J"⟩ : MethodName) prog_3_method_20_code 8 (some .long) ({ frames := 2, cells := 0, slots := 0, locals := 27 } : Room) #[(.ref r0), (.ref zm)] h0 (fun v h L => v = some (.long (Int32.ofNat cn).toInt64) ∧ Fr n0 L ∧ Keep h0 h [r0] ∧ ∃ pos2 : Int32, pos2.toInt = ((pn + w : Nat) : Int) ∧ Exa Z h r0 "com/example/brevidns/brevidns/CborReader" ∧ Fld Z h r0 "com/example/brevidns/brevidns/CborReader" "position" "I" (.int pos2) ∧ Fld Z h r0 "com/example/brevidns/brevidns/CborReader" "input" "[B" (.ref r1) ∧ Fld Z h r0 "com/example/brevidns/brevidns/CborReader" "itemsLeft" "[I" (.ref il) ∧ Fld Z h r0 "com/example/brevidns/brevidns/CborReader" "depth" "I" (.int (0 : Int32)) ∧ Ary Z h il .int sz (fun i => .int (t i))) := by
 refine own_body pn_5 ?_
 intro p e s m below meth c s₁ hx hby hml hown hnm hret hZ e0 X0 G go rt
 have N0 := Fr.nil n0
 rw [ef_rm_rh5z m r0 zm]
 have hww : w = 1 ∨ w = 2 := hd.ww
 show G (s₁.setTop (mkF m 0 #[vR r0, vR zm, .unset, .unset, .unset, .unset, .unset, .unset] []))
 refine go _ _ (fun _ k => XS.aloadN X0.here hx rfl (hb hby d5_0) rfl rfl  k) ?_
 show G (s₁.setTop (mkF m 1 #[vR r0, vR zm, .unset, .unset, .unset, .unset, .unset, .unset] [(.ref r0)]))
 refine own_virtual go X0 hx hZ e0 hown (wd hw 41 rfl) (wd hw 42 rfl) (notFace_of_selects (args := #[]) (mvT hZ (wd hw 44 rfl))) (wd hw 44 rfl) (wd hw 43 rfl) (wd hw 3 rfl) (wd hw 45 rfl) (by decide) (rm_pk5z l Z a0 hw r0 r1 il zu za zm zt pos pn dn sz g t w cn h0 n0 Z0 E0 Fp Fi Fl Fd A B n10 n20 n12 hpos hdp Szu Sza Szm Szt nut nat nmt hd hpw) 0 (by decide) (by decide) (by decide) (by decide) E0 (g := (mkF m 1 #[vR r0, vR zm, .unset, .unset, .unset, .unset, .unset, .unset] [(.ref r0)])) rfl (by rw [hml]; rfl) [] [] rfl (lenOf pd_2 rfl) rfl (by show 2 * 0 + _ ≤ _; exact Nat.le_of_eq rfl) (hb hby d5_1) ?_
 intro T198 L198 v198 X198 q198
 obtain ⟨rfl, N198, hh198⟩ := q198
 obtain ⟨lc198, X198h, N198h⟩ := own_hide X198 (Fr.app N0 N198)
 show G (T198.setTop (mkF m 4 #[vR r0, vR zm, .unset, .unset, .unset, .unset, .unset, .unset] [(.ref zm)]))
 refine go _ _ (fun _ k => XS.astoreN X198h.here hx rfl (hb hby d5_4) rfl rfl (l' := #[vR r0, vR zm, vR zm, .unset, .unset, .unset, .unset, .unset]) rfl k) ?_
 show G (T198.setTop (mkF m 5 #[vR r0, vR zm, vR zm, .unset, .unset, .unset, .unset, .unset] []))
 refine go _ _ (fun _ k => XS.aloadN X198h.here hx rfl (hb hby d5_5) rfl rfl  k) ?_
 show G (T198.setTop (mkF m 6 #[vR r0, vR zm, vR zm, .unset, .unset, .unset, .unset, .unset] [(.ref zm)]))
 refine go _ _ (fun _ k => XS.aloadN X198h.here hx rfl (hb hby d5_6) rfl rfl  k) ?_
 show G (T198.setTop (mkF m 7 #[vR r0, vR zm, vR zm, .unset, .unset, .unset, .unset, .unset] [(.ref zm), (.ref zm)]))
 refine go _ _ (fun _ k => Jvm.RoadKit.acmp (g := (mkF m 7 #[vR r0, vR zm, vR zm, .unset, .unset, .unset, .unset, .unset] [(.ref zm), (.ref zm)])) X198h hx rfl (x := (.ref zm)) (y := (.ref zm)) rfl rfl (rest := []) (pc0 := 7) (pc' := 35) (same := true) rfl (hb hby d5_7) rfl (decide_eq_true rfl) (by decide) (by decide) k) ?_
 show G (T198.setTop (mkF m 35 #[vR r0, vR zm, vR zm, .unset, .unset, .unset, .unset, .unset] []))
 refine go _ _ (fun _ k => XS.aloadN X198h.here hx rfl (hb hby d5_35) rfl rfl  k) ?_
 show G (T198.setTop (mkF m 36 #[vR r0, vR zm, vR zm, .unset, .unset, .unset, .unset, .unset] [(.ref r0)]))
 obtain ⟨T199, X199, e199, st199⟩ := getF X198h hx hZ hown (host := "") (Or.inl (wd hw 13 rfl)) Via.refl hh198 Fi (g := (mkF m 36 #[vR r0, vR zm, vR zm, .unset, .unset, .unset, .unset, .unset] [(.ref r0)])) rfl rfl (hb hby d5_36)
 refine go _ _ st199 ?_
 show G (T199.setTop (mkF m 39 #[vR r0, vR zm, vR zm, .unset, .unset, .unset, .unset, .unset] [(.ref r1)]))
 refine go _ _ (fun _ k => XS.aloadN X199.here hx rfl (hb hby d5_39) rfl rfl  k) ?_
 show G (T199.setTop (mkF m 40 #[vR r0, vR zm, vR zm, .unset, .unset, .unset, .unset, .unset] [(.ref r0), (.ref r1)]))
 obtain ⟨T200, X200, e200, st200⟩ := getF X199 hx hZ hown (host := "") (Or.inl (wd hw 35 rfl)) Via.refl e199 Fp (g := (mkF m 40 #[vR r0, vR zm, vR zm, .unset, .unset, .unset, .unset, .unset] [(.ref r0), (.ref r1)])) rfl rfl (hb hby d5_40)
 refine go _ _ st200 ?_
 show G (T200.setTop (mkF m 43 #[vR r0, vR zm, vR zm, .unset, .unset, .unset, .unset, .unset] [(.int pos), (.ref r1)]))
 refine own_baload go X200 hx hZ e200 pn hpos (by omega) (g := (mkF m 43 #[vR r0, vR zm, vR zm, .unset, .unset, .unset, .unset, .unset] [(.int pos), (.ref r1)])) rfl A rfl (hb hby d5_43) ?_
 show G (T200.setTop (mkF m 44 #[vR r0, vR zm, vR zm, .unset, .unset, .unset, .unset, .unset] [(.int (g pn))]))
 refine go _ _ (fun _ k => XS.bipush X200.here hx rfl (hb hby d5_44) k) ?_
 show G (T200.setTop (mkF m 46 #[vR r0, vR zm, vR zm, .unset, .unset, .unset, .unset, .unset] [(.int (31 : Int32)), (.int (g pn))]))
 refine go _ _ (fun _ k => XS.iand X200.here hx rfl (hb hby d5_46) rfl k) ?_
 show G (T200.setTop (mkF m 47 #[vR r0, vR zm, vR zm, .unset, .unset, .unset, .unset, .unset] [(.int ((g pn) &&& (31 : Int32)))]))
 rcases hd.2 with ⟨rfl, d1, d2⟩ | ⟨rfl, d1, d2, d3⟩
 ·rw [d1]
  show G (T200.setTop (mkF m 47 #[vR r0, vR zm, vR zm, .unset, .unset, .unset, .unset, .unset] [(.int (Int32.ofNat cn))]))
  refine go _ _ (fun _ k => XS.istoreN X200.here hx rfl (hb hby d5_47) rfl (l' := #[vR r0, vR zm, vR zm, vI (Int32.ofNat cn), .unset, .unset, .unset, .unset]) rfl k) ?_
  show G (T200.setTop (mkF m 48 #[vR r0, vR zm, vR zm, vI (Int32.ofNat cn), .unset, .unset, .unset, .unset] []))
  refine go _ _ (fun _ k => XS.iloadN X200.here hx rfl (hb hby d5_48) rfl  k) ?_
  show G (T200.setTop (mkF m 49 #[vR r0, vR zm, vR zm, vI (Int32.ofNat cn), .unset, .unset, .unset, .unset] [(.int (Int32.ofNat cn))]))
  refine go _ _ (fun _ k => XS.bipush X200.here hx rfl (hb hby d5_49) k) ?_
  show G (T200.setTop (mkF m 51 #[vR r0, vR zm, vR zm, vI (Int32.ofNat cn), .unset, .unset, .unset, .unset] [(.int (23 : Int32)), (.int (Int32.ofNat cn))]))
  refine go _ _ (fun _ k => XS.icmpNo X200.here hx rfl (hb hby d5_51) rfl (Free.XT.ii_gt_f (own_lt23 d2)) k) ?_
  show G (T200.setTop (mkF m 54 #[vR r0, vR zm, vR zm, vI (Int32.ofNat cn), .unset, .unset, .unset, .unset] []))
  refine go _ _ (fun _ k => XS.iconst X200.here hx rfl (hb hby d5_54) k) ?_
  show G (T200.setTop (mkF m 55 #[vR r0, vR zm, vR zm, vI (Int32.ofNat cn), .unset, .unset, .unset, .unset] [(.int (0 : Int32))]))
  refine go _ _ (fun _ k => XS.istore X200.here hx rfl (hb hby d5_55) rfl (l' := #[vR r0, vR zm, vR zm, vI (Int32.ofNat cn), vI 0, .unset, .unset, .unset]) rfl k) ?_
  show G (T200.setTop (mkF m 57 #[vR r0, vR zm, vR zm, vI (Int32.ofNat cn), vI 0, .unset, .unset, .unset] []))
  refine go _ _ (fun _ k => XS.goto X200.here hx rfl (pc0 := 57) (pc' := 68) rfl (hb hby d5_57) (by decide) (by decide) k) ?_
  show G (T200.setTop (mkF m 68 #[vR r0, vR zm, vR zm, vI (Int32.ofNat cn), vI 0, .unset, .unset, .unset] []))
  refine go _ _ (fun _ k => XS.iload X200.here hx rfl (hb hby d5_68) rfl  k) ?_
  show G (T200.setTop (mkF m 70 #[vR r0, vR zm, vR zm, vI (Int32.ofNat cn), vI 0, .unset, .unset, .unset] [(.int (0 : Int32))]))
  refine go _ _ (fun _ k => XS.aloadN X200.here hx rfl (hb hby d5_70) rfl rfl  k) ?_
  show G (T200.setTop (mkF m 71 #[vR r0, vR zm, vR zm, vI (Int32.ofNat cn), vI 0, .unset, .unset, .unset] [(.ref r0), (.int (0 : Int32))]))
  refine own_private go X200 hx hZ e200 hown (wd hw 57 rfl) (wd hw 58 rfl) (wd hw 18 rfl) rfl (wd hw 59 rfl) (wd hw 3 rfl) (wd hw 60 rfl) (by decide) (rm_re l Z a0 hw r0 r1 pos g h0 n0 Z0 Fi Fp A) 1 (by decide) (by decide) (by decide) (by decide) E0 (g := (mkF m 71 #[vR r0, vR zm, vR zm, vI (Int32.ofNat cn), vI 0, .unset, .unset, .unset] [(.ref r0), (.int (0 : Int32))])) rfl (by rw [hml]; rfl) [] [(.int (0 : Int32))] rfl (lenOf pd_3 rfl) rfl (by show 2 * 0 + _ ≤ _; exact Nat.le_of_eq rfl) (hb hby d5_71) ?_
  intro T201 L201 v201 X201 q201
  obtain ⟨rfl, N201, hh201⟩ := q201
  obtain ⟨lc201, X201h, N201h⟩ := own_hide X201 (Fr.app N198h N201)
  show G (T201.setTop (mkF m 74 #[vR r0, vR zm, vR zm, vI (Int32.ofNat cn), vI 0, .unset, .unset, .unset] [(.int ((64 : Int32) - pos)), (.int (0 : Int32))]))
  refine go _ _ (fun _ k => XS.icmpYes X201h.here hx rfl (pc0 := 74) (pc' := 94) rfl (hb hby d5_74) rfl (Free.XT.ii_lt_t (own_rem64 0 (kk := 0) rfl hpos (by omega))) (by decide) (by decide) k) ?_
  show G (T201.setTop (mkF m 94 #[vR r0, vR zm, vR zm, vI (Int32.ofNat cn), vI 0, .unset, .unset, .unset] []))
  refine go _ _ (fun _ k => XS.iload X201h.here hx rfl (hb hby d5_94) rfl  k) ?_
  show G (T201.setTop (mkF m 96 #[vR r0, vR zm, vR zm, vI (Int32.ofNat cn), vI 0, .unset, .unset, .unset] [(.int (0 : Int32))]))
  refine go _ _ (fun _ k => XS.ifNo X201h.here hx rfl (hb hby d5_96) rfl (Free.XT.i0_ne_f (by decide)) k) ?_
  show G (T201.setTop (mkF m 99 #[vR r0, vR zm, vR zm, vI (Int32.ofNat cn), vI 0, .unset, .unset, .unset] []))
  refine go _ _ (fun _ k => XS.iloadN X201h.here hx rfl (hb hby d5_99) rfl  k) ?_
  show G (T201.setTop (mkF m 100 #[vR r0, vR zm, vR zm, vI (Int32.ofNat cn), vI 0, .unset, .unset, .unset] [(.int (Int32.ofNat cn))]))
  refine go _ _ (fun _ k => XS.i2l X201h.here hx rfl (hb hby d5_100) rfl k) ?_
  show G (T201.setTop (mkF m 101 #[vR r0, vR zm, vR zm, vI (Int32.ofNat cn), vI 0, .unset, .unset, .unset] [(.long ((Int32.ofNat cn).toInt64))]))
  refine go _ _ (fun _ k => XS.lstore X201h.here hx rfl (hb hby d5_101) rfl (l' := #[vR r0, vR zm, vR zm, vI (Int32.ofNat cn), vI 0, .val (.long ((Int32.ofNat cn).toInt64)), .second, .unset]) rfl k) ?_
  show G (T201.setTop (mkF m 103 #[vR r0, vR zm, vR zm, vI (Int32.ofNat cn), vI 0, .val (.long ((Int32.ofNat cn).toInt64)), .second, .unset] []))
  refine go _ _ (fun _ k => XS.goto X201h.here hx rfl (pc0 := 103) (pc' := 150) rfl (hb hby d5_103) (by decide) (by decide) k) ?_
  show G (T201.setTop (mkF m 150 #[vR r0, vR zm, vR zm, vI (Int32.ofNat cn), vI 0, .val (.long ((Int32.ofNat cn).toInt64)), .second, .unset] []))
  refine go _ _ (fun _ k => XS.aloadN X201h.here hx rfl (hb hby d5_150) rfl rfl  k) ?_
  show G (T201.setTop (mkF m 151 #[vR r0, vR zm, vR zm, vI (Int32.ofNat cn), vI 0, .val (.long ((Int32.ofNat cn).toInt64)), .second, .unset] [(.ref r0)]))
  refine go _ _ (fun _ k => XS.dup X201h.here hx rfl (hb hby d5_151) rfl rfl k) ?_
  show G (T201.setTop (mkF m 152 #[vR r0, vR zm, vR zm, vI (Int32.ofNat cn), vI 0, .val (.long ((Int32.ofNat cn).toInt64)), .second, .unset] [(.ref r0), (.ref r0)]))
  obtain ⟨T202, X202, e202, st202⟩ := getF X201h hx hZ hown (host := "") (Or.inl (wd hw 35 rfl)) Via.refl hh201 Fp (g := (mkF m 152 #[vR r0, vR zm, vR zm, vI (Int32.ofNat cn), vI 0, .val (.long ((Int32.ofNat cn).toInt64)), .second, .unset] [(.ref r0), (.ref r0)])) rfl rfl (hb hby d5_152)
  refine go _ _ st202 ?_
  show G (T202.setTop (mkF m 155 #[vR r0, vR zm, vR zm, vI (Int32.ofNat cn), vI 0, .val (.long ((Int32.ofNat cn).toInt64)), .second, .unset] [(.int pos), (.ref r0)]))
  refine go _ _ (fun _ k => XS.iconst X202.here hx rfl (hb hby d5_155) k) ?_
  show G (T202.setTop (mkF m 156 #[vR r0, vR zm, vR zm, vI (Int32.ofNat cn), vI 0, .val (.long ((Int32.ofNat cn).toInt64)), .second, .unset] [(.int (1 : Int32)), (.int pos), (.ref r0)]))
  refine go _ _ (fun _ k => XS.iload X202.here hx rfl (hb hby d5_156) rfl  k) ?_
  show G (T202.setTop (mkF m 158 #[vR r0, vR zm, vR zm, vI (Int32.ofNat cn), vI 0, .val (.long ((Int32.ofNat cn).toInt64)), .second, .unset] [(.int (0 : Int32)), (.int (1 : Int32)), (.int pos), (.ref r0)]))
  refine go _ _ (fun _ k => XS.iadd X202.here hx rfl (hb hby d5_158) rfl k) ?_
  show G (T202.setTop (mkF m 159 #[vR r0, vR zm, vR zm, vI (Int32.ofNat cn), vI 0, .val (.long ((Int32.ofNat cn).toInt64)), .second, .unset] [(.int ((1 : Int32) + (0 : Int32))), (.int pos), (.ref r0)]))
  refine go _ _ (fun _ k => XS.iadd X202.here hx rfl (hb hby d5_159) rfl k) ?_
  show G (T202.setTop (mkF m 160 #[vR r0, vR zm, vR zm, vI (Int32.ofNat cn), vI 0, .val (.long ((Int32.ofNat cn).toInt64)), .second, .unset] [(.int (pos + ((1 : Int32) + (0 : Int32)))), (.ref r0)]))
  obtain ⟨T203, h203, X203, e203, W203, st203⟩ := putF X202 hx hZ hown (host := "") (Or.inl (wd hw 35 rfl)) Via.refl e202 Fp E0 (Or.inl (wd hw 36 rfl)) (wd hw 2 rfl) (ty := .int) (by decide) rfl rfl (g := (mkF m 160 #[vR r0, vR zm, vR zm, vI (Int32.ofNat cn), vI 0, .val (.long ((Int32.ofNat cn).toInt64)), .second, .unset] [(.int (pos + ((1 : Int32) + (0 : Int32)))), (.ref r0)])) rfl rfl (hb hby d5_160)
  have F203 := Fp.same W203
  have K204 : Keep h0 h203 [r0] := (Keep.refl h0 [r0]).wr W203 (Or.inl (List.mem_of_getElem? (i := 0) rfl))
  obtain ⟨lc203, X203h, N203h⟩ := own_hide X203 (Fr.snoc X203 N201h g_r0)
  have Z205 : n0 ≤ h203.size := Nat.le_trans Z0 (Nat.le_of_eq W203.size.symm)
  refine go _ _ st203 ?_
  show G (T203.setTop (mkF m 163 #[vR r0, vR zm, vR zm, vI (Int32.ofNat cn), vI 0, .val (.long ((Int32.ofNat cn).toInt64)), .second, .unset] []))
  refine go _ _ (fun _ k => XS.aloadN X203h.here hx rfl (hb hby d5_163) rfl rfl  k) ?_
  show G (T203.setTop (mkF m 164 #[vR r0, vR zm, vR zm, vI (Int32.ofNat cn), vI 0, .val (.long ((Int32.ofNat cn).toInt64)), .second, .unset] [(.ref r0)]))
  have f206 := (Fd.other W203 (Or.inr (slot_ne (Or.inl (wd hw 51 rfl)) (Or.inl (wd hw 36 rfl)) (by decide) (t := .int) (t' := .int) (by decide) (by decide))))
  obtain ⟨T207, X207, e207, st207⟩ := getF X203h hx hZ hown (host := "") (Or.inl (wd hw 50 rfl)) Via.refl e203 f206 (g := (mkF m 164 #[vR r0, vR zm, vR zm, vI (Int32.ofNat cn), vI 0, .val (.long ((Int32.ofNat cn).toInt64)), .second, .unset] [(.ref r0)])) rfl rfl (hb hby d5_164)
  refine go _ _ st207 ?_
  show G (T207.setTop (mkF m 167 #[vR r0, vR zm, vR zm, vI (Int32.ofNat cn), vI 0, .val (.long ((Int32.ofNat cn).toInt64)), .second, .unset] [(.int (0 : Int32))]))
  refine go _ _ (fun _ k => XS.ifYes X207.here hx rfl (pc0 := 167) (pc' := 192) rfl (hb hby d5_167) rfl (Free.XT.i0_le_t (by decide)) (by decide) (by decide) k) ?_
  show G (T207.setTop (mkF m 192 #[vR r0, vR zm, vR zm, vI (Int32.ofNat cn), vI 0, .val (.long ((Int32.ofNat cn).toInt64)), .second, .unset] []))
  refine go _ _ (fun _ k => XS.lload X207.here hx rfl (hb hby d5_192) rfl  k) ?_
  show G (T207.setTop (mkF m 194 #[vR r0, vR zm, vR zm, vI (Int32.ofNat cn), vI 0, .val (.long ((Int32.ofNat cn).toInt64)), .second, .unset] [(.long ((Int32.ofNat cn).toInt64))]))
  refine own_retJ rt X207 hx hret (hb hby d5_194) (by decide) (by decide) ?_
  have f208 := (E0.wr W203)
  have f209 := (Fi.other W203 (Or.inr (slot_ne (Or.inr (wd hw 14 rfl)) (Or.inl (wd hw 36 rfl)) (by decide) (t := (.array .byte)) (t' := .int) (by decide) (by decide))))
  have f210 := (Fl.other W203 (Or.inr (slot_ne (Or.inl (wd hw 12 rfl)) (Or.inl (wd hw 36 rfl)) (by decide) (t := (.array .int)) (t' := .int) (by decide) (by decide))))
  have f211 := (B.other W203 n20)
  rw [e207]
  exact ⟨rfl, N203h, K204, _, own_add hpos (by rfl) (by omega), f208, F203, f209, f210, f206, f211⟩
 ·rw [d1]
  show G (T200.setTop (mkF m 47 #[vR r0, vR zm, vR zm, .unset, .unset, .unset, .unset, .unset] [(.int (24 : Int32))]))
  refine go _ _ (fun _ k => XS.istoreN X200.here hx rfl (hb hby d5_47) rfl (l' := #[vR r0, vR zm, vR zm, vI 24, .unset, .unset, .unset, .unset]) rfl k) ?_
  show G (T200.setTop (mkF m 48 #[vR r0, vR zm, vR zm, vI 24, .unset, .unset, .unset, .unset] []))
  refine go _ _ (fun _ k => XS.iloadN X200.here hx rfl (hb hby d5_48) rfl  k) ?_
  show G (T200.setTop (mkF m 49 #[vR r0, vR zm, vR zm, vI 24, .unset, .unset, .unset, .unset] [(.int (24 : Int32))]))
  refine go _ _ (fun _ k => XS.bipush X200.here hx rfl (hb hby d5_49) k) ?_
  show G (T200.setTop (mkF m 51 #[vR r0, vR zm, vR zm, vI 24, .unset, .unset, .unset, .unset] [(.int (23 : Int32)), (.int (24 : Int32))]))
  refine go _ _ (fun _ k => XS.icmpYes X200.here hx rfl (pc0 := 51) (pc' := 60) rfl (hb hby d5_51) rfl (Free.XT.ii_gt_t (by decide)) (by decide) (by decide) k) ?_
  show G (T200.setTop (mkF m 60 #[vR r0, vR zm, vR zm, vI 24, .unset, .unset, .unset, .unset] []))
  refine go _ _ (fun _ k => XS.iconst X200.here hx rfl (hb hby d5_60) k) ?_
  show G (T200.setTop (mkF m 61 #[vR r0, vR zm, vR zm, vI 24, .unset, .unset, .unset, .unset] [(.int (1 : Int32))]))
  refine go _ _ (fun _ k => XS.iloadN X200.here hx rfl (hb hby d5_61) rfl  k) ?_
  show G (T200.setTop (mkF m 62 #[vR r0, vR zm, vR zm, vI 24, .unset, .unset, .unset, .unset] [(.int (24 : Int32)), (.int (1 : Int32))]))
  refine go _ _ (fun _ k => XS.bipush X200.here hx rfl (hb hby d5_62) k) ?_
  show G (T200.setTop (mkF m 64 #[vR r0, vR zm, vR zm, vI 24, .unset, .unset, .unset, .unset] [(.int (24 : Int32)), (.int (24 : Int32)), (.int (1 : Int32))]))
  refine go _ _ (fun _ k => XS.isub X200.here hx rfl (hb hby d5_64) rfl k) ?_
  show G (T200.setTop (mkF m 65 #[vR r0, vR zm, vR zm, vI 24, .unset, .unset, .unset, .unset] [(.int ((24 : Int32) - (24 : Int32))), (.int (1 : Int32))]))
  refine go _ _ (fun _ k => XS.ishl X200.here hx rfl (hb hby d5_65) rfl k) ?_
  show G (T200.setTop (mkF m 66 #[vR r0, vR zm, vR zm, vI 24, .unset, .unset, .unset, .unset] [(.int ((1 : Int32) <<< (((24 : Int32) - (24 : Int32)) &&& 31)))]))
  refine go _ _ (fun _ k => XS.istore X200.here hx rfl (hb hby d5_66) rfl (l' := #[vR r0, vR zm, vR zm, vI 24, vI ((1 : Int32) <<< (((24 : Int32) - (24 : Int32)) &&& 31)), .unset, .unset, .unset]) rfl k) ?_
  show G (T200.setTop (mkF m 68 #[vR r0, vR zm, vR zm, vI 24, vI ((1 : Int32) <<< (((24 : Int32) - (24 : Int32)) &&& 31)), .unset, .unset, .unset] []))
  show G (T200.setTop (mkF m 68 #[vR r0, vR zm, vR zm, vI 24, vI 1, .unset, .unset, .unset] []))
  refine go _ _ (fun _ k => XS.iload X200.here hx rfl (hb hby d5_68) rfl  k) ?_
  show G (T200.setTop (mkF m 70 #[vR r0, vR zm, vR zm, vI 24, vI 1, .unset, .unset, .unset] [(.int (1 : Int32))]))
  refine go _ _ (fun _ k => XS.aloadN X200.here hx rfl (hb hby d5_70) rfl rfl  k) ?_
  show G (T200.setTop (mkF m 71 #[vR r0, vR zm, vR zm, vI 24, vI 1, .unset, .unset, .unset] [(.ref r0), (.int (1 : Int32))]))
  refine own_private go X200 hx hZ e200 hown (wd hw 57 rfl) (wd hw 58 rfl) (wd hw 18 rfl) rfl (wd hw 59 rfl) (wd hw 3 rfl) (wd hw 60 rfl) (by decide) (rm_re l Z a0 hw r0 r1 pos g h0 n0 Z0 Fi Fp A) 1 (by decide) (by decide) (by decide) (by decide) E0 (g := (mkF m 71 #[vR r0, vR zm, vR zm, vI 24, vI 1, .unset, .unset, .unset] [(.ref r0), (.int (1 : Int32))])) rfl (by rw [hml]; rfl) [] [(.int (1 : Int32))] rfl (lenOf pd_3 rfl) rfl (by show 2 * 0 + _ ≤ _; exact Nat.le_of_eq rfl) (hb hby d5_71) ?_
  intro T212 L212 v212 X212 q212
  obtain ⟨rfl, N212, hh212⟩ := q212
  obtain ⟨lc212, X212h, N212h⟩ := own_hide X212 (Fr.app N198h N212)
  show G (T212.setTop (mkF m 74 #[vR r0, vR zm, vR zm, vI 24, vI 1, .unset, .unset, .unset] [(.int ((64 : Int32) - pos)), (.int (1 : Int32))]))
  refine go _ _ (fun _ k => XS.icmpYes X212h.here hx rfl (pc0 := 74) (pc' := 94) rfl (hb hby d5_74) rfl (Free.XT.ii_lt_t (own_rem64 1 (kk := 1) rfl hpos (by omega))) (by decide) (by decide) k) ?_
  show G (T212.setTop (mkF m 94 #[vR r0, vR zm, vR zm, vI 24, vI 1, .unset, .unset, .unset] []))
  refine go _ _ (fun _ k => XS.iload X212h.here hx rfl (hb hby d5_94) rfl  k) ?_
  show G (T212.setTop (mkF m 96 #[vR r0, vR zm, vR zm, vI 24, vI 1, .unset, .unset, .unset] [(.int (1 : Int32))]))
  refine go _ _ (fun _ k => XS.ifYes X212h.here hx rfl (pc0 := 96) (pc' := 106) rfl (hb hby d5_96) rfl (Free.XT.i0_ne_t (by decide)) (by decide) (by decide) k) ?_
  show G (T212.setTop (mkF m 106 #[vR r0, vR zm, vR zm, vI 24, vI 1, .unset, .unset, .unset] []))
  refine go _ _ (fun _ k => XS.lconst X212h.here hx rfl (hb hby d5_106) k) ?_
  show G (T212.setTop (mkF m 107 #[vR r0, vR zm, vR zm, vI 24, vI 1, .unset, .unset, .unset] [(.long (0 : Int64))]))
  refine go _ _ (fun _ k => XS.lstore X212h.here hx rfl (hb hby d5_107) rfl (l' := #[vR r0, vR zm, vR zm, vI 24, vI 1, .val (.long (0 : Int64)), .second, .unset]) rfl k) ?_
  show G (T212.setTop (mkF m 109 #[vR r0, vR zm, vR zm, vI 24, vI 1, .val (.long (0 : Int64)), .second, .unset] []))
  refine go _ _ (fun _ k => XS.iconst X212h.here hx rfl (hb hby d5_109) k) ?_
  show G (T212.setTop (mkF m 110 #[vR r0, vR zm, vR zm, vI 24, vI 1, .val (.long (0 : Int64)), .second, .unset] [(.int (1 : Int32))]))
  refine go _ _ (fun _ k => XS.istore X212h.here hx rfl (hb hby d5_110) rfl (l' := #[vR r0, vR zm, vR zm, vI 24, vI 1, .val (.long (0 : Int64)), .second, vI 1]) rfl k) ?_
  show G (T212.setTop (mkF m 112 #[vR r0, vR zm, vR zm, vI 24, vI 1, .val (.long (0 : Int64)), .second, vI 1] []))
  refine go _ _ (fun _ k => XS.iload X212h.here hx rfl (hb hby d5_112) rfl  k) ?_
  show G (T212.setTop (mkF m 114 #[vR r0, vR zm, vR zm, vI 24, vI 1, .val (.long (0 : Int64)), .second, vI 1] [(.int (1 : Int32))]))
  refine go _ _ (fun _ k => XS.iload X212h.here hx rfl (hb hby d5_114) rfl  k) ?_
  show G (T212.setTop (mkF m 116 #[vR r0, vR zm, vR zm, vI 24, vI 1, .val (.long (0 : Int64)), .second, vI 1] [(.int (1 : Int32)), (.int (1 : Int32))]))
  refine go _ _ (fun _ k => XS.icmpNo X212h.here hx rfl (hb hby d5_116) rfl (Free.XT.ii_gt_f (by decide)) k) ?_
  show G (T212.setTop (mkF m 119 #[vR r0, vR zm, vR zm, vI 24, vI 1, .val (.long (0 : Int64)), .second, vI 1] []))
  refine go _ _ (fun _ k => XS.lload X212h.here hx rfl (hb hby d5_119) rfl  k) ?_
  show G (T212.setTop (mkF m 121 #[vR r0, vR zm, vR zm, vI 24, vI 1, .val (.long (0 : Int64)), .second, vI 1] [(.long (0 : Int64))]))
  refine go _ _ (fun _ k => XS.bipush X212h.here hx rfl (hb hby d5_121) k) ?_
  show G (T212.setTop (mkF m 123 #[vR r0, vR zm, vR zm, vI 24, vI 1, .val (.long (0 : Int64)), .second, vI 1] [(.int (8 : Int32)), (.long (0 : Int64))]))
  refine go _ _ (fun _ k => XS.lshl X212h.here hx rfl (hb hby d5_123) rfl k) ?_
  show G (T212.setTop (mkF m 124 #[vR r0, vR zm, vR zm, vI 24, vI 1, .val (.long (0 : Int64)), .second, vI 1] [(.long ((0 : Int64) <<< ((8 : Int32) &&& 0x3f).toInt64))]))
  refine go _ _ (fun _ k => XS.aloadN X212h.here hx rfl (hb hby d5_124) rfl rfl  k) ?_
  show G (T212.setTop (mkF m 125 #[vR r0, vR zm, vR zm, vI 24, vI 1, .val (.long (0 : Int64)), .second, vI 1] [(.ref r0), (.long ((0 : Int64) <<< ((8 : Int32) &&& 0x3f).toInt64))]))
  obtain ⟨T213, X213, e213, st213⟩ := getF X212h hx hZ hown (host := "") (Or.inl (wd hw 13 rfl)) Via.refl hh212 Fi (g := (mkF m 125 #[vR r0, vR zm, vR zm, vI 24, vI 1, .val (.long (0 : Int64)), .second, vI 1] [(.ref r0), (.long ((0 : Int64) <<< ((8 : Int32) &&& 0x3f).toInt64))])) rfl rfl (hb hby d5_125)
  refine go _ _ st213 ?_
  show G (T213.setTop (mkF m 128 #[vR r0, vR zm, vR zm, vI 24, vI 1, .val (.long (0 : Int64)), .second, vI 1] [(.ref r1), (.long ((0 : Int64) <<< ((8 : Int32) &&& 0x3f).toInt64))]))
  refine go _ _ (fun _ k => XS.aloadN X213.here hx rfl (hb hby d5_128) rfl rfl  k) ?_
  show G (T213.setTop (mkF m 129 #[vR r0, vR zm, vR zm, vI 24, vI 1, .val (.long (0 : Int64)), .second, vI 1] [(.ref r0), (.ref r1), (.long ((0 : Int64) <<< ((8 : Int32) &&& 0x3f).toInt64))]))
  obtain ⟨T214, X214, e214, st214⟩ := getF X213 hx hZ hown (host := "") (Or.inl (wd hw 35 rfl)) Via.refl e213 Fp (g := (mkF m 129 #[vR r0, vR zm, vR zm, vI 24, vI 1, .val (.long (0 : Int64)), .second, vI 1] [(.ref r0), (.ref r1), (.long ((0 : Int64) <<< ((8 : Int32) &&& 0x3f).toInt64))])) rfl rfl (hb hby d5_129)
  refine go _ _ st214 ?_
  show G (T214.setTop (mkF m 132 #[vR r0, vR zm, vR zm, vI 24, vI 1, .val (.long (0 : Int64)), .second, vI 1] [(.int pos), (.ref r1), (.long ((0 : Int64) <<< ((8 : Int32) &&& 0x3f).toInt64))]))
  refine go _ _ (fun _ k => XS.iload X214.here hx rfl (hb hby d5_132) rfl  k) ?_
  show G (T214.setTop (mkF m 134 #[vR r0, vR zm, vR zm, vI 24, vI 1, .val (.long (0 : Int64)), .second, vI 1] [(.int (1 : Int32)), (.int pos), (.ref r1), (.long ((0 : Int64) <<< ((8 : Int32) &&& 0x3f).toInt64))]))
  refine go _ _ (fun _ k => XS.iadd X214.here hx rfl (hb hby d5_134) rfl k) ?_
  show G (T214.setTop (mkF m 135 #[vR r0, vR zm, vR zm, vI 24, vI 1, .val (.long (0 : Int64)), .second, vI 1] [(.int (pos + (1 : Int32))), (.ref r1), (.long ((0 : Int64) <<< ((8 : Int32) &&& 0x3f).toInt64))]))
  refine own_baload go X214 hx hZ e214 (pn + 1) (own_add hpos (by rfl) (by omega)) (by omega) (g := (mkF m 135 #[vR r0, vR zm, vR zm, vI 24, vI 1, .val (.long (0 : Int64)), .second, vI 1] [(.int (pos + (1 : Int32))), (.ref r1), (.long ((0 : Int64) <<< ((8 : Int32) &&& 0x3f).toInt64))])) rfl A rfl (hb hby d5_135) ?_
  show G (T214.setTop (mkF m 136 #[vR r0, vR zm, vR zm, vI 24, vI 1, .val (.long (0 : Int64)), .second, vI 1] [(.int (g (pn + 1))), (.long ((0 : Int64) <<< ((8 : Int32) &&& 0x3f).toInt64))]))
  refine go _ _ (fun _ k => XS.sipush X214.here hx rfl (hb hby d5_136) k) ?_
  show G (T214.setTop (mkF m 139 #[vR r0, vR zm, vR zm, vI 24, vI 1, .val (.long (0 : Int64)), .second, vI 1] [(.int (255 : Int32)), (.int (g (pn + 1))), (.long ((0 : Int64) <<< ((8 : Int32) &&& 0x3f).toInt64))]))
  refine go _ _ (fun _ k => XS.iand X214.here hx rfl (hb hby d5_139) rfl k) ?_
  show G (T214.setTop (mkF m 140 #[vR r0, vR zm, vR zm, vI 24, vI 1, .val (.long (0 : Int64)), .second, vI 1] [(.int ((g (pn + 1)) &&& (255 : Int32))), (.long ((0 : Int64) <<< ((8 : Int32) &&& 0x3f).toInt64))]))
  refine go _ _ (fun _ k => XS.i2l X214.here hx rfl (hb hby d5_140) rfl k) ?_
  show G (T214.setTop (mkF m 141 #[vR r0, vR zm, vR zm, vI 24, vI 1, .val (.long (0 : Int64)), .second, vI 1] [(.long (((g (pn + 1)) &&& (255 : Int32)).toInt64)), (.long ((0 : Int64) <<< ((8 : Int32) &&& 0x3f).toInt64))]))
  refine go _ _ (fun _ k => XS.lor X214.here hx rfl (hb hby d5_141) rfl k) ?_
  show G (T214.setTop (mkF m 142 #[vR r0, vR zm, vR zm, vI 24, vI 1, .val (.long (0 : Int64)), .second, vI 1] [(.long (((0 : Int64) <<< ((8 : Int32) &&& 0x3f).toInt64) ||| (((g (pn + 1)) &&& (255 : Int32)).toInt64)))]))
  rw [d2, own_or0]
  show G (T214.setTop (mkF m 142 #[vR r0, vR zm, vR zm, vI 24, vI 1, .val (.long (0 : Int64)), .second, vI 1] [(.long ((Int32.ofNat cn).toInt64))]))
  refine go _ _ (fun _ k => XS.lstore X214.here hx rfl (hb hby d5_142) rfl (l' := #[vR r0, vR zm, vR zm, vI 24, vI 1, .val (.long ((Int32.ofNat cn).toInt64)), .second, vI 1]) rfl k) ?_
  show G (T214.setTop (mkF m 144 #[vR r0, vR zm, vR zm, vI 24, vI 1, .val (.long ((Int32.ofNat cn).toInt64)), .second, vI 1] []))
  refine go _ _ (fun _ k => XS.iinc X214.here hx rfl (hb hby d5_144) rfl (l' := #[vR r0, vR zm, vR zm, vI 24, vI 1, .val (.long ((Int32.ofNat cn).toInt64)), .second, vI ((1 : Int32) + (1 : Int32))]) rfl k) ?_
  show G (T214.setTop (mkF m 147 #[vR r0, vR zm, vR zm, vI 24, vI 1, .val (.long ((Int32.ofNat cn).toInt64)), .second, vI ((1 : Int32) + (1 : Int32))] []))
  refine go _ _ (fun _ k => XS.goto X214.here hx rfl (pc0 := 147) (pc' := 112) rfl (hb hby d5_147) (by decide) (by decide) k) ?_
  show G (T214.setTop (mkF m 112 #[vR r0, vR zm, vR zm, vI 24, vI 1, .val (.long ((Int32.ofNat cn).toInt64)), .second, vI ((1 : Int32) + (1 : Int32))] []))
  show G (T214.setTop (mkF m 112 #[vR r0, vR zm, vR zm, vI 24, vI 1, .val (.long ((Int32.ofNat cn).toInt64)), .second, vI 2] []))
  refine go _ _ (fun _ k => XS.iload X214.here hx rfl (hb hby d5_112) rfl  k) ?_
  show G (T214.setTop (mkF m 114 #[vR r0, vR zm, vR zm, vI 24, vI 1, .val (.long ((Int32.ofNat cn).toInt64)), .second, vI 2] [(.int (2 : Int32))]))
  refine go _ _ (fun _ k => XS.iload X214.here hx rfl (hb hby d5_114) rfl  k) ?_
  show G (T214.setTop (mkF m 116 #[vR r0, vR zm, vR zm, vI 24, vI 1, .val (.long ((Int32.ofNat cn).toInt64)), .second, vI 2] [(.int (1 : Int32)), (.int (2 : Int32))]))
  refine go _ _ (fun _ k => XS.icmpYes X214.here hx rfl (pc0 := 116) (pc' := 150) rfl (hb hby d5_116) rfl (Free.XT.ii_gt_t (by decide)) (by decide) (by decide) k) ?_
  show G (T214.setTop (mkF m 150 #[vR r0, vR zm, vR zm, vI 24, vI 1, .val (.long ((Int32.ofNat cn).toInt64)), .second, vI 2] []))
  refine go _ _ (fun _ k => XS.aloadN X214.here hx rfl (hb hby d5_150) rfl rfl  k) ?_
  show G (T214.setTop (mkF m 151 #[vR r0, vR zm, vR zm, vI 24, vI 1, .val (.long ((Int32.ofNat cn).toInt64)), .second, vI 2] [(.ref r0)]))
  refine go _ _ (fun _ k => XS.dup X214.here hx rfl (hb hby d5_151) rfl rfl k) ?_
  show G (T214.setTop (mkF m 152 #[vR r0, vR zm, vR zm, vI 24, vI 1, .val (.long ((Int32.ofNat cn).toInt64)), .second, vI 2] [(.ref r0), (.ref r0)]))
  obtain ⟨T215, X215, e215, st215⟩ := getF X214 hx hZ hown (host := "") (Or.inl (wd hw 35 rfl)) Via.refl e214 Fp (g := (mkF m 152 #[vR r0, vR zm, vR zm, vI 24, vI 1, .val (.long ((Int32.ofNat cn).toInt64)), .second, vI 2] [(.ref r0), (.ref r0)])) rfl rfl (hb hby d5_152)
  refine go _ _ st215 ?_
  show G (T215.setTop (mkF m 155 #[vR r0, vR zm, vR zm, vI 24, vI 1, .val (.long ((Int32.ofNat cn).toInt64)), .second, vI 2] [(.int pos), (.ref r0)]))
  refine go _ _ (fun _ k => XS.iconst X215.here hx rfl (hb hby d5_155) k) ?_
  show G (T215.setTop (mkF m 156 #[vR r0, vR zm, vR zm, vI 24, vI 1, .val (.long ((Int32.ofNat cn).toInt64)), .second, vI 2] [(.int (1 : Int32)), (.int pos), (.ref r0)]))
  refine go _ _ (fun _ k => XS.iload X215.here hx rfl (hb hby d5_156) rfl  k) ?_
  show G (T215.setTop (mkF m 158 #[vR r0, vR zm, vR zm, vI 24, vI 1, .val (.long ((Int32.ofNat cn).toInt64)), .second, vI 2] [(.int (1 : Int32)), (.int (1 : Int32)), (.int pos), (.ref r0)]))
  refine go _ _ (fun _ k => XS.iadd X215.here hx rfl (hb hby d5_158) rfl k) ?_
  show G (T215.setTop (mkF m 159 #[vR r0, vR zm, vR zm, vI 24, vI 1, .val (.long ((Int32.ofNat cn).toInt64)), .second, vI 2] [(.int ((1 : Int32) + (1 : Int32))), (.int pos), (.ref r0)]))
  refine go _ _ (fun _ k => XS.iadd X215.here hx rfl (hb hby d5_159) rfl k) ?_
  show G (T215.setTop (mkF m 160 #[vR r0, vR zm, vR zm, vI 24, vI 1, .val (.long ((Int32.ofNat cn).toInt64)), .second, vI 2] [(.int (pos + ((1 : Int32) + (1 : Int32)))), (.ref r0)]))
  obtain ⟨T216, h216, X216, e216, W216, st216⟩ := putF X215 hx hZ hown (host := "") (Or.inl (wd hw 35 rfl)) Via.refl e215 Fp E0 (Or.inl (wd hw 36 rfl)) (wd hw 2 rfl) (ty := .int) (by decide) rfl rfl (g := (mkF m 160 #[vR r0, vR zm, vR zm, vI 24, vI 1, .val (.long ((Int32.ofNat cn).toInt64)), .second, vI 2] [(.int (pos + ((1 : Int32) + (1 : Int32)))), (.ref r0)])) rfl rfl (hb hby d5_160)
  have F216 := Fp.same W216
  have K217 : Keep h0 h216 [r0] := (Keep.refl h0 [r0]).wr W216 (Or.inl (List.mem_of_getElem? (i := 0) rfl))
  obtain ⟨lc216, X216h, N216h⟩ := own_hide X216 (Fr.snoc X216 N212h g_r0)
  have Z218 : n0 ≤ h216.size := Nat.le_trans Z0 (Nat.le_of_eq W216.size.symm)
  refine go _ _ st216 ?_
  show G (T216.setTop (mkF m 163 #[vR r0, vR zm, vR zm, vI 24, vI 1, .val (.long ((Int32.ofNat cn).toInt64)), .second, vI 2] []))
  refine go _ _ (fun _ k => XS.aloadN X216h.here hx rfl (hb hby d5_163) rfl rfl  k) ?_
  show G (T216.setTop (mkF m 164 #[vR r0, vR zm, vR zm, vI 24, vI 1, .val (.long ((Int32.ofNat cn).toInt64)), .second, vI 2] [(.ref r0)]))
  have f219 := (Fd.other W216 (Or.inr (slot_ne (Or.inl (wd hw 51 rfl)) (Or.inl (wd hw 36 rfl)) (by decide) (t := .int) (t' := .int) (by decide) (by decide))))
  obtain ⟨T220, X220, e220, st220⟩ := getF X216h hx hZ hown (host := "") (Or.inl (wd hw 50 rfl)) Via.refl e216 f219 (g := (mkF m 164 #[vR r0, vR zm, vR zm, vI 24, vI 1, .val (.long ((Int32.ofNat cn).toInt64)), .second, vI 2] [(.ref r0)])) rfl rfl (hb hby d5_164)
  refine go _ _ st220 ?_
  show G (T220.setTop (mkF m 167 #[vR r0, vR zm, vR zm, vI 24, vI 1, .val (.long ((Int32.ofNat cn).toInt64)), .second, vI 2] [(.int (0 : Int32))]))
  refine go _ _ (fun _ k => XS.ifYes X220.here hx rfl (pc0 := 167) (pc' := 192) rfl (hb hby d5_167) rfl (Free.XT.i0_le_t (by decide)) (by decide) (by decide) k) ?_
  show G (T220.setTop (mkF m 192 #[vR r0, vR zm, vR zm, vI 24, vI 1, .val (.long ((Int32.ofNat cn).toInt64)), .second, vI 2] []))
  refine go _ _ (fun _ k => XS.lload X220.here hx rfl (hb hby d5_192) rfl  k) ?_
  show G (T220.setTop (mkF m 194 #[vR r0, vR zm, vR zm, vI 24, vI 1, .val (.long ((Int32.ofNat cn).toInt64)), .second, vI 2] [(.long ((Int32.ofNat cn).toInt64))]))
  refine own_retJ rt X220 hx hret (hb hby d5_194) (by decide) (by decide) ?_
  have f221 := (E0.wr W216)
  have f222 := (Fi.other W216 (Or.inr (slot_ne (Or.inr (wd hw 14 rfl)) (Or.inl (wd hw 36 rfl)) (by decide) (t := (.array .byte)) (t' := .int) (by decide) (by decide))))
  have f223 := (Fl.other W216 (Or.inr (slot_ne (Or.inl (wd hw 12 rfl)) (Or.inl (wd hw 36 rfl)) (by decide) (t := (.array .int)) (t' := .int) (by decide) (by decide))))
  have f224 := (B.other W216 n20)
  rw [e220]
  exact ⟨rfl, N216h, K217, _, own_add hpos (by rfl) (by omega), f221, F216, f222, f223, f219, f224⟩
theorem ef_rm_pk5d (m : MethodId) (x0 : Addr) : entryFrame m #[(.ref x0)] 4 = mkF m 0 #[.val (.ref x0), .unset, .unset, .unset] [] := by first | (simp [entryFrame, mkF, argsToLocals, Value.category]; done) | rfl
set_option maxRecDepth 65536 in
set_option maxHeartbeats 40000000 in
theorem rm_pk5d (l : Launch) (Z : State) (a0 : Array Value) (hw : ∀ d ∈ tables_1, d.before a0 Z = true) (r0 r1 il zu za zm zt : Addr) (pos dp : Int32) (pn dn sz : Nat) (g t : Nat → Int32) (w cn : Nat) (h0 : Heap) (n0 : Nat) (Z0 : n0 ≤ h0.size) (E0 : Exa Z h0 r0 "com/example/brevidns/brevidns/CborReader") (Fp : Fld Z h0 r0 "com/example/brevidns/brevidns/CborReader" "position" "I" (.int pos)) (Fi : Fld Z h0 r0 "com/example/brevidns/brevidns/CborReader" "input" "[B" (.ref r1)) (Fl : Fld Z h0 r0 "com/example/brevidns/brevidns/CborReader" "itemsLeft" "[I" (.ref il)) (Fd : Fld Z h0 r0 "com/example/brevidns/brevidns/CborReader" "depth" "I" (.int dp)) (A : Ary Z h0 r1 .byte 64 (fun i => .int (g i))) (B : Ary Z h0 il .int sz (fun i => .int (t i))) (n10 : r1 ≠ r0) (n20 : il ≠ r0) (n12 : r1 ≠ il) (hpos : pos.toInt = pn) (hdp : dp.toInt = dn) (Szu : Sta Z h0 "com/example/brevidns/brevidns/CborReader$Kind" "UNSIGNED_INTEGER" "Lcom/example/brevidns/brevidns/CborReader$Kind;" (.ref zu)) (Sza : Sta Z h0 "com/example/brevidns/brevidns/CborReader$Kind" "ARRAY" "Lcom/example/brevidns/brevidns/CborReader$Kind;" (.ref za)) (Szm : Sta Z h0 "com/example/brevidns/brevidns/CborReader$Kind" "MAP" "Lcom/example/brevidns/brevidns/CborReader$Kind;" (.ref zm)) (Szt : Sta Z h0 "com/example/brevidns/brevidns/CborReader$Kind" "TAG" "Lcom/example/brevidns/brevidns/CborReader$Kind;" (.ref zt)) (nut : zu ≠ zt) (nat : za ≠ zt) (nmt : zm ≠ zt) (hd : Head g 5 pn w cn) (hpw : pn + w ≤ 63) (hd1 : 1 ≤ dn) (hds : dn ≤ sz) (hs8 : sz ≤ 8) (ht : ¬ t (dn - 1) = 0) :
  Con l Z (⟨"com/example/brevidns/brevidns/CborReader", "peek", "()Lcom/example/brevidns/brevidns/CborReader$Kind;"⟩ : MethodName) prog_3_method_4_code 4 (some (.object "com/example/brevidns/brevidns/CborReader$Kind")) ({ frames := 1, cells := 0, slots := 0, locals := 12 } : Room) #[(.ref r0)] h0 (fun v h L => v = some (.ref zm) ∧ Fr n0 L ∧ h = h0) := by
 refine own_body pn_6 ?_
 intro p e s m below meth c s₁ hx hby hml hown hnm hret hZ e0 X0 G go rt
 have N0 := Fr.nil n0
 rw [ef_rm_pk5d m r0]
 have hww : w = 1 ∨ w = 2 := hd.ww
 have hrg := hd.rng
 have x2 := own_x31 (g pn)
 have x3 := hd.1
 show G (s₁.setTop (mkF m 0 #[vR r0, .unset, .unset, .unset] []))
 refine go _ _ (fun _ k => XS.aloadN X0.here hx rfl (hb hby d6_0) rfl rfl  k) ?_
 show G (s₁.setTop (mkF m 1 #[vR r0, .unset, .unset, .unset] [(.ref r0)]))
 refine own_private go X0 hx hZ e0 hown (wd hw 46 rfl) (wd hw 47 rfl) (wd hw 18 rfl) rfl (wd hw 48 rfl) (wd hw 3 rfl) (wd hw 49 rfl) (by decide) (rm_chd l Z a0 hw r0 il dp dn sz t h0 n0 Z0 Fl Fd B hdp hd1 hds hs8 ht) 0 (by decide) (by decide) (by decide) (by decide) E0 (g := (mkF m 1 #[vR r0, .unset, .unset, .unset] [(.ref r0)])) rfl (by rw [hml]; rfl) [] [] rfl (lenOf pd_0 rfl) rfl (by show 2 * 0 + _ ≤ _; exact Nat.le_of_eq rfl) (hb hby d6_1) ?_
 intro T225 L225 v225 X225 q225
 obtain ⟨rfl, N225, hh225⟩ := q225
 obtain ⟨lc225, X225h, N225h⟩ := own_hide X225 (Fr.app N0 N225)
 show G (T225.setTop (mkF m 4 #[vR r0, .unset, .unset, .unset] []))
 refine go _ _ (fun _ k => XS.aloadN X225h.here hx rfl (hb hby d6_4) rfl rfl  k) ?_
 show G (T225.setTop (mkF m 5 #[vR r0, .unset, .unset, .unset] [(.ref r0)]))
 refine own_virtual go X225h hx hZ hh225 hown (wd hw 52 rfl) (wd hw 53 rfl) (notFace_of_selects (args := #[]) (mvT hZ (wd hw 55 rfl))) (wd hw 55 rfl) (wd hw 54 rfl) (wd hw 3 rfl) (wd hw 56 rfl) (by decide) (rm_ae l Z a0 hw r0 r1 pos pn g h0 n0 Z0 Fi Fp A hpos (by omega)) 0 (by decide) (by decide) (by decide) (by decide) E0 (g := (mkF m 5 #[vR r0, .unset, .unset, .unset] [(.ref r0)])) rfl (by rw [hml]; rfl) [] [] rfl (lenOf pd_1 rfl) rfl (by show 2 * 0 + _ ≤ _; exact Nat.le_of_eq rfl) (hb hby d6_5) ?_
 intro T226 L226 v226 X226 q226
 obtain ⟨rfl, N226, hh226⟩ := q226
 obtain ⟨lc226, X226h, N226h⟩ := own_hide X226 (Fr.app N225h N226)
 show G (T226.setTop (mkF m 8 #[vR r0, .unset, .unset, .unset] [(.int (0 : Int32))]))
 refine go _ _ (fun _ k => XS.ifYes X226h.here hx rfl (pc0 := 8) (pc' := 21) rfl (hb hby d6_8) rfl (Free.XT.i0_eq_t (by decide)) (by decide) (by decide) k) ?_
 show G (T226.setTop (mkF m 21 #[vR r0, .unset, .unset, .unset] []))
 refine go _ _ (fun _ k => XS.aloadN X226h.here hx rfl (hb hby d6_21) rfl rfl  k) ?_
 show G (T226.setTop (mkF m 22 #[vR r0, .unset, .unset, .unset] [(.ref r0)]))
 obtain ⟨T227, X227, e227, st227⟩ := getF X226h hx hZ hown (host := "") (Or.inl (wd hw 13 rfl)) Via.refl hh226 Fi (g := (mkF m 22 #[vR r0, .unset, .unset, .unset] [(.ref r0)])) rfl rfl (hb hby d6_22)
 refine go _ _ st227 ?_
 show G (T227.setTop (mkF m 25 #[vR r0, .unset, .unset, .unset] [(.ref r1)]))
 refine go _ _ (fun _ k => XS.aloadN X227.here hx rfl (hb hby d6_25) rfl rfl  k) ?_
 show G (T227.setTop (mkF m 26 #[vR r0, .unset, .unset, .unset] [(.ref r0), (.ref r1)]))
 obtain ⟨T228, X228, e228, st228⟩ := getF X227 hx hZ hown (host := "") (Or.inl (wd hw 35 rfl)) Via.refl e227 Fp (g := (mkF m 26 #[vR r0, .unset, .unset, .unset] [(.ref r0), (.ref r1)])) rfl rfl (hb hby d6_26)
 refine go _ _ st228 ?_
 show G (T228.setTop (mkF m 29 #[vR r0, .unset, .unset, .unset] [(.int pos), (.ref r1)]))
 refine own_baload go X228 hx hZ e228 pn hpos (by omega) (g := (mkF m 29 #[vR r0, .unset, .unset, .unset] [(.int pos), (.ref r1)])) rfl A rfl (hb hby d6_29) ?_
 show G (T228.setTop (mkF m 30 #[vR r0, .unset, .unset, .unset] [(.int (g pn))]))
 refine go _ _ (fun _ k => XS.sipush X228.here hx rfl (hb hby d6_30) k) ?_
 show G (T228.setTop (mkF m 33 #[vR r0, .unset, .unset, .unset] [(.int (255 : Int32)), (.int (g pn))]))
 refine go _ _ (fun _ k => XS.iand X228.here hx rfl (hb hby d6_33) rfl k) ?_
 show G (T228.setTop (mkF m 34 #[vR r0, .unset, .unset, .unset] [(.int ((g pn) &&& (255 : Int32)))]))
 refine go _ _ (fun _ k => XS.istoreN X228.here hx rfl (hb hby d6_34) rfl (l' := #[vR r0, vI ((g pn) &&& (255 : Int32)), .unset, .unset]) rfl k) ?_
 show G (T228.setTop (mkF m 35 #[vR r0, vI ((g pn) &&& (255 : Int32)), .unset, .unset] []))
 refine go _ _ (fun _ k => XS.iloadN X228.here hx rfl (hb hby d6_35) rfl  k) ?_
 show G (T228.setTop (mkF m 36 #[vR r0, vI ((g pn) &&& (255 : Int32)), .unset, .unset] [(.int ((g pn) &&& (255 : Int32)))]))
 refine go _ _ (fun _ k => XS.bipush X228.here hx rfl (hb hby d6_36) k) ?_
 show G (T228.setTop (mkF m 38 #[vR r0, vI ((g pn) &&& (255 : Int32)), .unset, .unset] [(.int (31 : Int32)), (.int ((g pn) &&& (255 : Int32)))]))
 refine go _ _ (fun _ k => XS.iand X228.here hx rfl (hb hby d6_38) rfl k) ?_
 show G (T228.setTop (mkF m 39 #[vR r0, vI ((g pn) &&& (255 : Int32)), .unset, .unset] [(.int (((g pn) &&& (255 : Int32)) &&& (31 : Int32)))]))
 rw [x2]
 show G (T228.setTop (mkF m 39 #[vR r0, vI ((g pn) &&& (255 : Int32)), .unset, .unset] [(.int (g pn &&& (31 : Int32)))]))
 refine go _ _ (fun _ k => XS.istoreN X228.here hx rfl (hb hby d6_39) rfl (l' := #[vR r0, vI ((g pn) &&& (255 : Int32)), vI (g pn &&& (31 : Int32)), .unset]) rfl k) ?_
 show G (T228.setTop (mkF m 40 #[vR r0, vI ((g pn) &&& (255 : Int32)), vI (g pn &&& (31 : Int32)), .unset] []))
 refine go _ _ (fun _ k => XS.iloadN X228.here hx rfl (hb hby d6_40) rfl  k) ?_
 show G (T228.setTop (mkF m 41 #[vR r0, vI ((g pn) &&& (255 : Int32)), vI (g pn &&& (31 : Int32)), .unset] [(.int (g pn &&& (31 : Int32)))]))
 refine go _ _ (fun _ k => XS.bipush X228.here hx rfl (hb hby d6_41) k) ?_
 show G (T228.setTop (mkF m 43 #[vR r0, vI ((g pn) &&& (255 : Int32)), vI (g pn &&& (31 : Int32)), .unset] [(.int (31 : Int32)), (.int (g pn &&& (31 : Int32)))]))
 refine go _ _ (fun _ k => XS.icmpYes X228.here hx rfl (pc0 := 43) (pc' := 63) rfl (hb hby d6_43) rfl (Free.XT.ii_ne_t (fun z => absurd (z ▸ hrg.2) (by decide))) (by decide) (by decide) k) ?_
 show G (T228.setTop (mkF m 63 #[vR r0, vI ((g pn) &&& (255 : Int32)), vI (g pn &&& (31 : Int32)), .unset] []))
 refine go _ _ (fun _ k => XS.iloadN X228.here hx rfl (hb hby d6_63) rfl  k) ?_
 show G (T228.setTop (mkF m 64 #[vR r0, vI ((g pn) &&& (255 : Int32)), vI (g pn &&& (31 : Int32)), .unset] [(.int (g pn &&& (31 : Int32)))]))
 refine go _ _ (fun _ k => XS.bipush X228.here hx rfl (hb hby d6_64) k) ?_
 show G (T228.setTop (mkF m 66 #[vR r0, vI ((g pn) &&& (255 : Int32)), vI (g pn &&& (31 : Int32)), .unset] [(.int (27 : Int32)), (.int (g pn &&& (31 : Int32)))]))
 refine go _ _ (fun _ k => XS.icmpYes X228.here hx rfl (pc0 := 66) (pc' := 90) rfl (hb hby d6_66) rfl (Free.XT.ii_le_t (fun z => absurd (Int32.lt_iff_toInt_lt.mp z) (by have e : (27 : Int32).toInt = 27 := rfl; omega))) (by decide) (by decide) k) ?_
 show G (T228.setTop (mkF m 90 #[vR r0, vI ((g pn) &&& (255 : Int32)), vI (g pn &&& (31 : Int32)), .unset] []))
 refine go _ _ (fun _ k => XS.iloadN X228.here hx rfl (hb hby d6_90) rfl  k) ?_
 show G (T228.setTop (mkF m 91 #[vR r0, vI ((g pn) &&& (255 : Int32)), vI (g pn &&& (31 : Int32)), .unset] [(.int ((g pn) &&& (255 : Int32)))]))
 refine go _ _ (fun _ k => XS.iconst X228.here hx rfl (hb hby d6_91) k) ?_
 show G (T228.setTop (mkF m 92 #[vR r0, vI ((g pn) &&& (255 : Int32)), vI (g pn &&& (31 : Int32)), .unset] [(.int (5 : Int32)), (.int ((g pn) &&& (255 : Int32)))]))
 refine go _ _ (fun _ k => XS.iushr X228.here hx rfl (hb hby d6_92) rfl k) ?_
 show G (T228.setTop (mkF m 93 #[vR r0, vI ((g pn) &&& (255 : Int32)), vI (g pn &&& (31 : Int32)), .unset] [(.int ((((g pn) &&& (255 : Int32)).toUInt32 >>> ((5 : Int32) &&& 31).toUInt32).toInt32))]))
 rw [x3]
 show G (T228.setTop (mkF m 93 #[vR r0, vI ((g pn) &&& (255 : Int32)), vI (g pn &&& (31 : Int32)), .unset] [(.int (5 : Int32))]))
 refine go _ _ (fun _ k => XS.tswIn X228.here hx rfl (pc0 := 93) (pc' := 171) rfl (hb hby d6_93) rfl (by decide) (o := 78) (by decide) (by decide) (by decide) k) ?_
 show G (T228.setTop (mkF m 171 #[vR r0, vI ((g pn) &&& (255 : Int32)), vI (g pn &&& (31 : Int32)), .unset] []))
 obtain ⟨T229, X229, e229, st229⟩ := getS X228 hx hZ hown (host := "") (wd hw 81 rfl) Via.refl e228 Szm (g := (mkF m 171 #[vR r0, vI ((g pn) &&& (255 : Int32)), vI (g pn &&& (31 : Int32)), .unset] [])) rfl (hb hby d6_171)
 refine go _ _ st229 ?_
 show G (T229.setTop (mkF m 174 #[vR r0, vI ((g pn) &&& (255 : Int32)), vI (g pn &&& (31 : Int32)), .unset] [(.ref zm)]))
 refine go _ _ (fun _ k => XS.astoreN X229.here hx rfl (hb hby d6_174) rfl rfl (l' := #[vR r0, vI ((g pn) &&& (255 : Int32)), vI (g pn &&& (31 : Int32)), vR zm]) rfl k) ?_
 show G (T229.setTop (mkF m 175 #[vR r0, vI ((g pn) &&& (255 : Int32)), vI (g pn &&& (31 : Int32)), vR zm] []))
 refine go _ _ (fun _ k => XS.goto X229.here hx rfl (pc0 := 175) (pc' := 221) rfl (hb hby d6_175) (by decide) (by decide) k) ?_
 show G (T229.setTop (mkF m 221 #[vR r0, vI ((g pn) &&& (255 : Int32)), vI (g pn &&& (31 : Int32)), vR zm] []))
 refine go _ _ (fun _ k => XS.aloadN X229.here hx rfl (hb hby d6_221) rfl rfl  k) ?_
 show G (T229.setTop (mkF m 222 #[vR r0, vI ((g pn) &&& (255 : Int32)), vI (g pn &&& (31 : Int32)), vR zm] [(.ref zm)]))
 refine own_retA rt X229 hx hret rfl rfl (hb hby d6_222) (by decide) (by decide) ?_
 exact ⟨rfl, N226h, e229⟩
theorem ef_rm_rh5d (m : MethodId) (x0 : Addr) (x1 : Addr) : entryFrame m #[(.ref x0), (.ref x1)] 8 = mkF m 0 #[.val (.ref x0), .val (.ref x1), .unset, .unset, .unset, .unset, .unset, .unset] [] := by first | (simp [entryFrame, mkF, argsToLocals, Value.category]; done) | rfl
set_option maxRecDepth 65536 in
set_option maxHeartbeats 40000000 in
theorem rm_rh5d (l : Launch) (Z : State) (a0 : Array Value) (hw : ∀ d ∈ tables_1, d.before a0 Z = true) (r0 r1 il zu za zm zt : Addr) (pos dp : Int32) (pn dn sz : Nat) (g t : Nat → Int32) (w cn : Nat) (h0 : Heap) (n0 : Nat) (Z0 : n0 ≤ h0.size) (g_r0 : n0 ≤ r0) (g_il : n0 ≤ il) (E0 : Exa Z h0 r0 "com/example/brevidns/brevidns/CborReader") (Fp : Fld Z h0 r0 "com/example/brevidns/brevidns/CborReader" "position" "I" (.int pos)) (Fi : Fld Z h0 r0 "com/example/brevidns/brevidns/CborReader" "input" "[B" (.ref r1)) (Fl : Fld Z h0 r0 "com/example/brevidns/brevidns/CborReader" "itemsLeft" "[I" (.ref il)) (Fd : Fld Z h0 r0 "com/example/brevidns/brevidns/CborReader" "depth" "I" (.int dp)) (A : Ary Z h0 r1 .byte 64 (fun i => .int (g i))) (B : Ary Z h0 il .int sz (fun i => .int (t i))) (n10 : r1 ≠ r0) (n20 : il ≠ r0) (n12 : r1 ≠ il) (hpos : pos.toInt = pn) (hdp : dp.toInt = dn) (Szu : Sta Z h0 "com/example/brevidns/brevidns/CborReader$Kind" "UNSIGNED_INTEGER" "Lcom/example/brevidns/brevidns/CborReader$Kind;" (.ref zu)) (Sza : Sta Z h0 "com/example/brevidns/brevidns/CborReader$Kind" "ARRAY" "Lcom/example/brevidns/brevidns/CborReader$Kind;" (.ref za)) (Szm : Sta Z h0 "com/example/brevidns/brevidns/CborReader$Kind" "MAP" "Lcom/example/brevidns/brevidns/CborReader$Kind;" (.ref zm)) (Szt : Sta Z h0 "com/example/brevidns/brevidns/CborReader$Kind" "TAG" "Lcom/example/brevidns/brevidns/CborReader$Kind;" (.ref zt)) (nut : zu ≠ zt) (nat : za ≠ zt) (nmt : zm ≠ zt) (hd : Head g 5 pn w cn) (hpw : pn + w ≤ 63) (hd1 : 1 ≤ dn) (hds : dn ≤ sz) (hs8 : sz ≤ 8) (ht : ¬ t (dn - 1) = 0) :
  Con l Z (⟨"com/example/brevidns/brevidns/CborReader", "readHead", "(Lcom/example/brevidns/brevidns/CborReader$Kind;)J"⟩ : MethodName) prog_3_method_20_code 8 (some .long) ({ frames := 2, cells := 0, slots := 0, locals := 27 } : Room) #[(.ref r0), (.ref zm)] h0 (fun v h L => v = some (.long (Int32.ofNat cn).toInt64) ∧ Fr n0 L ∧ Keep h0 h [r0, il] ∧ ∃ pos2 : Int32, pos2.toInt = ((pn + w : Nat) : Int) ∧ Exa Z h r0 "com/example/brevidns/brevidns/CborReader" ∧ Fld Z h r0 "com/example/brevidns/brevidns/CborReader" "position" "I" (.int pos2) ∧ Fld Z h r0 "com/example/brevidns/brevidns/CborReader" "input" "[B" (.ref r1) ∧ Fld Z h r0 "com/example/brevidns/brevidns/CborReader" "itemsLeft" "[I" (.ref il) ∧ Fld Z h r0 "com/example/brevidns/brevidns/CborReader" "depth" "I" (.int dp) ∧ Ary Z h il .int sz (fun i => .int ((upd t (dn - 1) (t (dn - 1) - 1)) i))) := by
 refine own_body pn_5 ?_
 intro p e s m below meth c s₁ hx hby hml hown hnm hret hZ e0 X0 G go rt
 have N0 := Fr.nil n0
 rw [ef_rm_rh5d m r0 zm]
 have hww : w = 1 ∨ w = 2 := hd.ww
 show G (s₁.setTop (mkF m 0 #[vR r0, vR zm, .unset, .unset, .unset, .unset, .unset, .unset] []))
 refine go _ _ (fun _ k => XS.aloadN X0.here hx rfl (hb hby d5_0) rfl rfl  k) ?_
 show G (s₁.setTop (mkF m 1 #[vR r0, vR zm, .unset, .unset, .unset, .unset, .unset, .unset] [(.ref r0)]))
 refine own_virtual go X0 hx hZ e0 hown (wd hw 41 rfl) (wd hw 42 rfl) (notFace_of_selects (args := #[]) (mvT hZ (wd hw 44 rfl))) (wd hw 44 rfl) (wd hw 43 rfl) (wd hw 3 rfl) (wd hw 45 rfl) (by decide) (rm_pk5d l Z a0 hw r0 r1 il zu za zm zt pos dp pn dn sz g t w cn h0 n0 Z0 E0 Fp Fi Fl Fd A B n10 n20 n12 hpos hdp Szu Sza Szm Szt nut nat nmt hd hpw hd1 hds hs8 ht) 0 (by decide) (by decide) (by decide) (by decide) E0 (g := (mkF m 1 #[vR r0, vR zm, .unset, .unset, .unset, .unset, .unset, .unset] [(.ref r0)])) rfl (by rw [hml]; rfl) [] [] rfl (lenOf pd_2 rfl) rfl (by show 2 * 0 + _ ≤ _; exact Nat.le_of_eq rfl) (hb hby d5_1) ?_
 intro T230 L230 v230 X230 q230
 obtain ⟨rfl, N230, hh230⟩ := q230
 obtain ⟨lc230, X230h, N230h⟩ := own_hide X230 (Fr.app N0 N230)
 show G (T230.setTop (mkF m 4 #[vR r0, vR zm, .unset, .unset, .unset, .unset, .unset, .unset] [(.ref zm)]))
 refine go _ _ (fun _ k => XS.astoreN X230h.here hx rfl (hb hby d5_4) rfl rfl (l' := #[vR r0, vR zm, vR zm, .unset, .unset, .unset, .unset, .unset]) rfl k) ?_
 show G (T230.setTop (mkF m 5 #[vR r0, vR zm, vR zm, .unset, .unset, .unset, .unset, .unset] []))
 refine go _ _ (fun _ k => XS.aloadN X230h.here hx rfl (hb hby d5_5) rfl rfl  k) ?_
 show G (T230.setTop (mkF m 6 #[vR r0, vR zm, vR zm, .unset, .unset, .unset, .unset, .unset] [(.ref zm)]))
 refine go _ _ (fun _ k => XS.aloadN X230h.here hx rfl (hb hby d5_6) rfl rfl  k) ?_
 show G (T230.setTop (mkF m 7 #[vR r0, vR zm, vR zm, .unset, .unset, .unset, .unset, .unset] [(.ref zm), (.ref zm)]))
 refine go _ _ (fun _ k => Jvm.RoadKit.acmp (g := (mkF m 7 #[vR r0, vR zm, vR zm, .unset, .unset, .unset, .unset, .unset] [(.ref zm), (.ref zm)])) X230h hx rfl (x := (.ref zm)) (y := (.ref zm)) rfl rfl (rest := []) (pc0 := 7) (pc' := 35) (same := true) rfl (hb hby d5_7) rfl (decide_eq_true rfl) (by decide) (by decide) k) ?_
 show G (T230.setTop (mkF m 35 #[vR r0, vR zm, vR zm, .unset, .unset, .unset, .unset, .unset] []))
 refine go _ _ (fun _ k => XS.aloadN X230h.here hx rfl (hb hby d5_35) rfl rfl  k) ?_
 show G (T230.setTop (mkF m 36 #[vR r0, vR zm, vR zm, .unset, .unset, .unset, .unset, .unset] [(.ref r0)]))
 obtain ⟨T231, X231, e231, st231⟩ := getF X230h hx hZ hown (host := "") (Or.inl (wd hw 13 rfl)) Via.refl hh230 Fi (g := (mkF m 36 #[vR r0, vR zm, vR zm, .unset, .unset, .unset, .unset, .unset] [(.ref r0)])) rfl rfl (hb hby d5_36)
 refine go _ _ st231 ?_
 show G (T231.setTop (mkF m 39 #[vR r0, vR zm, vR zm, .unset, .unset, .unset, .unset, .unset] [(.ref r1)]))
 refine go _ _ (fun _ k => XS.aloadN X231.here hx rfl (hb hby d5_39) rfl rfl  k) ?_
 show G (T231.setTop (mkF m 40 #[vR r0, vR zm, vR zm, .unset, .unset, .unset, .unset, .unset] [(.ref r0), (.ref r1)]))
 obtain ⟨T232, X232, e232, st232⟩ := getF X231 hx hZ hown (host := "") (Or.inl (wd hw 35 rfl)) Via.refl e231 Fp (g := (mkF m 40 #[vR r0, vR zm, vR zm, .unset, .unset, .unset, .unset, .unset] [(.ref r0), (.ref r1)])) rfl rfl (hb hby d5_40)
 refine go _ _ st232 ?_
 show G (T232.setTop (mkF m 43 #[vR r0, vR zm, vR zm, .unset, .unset, .unset, .unset, .unset] [(.int pos), (.ref r1)]))
 refine own_baload go X232 hx hZ e232 pn hpos (by omega) (g := (mkF m 43 #[vR r0, vR zm, vR zm, .unset, .unset, .unset, .unset, .unset] [(.int pos), (.ref r1)])) rfl A rfl (hb hby d5_43) ?_
 show G (T232.setTop (mkF m 44 #[vR r0, vR zm, vR zm, .unset, .unset, .unset, .unset, .unset] [(.int (g pn))]))
 refine go _ _ (fun _ k => XS.bipush X232.here hx rfl (hb hby d5_44) k) ?_
 show G (T232.setTop (mkF m 46 #[vR r0, vR zm, vR zm, .unset, .unset, .unset, .unset, .unset] [(.int (31 : Int32)), (.int (g pn))]))
 refine go _ _ (fun _ k => XS.iand X232.here hx rfl (hb hby d5_46) rfl k) ?_
 show G (T232.setTop (mkF m 47 #[vR r0, vR zm, vR zm, .unset, .unset, .unset, .unset, .unset] [(.int ((g pn) &&& (31 : Int32)))]))
 rcases hd.2 with ⟨rfl, d1, d2⟩ | ⟨rfl, d1, d2, d3⟩
 ·rw [d1]
  show G (T232.setTop (mkF m 47 #[vR r0, vR zm, vR zm, .unset, .unset, .unset, .unset, .unset] [(.int (Int32.ofNat cn))]))
  refine go _ _ (fun _ k => XS.istoreN X232.here hx rfl (hb hby d5_47) rfl (l' := #[vR r0, vR zm, vR zm, vI (Int32.ofNat cn), .unset, .unset, .unset, .unset]) rfl k) ?_
  show G (T232.setTop (mkF m 48 #[vR r0, vR zm, vR zm, vI (Int32.ofNat cn), .unset, .unset, .unset, .unset] []))
  refine go _ _ (fun _ k => XS.iloadN X232.here hx rfl (hb hby d5_48) rfl  k) ?_
  show G (T232.setTop (mkF m 49 #[vR r0, vR zm, vR zm, vI (Int32.ofNat cn), .unset, .unset, .unset, .unset] [(.int (Int32.ofNat cn))]))
  refine go _ _ (fun _ k => XS.bipush X232.here hx rfl (hb hby d5_49) k) ?_
  show G (T232.setTop (mkF m 51 #[vR r0, vR zm, vR zm, vI (Int32.ofNat cn), .unset, .unset, .unset, .unset] [(.int (23 : Int32)), (.int (Int32.ofNat cn))]))
  refine go _ _ (fun _ k => XS.icmpNo X232.here hx rfl (hb hby d5_51) rfl (Free.XT.ii_gt_f (own_lt23 d2)) k) ?_
  show G (T232.setTop (mkF m 54 #[vR r0, vR zm, vR zm, vI (Int32.ofNat cn), .unset, .unset, .unset, .unset] []))
  refine go _ _ (fun _ k => XS.iconst X232.here hx rfl (hb hby d5_54) k) ?_
  show G (T232.setTop (mkF m 55 #[vR r0, vR zm, vR zm, vI (Int32.ofNat cn), .unset, .unset, .unset, .unset] [(.int (0 : Int32))]))
  refine go _ _ (fun _ k => XS.istore X232.here hx rfl (hb hby d5_55) rfl (l' := #[vR r0, vR zm, vR zm, vI (Int32.ofNat cn), vI 0, .unset, .unset, .unset]) rfl k) ?_
  show G (T232.setTop (mkF m 57 #[vR r0, vR zm, vR zm, vI (Int32.ofNat cn), vI 0, .unset, .unset, .unset] []))
  refine go _ _ (fun _ k => XS.goto X232.here hx rfl (pc0 := 57) (pc' := 68) rfl (hb hby d5_57) (by decide) (by decide) k) ?_
  show G (T232.setTop (mkF m 68 #[vR r0, vR zm, vR zm, vI (Int32.ofNat cn), vI 0, .unset, .unset, .unset] []))
  refine go _ _ (fun _ k => XS.iload X232.here hx rfl (hb hby d5_68) rfl  k) ?_
  show G (T232.setTop (mkF m 70 #[vR r0, vR zm, vR zm, vI (Int32.ofNat cn), vI 0, .unset, .unset, .unset] [(.int (0 : Int32))]))
  refine go _ _ (fun _ k => XS.aloadN X232.here hx rfl (hb hby d5_70) rfl rfl  k) ?_
  show G (T232.setTop (mkF m 71 #[vR r0, vR zm, vR zm, vI (Int32.ofNat cn), vI 0, .unset, .unset, .unset] [(.ref r0), (.int (0 : Int32))]))
  refine own_private go X232 hx hZ e232 hown (wd hw 57 rfl) (wd hw 58 rfl) (wd hw 18 rfl) rfl (wd hw 59 rfl) (wd hw 3 rfl) (wd hw 60 rfl) (by decide) (rm_re l Z a0 hw r0 r1 pos g h0 n0 Z0 Fi Fp A) 1 (by decide) (by decide) (by decide) (by decide) E0 (g := (mkF m 71 #[vR r0, vR zm, vR zm, vI (Int32.ofNat cn), vI 0, .unset, .unset, .unset] [(.ref r0), (.int (0 : Int32))])) rfl (by rw [hml]; rfl) [] [(.int (0 : Int32))] rfl (lenOf pd_3 rfl) rfl (by show 2 * 0 + _ ≤ _; exact Nat.le_of_eq rfl) (hb hby d5_71) ?_
  intro T233 L233 v233 X233 q233
  obtain ⟨rfl, N233, hh233⟩ := q233
  obtain ⟨lc233, X233h, N233h⟩ := own_hide X233 (Fr.app N230h N233)
  show G (T233.setTop (mkF m 74 #[vR r0, vR zm, vR zm, vI (Int32.ofNat cn), vI 0, .unset, .unset, .unset] [(.int ((64 : Int32) - pos)), (.int (0 : Int32))]))
  refine go _ _ (fun _ k => XS.icmpYes X233h.here hx rfl (pc0 := 74) (pc' := 94) rfl (hb hby d5_74) rfl (Free.XT.ii_lt_t (own_rem64 0 (kk := 0) rfl hpos (by omega))) (by decide) (by decide) k) ?_
  show G (T233.setTop (mkF m 94 #[vR r0, vR zm, vR zm, vI (Int32.ofNat cn), vI 0, .unset, .unset, .unset] []))
  refine go _ _ (fun _ k => XS.iload X233h.here hx rfl (hb hby d5_94) rfl  k) ?_
  show G (T233.setTop (mkF m 96 #[vR r0, vR zm, vR zm, vI (Int32.ofNat cn), vI 0, .unset, .unset, .unset] [(.int (0 : Int32))]))
  refine go _ _ (fun _ k => XS.ifNo X233h.here hx rfl (hb hby d5_96) rfl (Free.XT.i0_ne_f (by decide)) k) ?_
  show G (T233.setTop (mkF m 99 #[vR r0, vR zm, vR zm, vI (Int32.ofNat cn), vI 0, .unset, .unset, .unset] []))
  refine go _ _ (fun _ k => XS.iloadN X233h.here hx rfl (hb hby d5_99) rfl  k) ?_
  show G (T233.setTop (mkF m 100 #[vR r0, vR zm, vR zm, vI (Int32.ofNat cn), vI 0, .unset, .unset, .unset] [(.int (Int32.ofNat cn))]))
  refine go _ _ (fun _ k => XS.i2l X233h.here hx rfl (hb hby d5_100) rfl k) ?_
  show G (T233.setTop (mkF m 101 #[vR r0, vR zm, vR zm, vI (Int32.ofNat cn), vI 0, .unset, .unset, .unset] [(.long ((Int32.ofNat cn).toInt64))]))
  refine go _ _ (fun _ k => XS.lstore X233h.here hx rfl (hb hby d5_101) rfl (l' := #[vR r0, vR zm, vR zm, vI (Int32.ofNat cn), vI 0, .val (.long ((Int32.ofNat cn).toInt64)), .second, .unset]) rfl k) ?_
  show G (T233.setTop (mkF m 103 #[vR r0, vR zm, vR zm, vI (Int32.ofNat cn), vI 0, .val (.long ((Int32.ofNat cn).toInt64)), .second, .unset] []))
  refine go _ _ (fun _ k => XS.goto X233h.here hx rfl (pc0 := 103) (pc' := 150) rfl (hb hby d5_103) (by decide) (by decide) k) ?_
  show G (T233.setTop (mkF m 150 #[vR r0, vR zm, vR zm, vI (Int32.ofNat cn), vI 0, .val (.long ((Int32.ofNat cn).toInt64)), .second, .unset] []))
  refine go _ _ (fun _ k => XS.aloadN X233h.here hx rfl (hb hby d5_150) rfl rfl  k) ?_
  show G (T233.setTop (mkF m 151 #[vR r0, vR zm, vR zm, vI (Int32.ofNat cn), vI 0, .val (.long ((Int32.ofNat cn).toInt64)), .second, .unset] [(.ref r0)]))
  refine go _ _ (fun _ k => XS.dup X233h.here hx rfl (hb hby d5_151) rfl rfl k) ?_
  show G (T233.setTop (mkF m 152 #[vR r0, vR zm, vR zm, vI (Int32.ofNat cn), vI 0, .val (.long ((Int32.ofNat cn).toInt64)), .second, .unset] [(.ref r0), (.ref r0)]))
  obtain ⟨T234, X234, e234, st234⟩ := getF X233h hx hZ hown (host := "") (Or.inl (wd hw 35 rfl)) Via.refl hh233 Fp (g := (mkF m 152 #[vR r0, vR zm, vR zm, vI (Int32.ofNat cn), vI 0, .val (.long ((Int32.ofNat cn).toInt64)), .second, .unset] [(.ref r0), (.ref r0)])) rfl rfl (hb hby d5_152)
  refine go _ _ st234 ?_
  show G (T234.setTop (mkF m 155 #[vR r0, vR zm, vR zm, vI (Int32.ofNat cn), vI 0, .val (.long ((Int32.ofNat cn).toInt64)), .second, .unset] [(.int pos), (.ref r0)]))
  refine go _ _ (fun _ k => XS.iconst X234.here hx rfl (hb hby d5_155) k) ?_
  show G (T234.setTop (mkF m 156 #[vR r0, vR zm, vR zm, vI (Int32.ofNat cn), vI 0, .val (.long ((Int32.ofNat cn).toInt64)), .second, .unset] [(.int (1 : Int32)), (.int pos), (.ref r0)]))
  refine go _ _ (fun _ k => XS.iload X234.here hx rfl (hb hby d5_156) rfl  k) ?_
  show G (T234.setTop (mkF m 158 #[vR r0, vR zm, vR zm, vI (Int32.ofNat cn), vI 0, .val (.long ((Int32.ofNat cn).toInt64)), .second, .unset] [(.int (0 : Int32)), (.int (1 : Int32)), (.int pos), (.ref r0)]))
  refine go _ _ (fun _ k => XS.iadd X234.here hx rfl (hb hby d5_158) rfl k) ?_
  show G (T234.setTop (mkF m 159 #[vR r0, vR zm, vR zm, vI (Int32.ofNat cn), vI 0, .val (.long ((Int32.ofNat cn).toInt64)), .second, .unset] [(.int ((1 : Int32) + (0 : Int32))), (.int pos), (.ref r0)]))
  refine go _ _ (fun _ k => XS.iadd X234.here hx rfl (hb hby d5_159) rfl k) ?_
  show G (T234.setTop (mkF m 160 #[vR r0, vR zm, vR zm, vI (Int32.ofNat cn), vI 0, .val (.long ((Int32.ofNat cn).toInt64)), .second, .unset] [(.int (pos + ((1 : Int32) + (0 : Int32)))), (.ref r0)]))
  obtain ⟨T235, h235, X235, e235, W235, st235⟩ := putF X234 hx hZ hown (host := "") (Or.inl (wd hw 35 rfl)) Via.refl e234 Fp E0 (Or.inl (wd hw 36 rfl)) (wd hw 2 rfl) (ty := .int) (by decide) rfl rfl (g := (mkF m 160 #[vR r0, vR zm, vR zm, vI (Int32.ofNat cn), vI 0, .val (.long ((Int32.ofNat cn).toInt64)), .second, .unset] [(.int (pos + ((1 : Int32) + (0 : Int32)))), (.ref r0)])) rfl rfl (hb hby d5_160)
  have F235 := Fp.same W235
  have K236 : Keep h0 h235 [r0, il] := (Keep.refl h0 [r0, il]).wr W235 (Or.inl (List.mem_of_getElem? (i := 0) rfl))
  obtain ⟨lc235, X235h, N235h⟩ := own_hide X235 (Fr.snoc X235 N233h g_r0)
  have Z237 : n0 ≤ h235.size := Nat.le_trans Z0 (Nat.le_of_eq W235.size.symm)
  refine go _ _ st235 ?_
  show G (T235.setTop (mkF m 163 #[vR r0, vR zm, vR zm, vI (Int32.ofNat cn), vI 0, .val (.long ((Int32.ofNat cn).toInt64)), .second, .unset] []))
  refine go _ _ (fun _ k => XS.aloadN X235h.here hx rfl (hb hby d5_163) rfl rfl  k) ?_
  show G (T235.setTop (mkF m 164 #[vR r0, vR zm, vR zm, vI (Int32.ofNat cn), vI 0, .val (.long ((Int32.ofNat cn).toInt64)), .second, .unset] [(.ref r0)]))
  have f238 := (Fd.other W235 (Or.inr (slot_ne (Or.inl (wd hw 51 rfl)) (Or.inl (wd hw 36 rfl)) (by decide) (t := .int) (t' := .int) (by decide) (by decide))))
  obtain ⟨T239, X239, e239, st239⟩ := getF X235h hx hZ hown (host := "") (Or.inl (wd hw 50 rfl)) Via.refl e235 f238 (g := (mkF m 164 #[vR r0, vR zm, vR zm, vI (Int32.ofNat cn), vI 0, .val (.long ((Int32.ofNat cn).toInt64)), .second, .unset] [(.ref r0)])) rfl rfl (hb hby d5_164)
  refine go _ _ st239 ?_
  show G (T239.setTop (mkF m 167 #[vR r0, vR zm, vR zm, vI (Int32.ofNat cn), vI 0, .val (.long ((Int32.ofNat cn).toInt64)), .second, .unset] [(.int dp)]))
  refine go _ _ (fun _ k => XS.ifNo X239.here hx rfl (hb hby d5_167) rfl (Free.XT.i0_le_f (own_pos hdp hd1)) k) ?_
  show G (T239.setTop (mkF m 170 #[vR r0, vR zm, vR zm, vI (Int32.ofNat cn), vI 0, .val (.long ((Int32.ofNat cn).toInt64)), .second, .unset] []))
  refine go _ _ (fun _ k => XS.aloadN X239.here hx rfl (hb hby d5_170) rfl rfl  k) ?_
  show G (T239.setTop (mkF m 171 #[vR r0, vR zm, vR zm, vI (Int32.ofNat cn), vI 0, .val (.long ((Int32.ofNat cn).toInt64)), .second, .unset] [(.ref zm)]))
  have f240 := (Szt.wr W235)
  obtain ⟨T241, X241, e241, st241⟩ := getS X239 hx hZ hown (host := "") (wd hw 69 rfl) Via.refl e239 f240 (g := (mkF m 171 #[vR r0, vR zm, vR zm, vI (Int32.ofNat cn), vI 0, .val (.long ((Int32.ofNat cn).toInt64)), .second, .unset] [(.ref zm)])) rfl (hb hby d5_171)
  refine go _ _ st241 ?_
  show G (T241.setTop (mkF m 174 #[vR r0, vR zm, vR zm, vI (Int32.ofNat cn), vI 0, .val (.long ((Int32.ofNat cn).toInt64)), .second, .unset] [(.ref zt), (.ref zm)]))
  refine go _ _ (fun _ k => Jvm.RoadKit.acmp (g := (mkF m 174 #[vR r0, vR zm, vR zm, vI (Int32.ofNat cn), vI 0, .val (.long ((Int32.ofNat cn).toInt64)), .second, .unset] [(.ref zt), (.ref zm)])) X241 hx rfl (x := (.ref zm)) (y := (.ref zt)) rfl rfl (rest := []) (pc0 := 174) (pc' := 177) (same := false) rfl (hb hby d5_174) rfl (decide_eq_false (fun z => nmt (Value.ref.inj z))) (by decide) (by decide) k) ?_
  show G (T241.setTop (mkF m 177 #[vR r0, vR zm, vR zm, vI (Int32.ofNat cn), vI 0, .val (.long ((Int32.ofNat cn).toInt64)), .second, .unset] []))
  refine go _ _ (fun _ k => XS.aloadN X241.here hx rfl (hb hby d5_177) rfl rfl  k) ?_
  show G (T241.setTop (mkF m 178 #[vR r0, vR zm, vR zm, vI (Int32.ofNat cn), vI 0, .val (.long ((Int32.ofNat cn).toInt64)), .second, .unset] [(.ref r0)]))
  have f242 := (Fl.other W235 (Or.inr (slot_ne (Or.inl (wd hw 12 rfl)) (Or.inl (wd hw 36 rfl)) (by decide) (t := (.array .int)) (t' := .int) (by decide) (by decide))))
  obtain ⟨T243, X243, e243, st243⟩ := getF X241 hx hZ hown (host := "") (Or.inl (wd hw 11 rfl)) Via.refl e241 f242 (g := (mkF m 178 #[vR r0, vR zm, vR zm, vI (Int32.ofNat cn), vI 0, .val (.long ((Int32.ofNat cn).toInt64)), .second, .unset] [(.ref r0)])) rfl rfl (hb hby d5_178)
  refine go _ _ st243 ?_
  show G (T243.setTop (mkF m 181 #[vR r0, vR zm, vR zm, vI (Int32.ofNat cn), vI 0, .val (.long ((Int32.ofNat cn).toInt64)), .second, .unset] [(.ref il)]))
  refine go _ _ (fun _ k => XS.aloadN X243.here hx rfl (hb hby d5_181) rfl rfl  k) ?_
  show G (T243.setTop (mkF m 182 #[vR r0, vR zm, vR zm, vI (Int32.ofNat cn), vI 0, .val (.long ((Int32.ofNat cn).toInt64)), .second, .unset] [(.ref r0), (.ref il)]))
  obtain ⟨T244, X244, e244, st244⟩ := getF X243 hx hZ hown (host := "") (Or.inl (wd hw 50 rfl)) Via.refl e243 f238 (g := (mkF m 182 #[vR r0, vR zm, vR zm, vI (Int32.ofNat cn), vI 0, .val (.long ((Int32.ofNat cn).toInt64)), .second, .unset] [(.ref r0), (.ref il)])) rfl rfl (hb hby d5_182)
  refine go _ _ st244 ?_
  show G (T244.setTop (mkF m 185 #[vR r0, vR zm, vR zm, vI (Int32.ofNat cn), vI 0, .val (.long ((Int32.ofNat cn).toInt64)), .second, .unset] [(.int dp), (.ref il)]))
  refine go _ _ (fun _ k => XS.iconst X244.here hx rfl (hb hby d5_185) k) ?_
  show G (T244.setTop (mkF m 186 #[vR r0, vR zm, vR zm, vI (Int32.ofNat cn), vI 0, .val (.long ((Int32.ofNat cn).toInt64)), .second, .unset] [(.int (1 : Int32)), (.int dp), (.ref il)]))
  refine go _ _ (fun _ k => XS.isub X244.here hx rfl (hb hby d5_186) rfl k) ?_
  show G (T244.setTop (mkF m 187 #[vR r0, vR zm, vR zm, vI (Int32.ofNat cn), vI 0, .val (.long ((Int32.ofNat cn).toInt64)), .second, .unset] [(.int (dp - (1 : Int32))), (.ref il)]))
  refine go _ _ (fun _ k => Free.XT.dup2 X244.here hx rfl (hb hby d5_187) rfl rfl rfl k) ?_
  show G (T244.setTop (mkF m 188 #[vR r0, vR zm, vR zm, vI (Int32.ofNat cn), vI 0, .val (.long ((Int32.ofNat cn).toInt64)), .second, .unset] [(.int (dp - (1 : Int32))), (.ref il), (.int (dp - (1 : Int32))), (.ref il)]))
  have f245 := (B.other W235 n20)
  refine own_iaload go X244 hx hZ e244 (dn - 1) (own_m1 hdp hd1 (by omega)) (by omega) (g := (mkF m 188 #[vR r0, vR zm, vR zm, vI (Int32.ofNat cn), vI 0, .val (.long ((Int32.ofNat cn).toInt64)), .second, .unset] [(.int (dp - (1 : Int32))), (.ref il), (.int (dp - (1 : Int32))), (.ref il)])) rfl f245 rfl (hb hby d5_188) ?_
  show G (T244.setTop (mkF m 189 #[vR r0, vR zm, vR zm, vI (Int32.ofNat cn), vI 0, .val (.long ((Int32.ofNat cn).toInt64)), .second, .unset] [(.int (t (dn - 1))), (.int (dp - (1 : Int32))), (.ref il)]))
  refine go _ _ (fun _ k => XS.iconst X244.here hx rfl (hb hby d5_189) k) ?_
  show G (T244.setTop (mkF m 190 #[vR r0, vR zm, vR zm, vI (Int32.ofNat cn), vI 0, .val (.long ((Int32.ofNat cn).toInt64)), .second, .unset] [(.int (1 : Int32)), (.int (t (dn - 1))), (.int (dp - (1 : Int32))), (.ref il)]))
  refine go _ _ (fun _ k => XS.isub X244.here hx rfl (hb hby d5_190) rfl k) ?_
  show G (T244.setTop (mkF m 191 #[vR r0, vR zm, vR zm, vI (Int32.ofNat cn), vI 0, .val (.long ((Int32.ofNat cn).toInt64)), .second, .unset] [(.int ((t (dn - 1)) - (1 : Int32))), (.int (dp - (1 : Int32))), (.ref il)]))
  refine own_iastore go X244 hx hZ e244 (dn - 1) (own_m1 hdp hd1 (by omega)) (by omega) (g := (mkF m 191 #[vR r0, vR zm, vR zm, vI (Int32.ofNat cn), vI 0, .val (.long ((Int32.ofNat cn).toInt64)), .second, .unset] [(.int ((t (dn - 1)) - (1 : Int32))), (.int (dp - (1 : Int32))), (.ref il)])) rfl f245 rfl (hb hby d5_191) ?_
  intro T246 h246 X246 e246 W246 A246
  have K247 : Keep h0 h246 [r0, il] := K236.wr W246 (Or.inl (List.mem_of_getElem? (i := 1) rfl))
  obtain ⟨lc246, X246h, N246h⟩ := own_hide X246 (Fr.snoc X246 N235h g_il)
  have Z248 : n0 ≤ h246.size := Nat.le_trans Z237 (Nat.le_of_eq W246.size.symm)
  have A246c := A246.cong (g := (fun i => .int ((upd t (dn - 1) (t (dn - 1) - 1)) i))) (own_upd rfl)
  show G (T246.setTop (mkF m 192 #[vR r0, vR zm, vR zm, vI (Int32.ofNat cn), vI 0, .val (.long ((Int32.ofNat cn).toInt64)), .second, .unset] []))
  refine go _ _ (fun _ k => XS.lload X246h.here hx rfl (hb hby d5_192) rfl  k) ?_
  show G (T246.setTop (mkF m 194 #[vR r0, vR zm, vR zm, vI (Int32.ofNat cn), vI 0, .val (.long ((Int32.ofNat cn).toInt64)), .second, .unset] [(.long ((Int32.ofNat cn).toInt64))]))
  refine own_retJ rt X246h hx hret (hb hby d5_194) (by decide) (by decide) ?_
  have f249 := ((E0.wr W235).wr W246)
  have f250 := (F235.other W246 (Or.inl (Ne.symm n20)))
  have f251 := ((Fi.other W235 (Or.inr (slot_ne (Or.inr (wd hw 14 rfl)) (Or.inl (wd hw 36 rfl)) (by decide) (t := (.array .byte)) (t' := .int) (by decide) (by decide)))).other W246 (Or.inl (Ne.symm n20)))
  have f252 := (f242.other W246 (Or.inl (Ne.symm n20)))
  have f253 := (f238.other W246 (Or.inl (Ne.symm n20)))
  rw [e246]
  exact ⟨rfl, N246h, K247, _, own_add hpos (by rfl) (by omega), f249, f250, f251, f252, f253, A246c⟩
 ·rw [d1]
  show G (T232.setTop (mkF m 47 #[vR r0, vR zm, vR zm, .unset, .unset, .unset, .unset, .unset] [(.int (24 : Int32))]))
  refine go _ _ (fun _ k => XS.istoreN X232.here hx rfl (hb hby d5_47) rfl (l' := #[vR r0, vR zm, vR zm, vI 24, .unset, .unset, .unset, .unset]) rfl k) ?_
  show G (T232.setTop (mkF m 48 #[vR r0, vR zm, vR zm, vI 24, .unset, .unset, .unset, .unset] []))
  refine go _ _ (fun _ k => XS.iloadN X232.here hx rfl (hb hby d5_48) rfl  k) ?_
  show G (T232.setTop (mkF m 49 #[vR r0, vR zm, vR zm, vI 24, .unset, .unset, .unset, .unset] [(.int (24 : Int32))]))
  refine go _ _ (fun _ k => XS.bipush X232.here hx rfl (hb hby d5_49) k) ?_
  show G (T232.setTop (mkF m 51 #[vR r0, vR zm, vR zm, vI 24, .unset, .unset, .unset, .unset] [(.int (23 : Int32)), (.int (24 : Int32))]))
  refine go _ _ (fun _ k => XS.icmpYes X232.here hx rfl (pc0 := 51) (pc' := 60) rfl (hb hby d5_51) rfl (Free.XT.ii_gt_t (by decide)) (by decide) (by decide) k) ?_
  show G (T232.setTop (mkF m 60 #[vR r0, vR zm, vR zm, vI 24, .unset, .unset, .unset, .unset] []))
  refine go _ _ (fun _ k => XS.iconst X232.here hx rfl (hb hby d5_60) k) ?_
  show G (T232.setTop (mkF m 61 #[vR r0, vR zm, vR zm, vI 24, .unset, .unset, .unset, .unset] [(.int (1 : Int32))]))
  refine go _ _ (fun _ k => XS.iloadN X232.here hx rfl (hb hby d5_61) rfl  k) ?_
  show G (T232.setTop (mkF m 62 #[vR r0, vR zm, vR zm, vI 24, .unset, .unset, .unset, .unset] [(.int (24 : Int32)), (.int (1 : Int32))]))
  refine go _ _ (fun _ k => XS.bipush X232.here hx rfl (hb hby d5_62) k) ?_
  show G (T232.setTop (mkF m 64 #[vR r0, vR zm, vR zm, vI 24, .unset, .unset, .unset, .unset] [(.int (24 : Int32)), (.int (24 : Int32)), (.int (1 : Int32))]))
  refine go _ _ (fun _ k => XS.isub X232.here hx rfl (hb hby d5_64) rfl k) ?_
  show G (T232.setTop (mkF m 65 #[vR r0, vR zm, vR zm, vI 24, .unset, .unset, .unset, .unset] [(.int ((24 : Int32) - (24 : Int32))), (.int (1 : Int32))]))
  refine go _ _ (fun _ k => XS.ishl X232.here hx rfl (hb hby d5_65) rfl k) ?_
  show G (T232.setTop (mkF m 66 #[vR r0, vR zm, vR zm, vI 24, .unset, .unset, .unset, .unset] [(.int ((1 : Int32) <<< (((24 : Int32) - (24 : Int32)) &&& 31)))]))
  refine go _ _ (fun _ k => XS.istore X232.here hx rfl (hb hby d5_66) rfl (l' := #[vR r0, vR zm, vR zm, vI 24, vI ((1 : Int32) <<< (((24 : Int32) - (24 : Int32)) &&& 31)), .unset, .unset, .unset]) rfl k) ?_
  show G (T232.setTop (mkF m 68 #[vR r0, vR zm, vR zm, vI 24, vI ((1 : Int32) <<< (((24 : Int32) - (24 : Int32)) &&& 31)), .unset, .unset, .unset] []))
  show G (T232.setTop (mkF m 68 #[vR r0, vR zm, vR zm, vI 24, vI 1, .unset, .unset, .unset] []))
  refine go _ _ (fun _ k => XS.iload X232.here hx rfl (hb hby d5_68) rfl  k) ?_
  show G (T232.setTop (mkF m 70 #[vR r0, vR zm, vR zm, vI 24, vI 1, .unset, .unset, .unset] [(.int (1 : Int32))]))
  refine go _ _ (fun _ k => XS.aloadN X232.here hx rfl (hb hby d5_70) rfl rfl  k) ?_
  show G (T232.setTop (mkF m 71 #[vR r0, vR zm, vR zm, vI 24, vI 1, .unset, .unset, .unset] [(.ref r0), (.int (1 : Int32))]))
  refine own_private go X232 hx hZ e232 hown (wd hw 57 rfl) (wd hw 58 rfl) (wd hw 18 rfl) rfl (wd hw 59 rfl) (wd hw 3 rfl) (wd hw 60 rfl) (by decide) (rm_re l Z a0 hw r0 r1 pos g h0 n0 Z0 Fi Fp A) 1 (by decide) (by decide) (by decide) (by decide) E0 (g := (mkF m 71 #[vR r0, vR zm, vR zm, vI 24, vI 1, .unset, .unset, .unset] [(.ref r0), (.int (1 : Int32))])) rfl (by rw [hml]; rfl) [] [(.int (1 : Int32))] rfl (lenOf pd_3 rfl) rfl (by show 2 * 0 + _ ≤ _; exact Nat.le_of_eq rfl) (hb hby d5_71) ?_
  intro T254 L254 v254 X254 q254
  obtain ⟨rfl, N254, hh254⟩ := q254
  obtain ⟨lc254, X254h, N254h⟩ := own_hide X254 (Fr.app N230h N254)
  show G (T254.setTop (mkF m 74 #[vR r0, vR zm, vR zm, vI 24, vI 1, .unset, .unset, .unset] [(.int ((64 : Int32) - pos)), (.int (1 : Int32))]))
  refine go _ _ (fun _ k => XS.icmpYes X254h.here hx rfl (pc0 := 74) (pc' := 94) rfl (hb hby d5_74) rfl (Free.XT.ii_lt_t (own_rem64 1 (kk := 1) rfl hpos (by omega))) (by decide) (by decide) k) ?_
  show G (T254.setTop (mkF m 94 #[vR r0, vR zm, vR zm, vI 24, vI 1, .unset, .unset, .unset] []))
  refine go _ _ (fun _ k => XS.iload X254h.here hx rfl (hb hby d5_94) rfl  k) ?_
  show G (T254.setTop (mkF m 96 #[vR r0, vR zm, vR zm, vI 24, vI 1, .unset, .unset, .unset] [(.int (1 : Int32))]))
  refine go _ _ (fun _ k => XS.ifYes X254h.here hx rfl (pc0 := 96) (pc' := 106) rfl (hb hby d5_96) rfl (Free.XT.i0_ne_t (by decide)) (by decide) (by decide) k) ?_
  show G (T254.setTop (mkF m 106 #[vR r0, vR zm, vR zm, vI 24, vI 1, .unset, .unset, .unset] []))
  refine go _ _ (fun _ k => XS.lconst X254h.here hx rfl (hb hby d5_106) k) ?_
  show G (T254.setTop (mkF m 107 #[vR r0, vR zm, vR zm, vI 24, vI 1, .unset, .unset, .unset] [(.long (0 : Int64))]))
  refine go _ _ (fun _ k => XS.lstore X254h.here hx rfl (hb hby d5_107) rfl (l' := #[vR r0, vR zm, vR zm, vI 24, vI 1, .val (.long (0 : Int64)), .second, .unset]) rfl k) ?_
  show G (T254.setTop (mkF m 109 #[vR r0, vR zm, vR zm, vI 24, vI 1, .val (.long (0 : Int64)), .second, .unset] []))
  refine go _ _ (fun _ k => XS.iconst X254h.here hx rfl (hb hby d5_109) k) ?_
  show G (T254.setTop (mkF m 110 #[vR r0, vR zm, vR zm, vI 24, vI 1, .val (.long (0 : Int64)), .second, .unset] [(.int (1 : Int32))]))
  refine go _ _ (fun _ k => XS.istore X254h.here hx rfl (hb hby d5_110) rfl (l' := #[vR r0, vR zm, vR zm, vI 24, vI 1, .val (.long (0 : Int64)), .second, vI 1]) rfl k) ?_
  show G (T254.setTop (mkF m 112 #[vR r0, vR zm, vR zm, vI 24, vI 1, .val (.long (0 : Int64)), .second, vI 1] []))
  refine go _ _ (fun _ k => XS.iload X254h.here hx rfl (hb hby d5_112) rfl  k) ?_
  show G (T254.setTop (mkF m 114 #[vR r0, vR zm, vR zm, vI 24, vI 1, .val (.long (0 : Int64)), .second, vI 1] [(.int (1 : Int32))]))
  refine go _ _ (fun _ k => XS.iload X254h.here hx rfl (hb hby d5_114) rfl  k) ?_
  show G (T254.setTop (mkF m 116 #[vR r0, vR zm, vR zm, vI 24, vI 1, .val (.long (0 : Int64)), .second, vI 1] [(.int (1 : Int32)), (.int (1 : Int32))]))
  refine go _ _ (fun _ k => XS.icmpNo X254h.here hx rfl (hb hby d5_116) rfl (Free.XT.ii_gt_f (by decide)) k) ?_
  show G (T254.setTop (mkF m 119 #[vR r0, vR zm, vR zm, vI 24, vI 1, .val (.long (0 : Int64)), .second, vI 1] []))
  refine go _ _ (fun _ k => XS.lload X254h.here hx rfl (hb hby d5_119) rfl  k) ?_
  show G (T254.setTop (mkF m 121 #[vR r0, vR zm, vR zm, vI 24, vI 1, .val (.long (0 : Int64)), .second, vI 1] [(.long (0 : Int64))]))
  refine go _ _ (fun _ k => XS.bipush X254h.here hx rfl (hb hby d5_121) k) ?_
  show G (T254.setTop (mkF m 123 #[vR r0, vR zm, vR zm, vI 24, vI 1, .val (.long (0 : Int64)), .second, vI 1] [(.int (8 : Int32)), (.long (0 : Int64))]))
  refine go _ _ (fun _ k => XS.lshl X254h.here hx rfl (hb hby d5_123) rfl k) ?_
  show G (T254.setTop (mkF m 124 #[vR r0, vR zm, vR zm, vI 24, vI 1, .val (.long (0 : Int64)), .second, vI 1] [(.long ((0 : Int64) <<< ((8 : Int32) &&& 0x3f).toInt64))]))
  refine go _ _ (fun _ k => XS.aloadN X254h.here hx rfl (hb hby d5_124) rfl rfl  k) ?_
  show G (T254.setTop (mkF m 125 #[vR r0, vR zm, vR zm, vI 24, vI 1, .val (.long (0 : Int64)), .second, vI 1] [(.ref r0), (.long ((0 : Int64) <<< ((8 : Int32) &&& 0x3f).toInt64))]))
  obtain ⟨T255, X255, e255, st255⟩ := getF X254h hx hZ hown (host := "") (Or.inl (wd hw 13 rfl)) Via.refl hh254 Fi (g := (mkF m 125 #[vR r0, vR zm, vR zm, vI 24, vI 1, .val (.long (0 : Int64)), .second, vI 1] [(.ref r0), (.long ((0 : Int64) <<< ((8 : Int32) &&& 0x3f).toInt64))])) rfl rfl (hb hby d5_125)
  refine go _ _ st255 ?_
  show G (T255.setTop (mkF m 128 #[vR r0, vR zm, vR zm, vI 24, vI 1, .val (.long (0 : Int64)), .second, vI 1] [(.ref r1), (.long ((0 : Int64) <<< ((8 : Int32) &&& 0x3f).toInt64))]))
  refine go _ _ (fun _ k => XS.aloadN X255.here hx rfl (hb hby d5_128) rfl rfl  k) ?_
  show G (T255.setTop (mkF m 129 #[vR r0, vR zm, vR zm, vI 24, vI 1, .val (.long (0 : Int64)), .second, vI 1] [(.ref r0), (.ref r1), (.long ((0 : Int64) <<< ((8 : Int32) &&& 0x3f).toInt64))]))
  obtain ⟨T256, X256, e256, st256⟩ := getF X255 hx hZ hown (host := "") (Or.inl (wd hw 35 rfl)) Via.refl e255 Fp (g := (mkF m 129 #[vR r0, vR zm, vR zm, vI 24, vI 1, .val (.long (0 : Int64)), .second, vI 1] [(.ref r0), (.ref r1), (.long ((0 : Int64) <<< ((8 : Int32) &&& 0x3f).toInt64))])) rfl rfl (hb hby d5_129)
  refine go _ _ st256 ?_
  show G (T256.setTop (mkF m 132 #[vR r0, vR zm, vR zm, vI 24, vI 1, .val (.long (0 : Int64)), .second, vI 1] [(.int pos), (.ref r1), (.long ((0 : Int64) <<< ((8 : Int32) &&& 0x3f).toInt64))]))
  refine go _ _ (fun _ k => XS.iload X256.here hx rfl (hb hby d5_132) rfl  k) ?_
  show G (T256.setTop (mkF m 134 #[vR r0, vR zm, vR zm, vI 24, vI 1, .val (.long (0 : Int64)), .second, vI 1] [(.int (1 : Int32)), (.int pos), (.ref r1), (.long ((0 : Int64) <<< ((8 : Int32) &&& 0x3f).toInt64))]))
  refine go _ _ (fun _ k => XS.iadd X256.here hx rfl (hb hby d5_134) rfl k) ?_
  show G (T256.setTop (mkF m 135 #[vR r0, vR zm, vR zm, vI 24, vI 1, .val (.long (0 : Int64)), .second, vI 1] [(.int (pos + (1 : Int32))), (.ref r1), (.long ((0 : Int64) <<< ((8 : Int32) &&& 0x3f).toInt64))]))
  refine own_baload go X256 hx hZ e256 (pn + 1) (own_add hpos (by rfl) (by omega)) (by omega) (g := (mkF m 135 #[vR r0, vR zm, vR zm, vI 24, vI 1, .val (.long (0 : Int64)), .second, vI 1] [(.int (pos + (1 : Int32))), (.ref r1), (.long ((0 : Int64) <<< ((8 : Int32) &&& 0x3f).toInt64))])) rfl A rfl (hb hby d5_135) ?_
  show G (T256.setTop (mkF m 136 #[vR r0, vR zm, vR zm, vI 24, vI 1, .val (.long (0 : Int64)), .second, vI 1] [(.int (g (pn + 1))), (.long ((0 : Int64) <<< ((8 : Int32) &&& 0x3f).toInt64))]))
  refine go _ _ (fun _ k => XS.sipush X256.here hx rfl (hb hby d5_136) k) ?_
  show G (T256.setTop (mkF m 139 #[vR r0, vR zm, vR zm, vI 24, vI 1, .val (.long (0 : Int64)), .second, vI 1] [(.int (255 : Int32)), (.int (g (pn + 1))), (.long ((0 : Int64) <<< ((8 : Int32) &&& 0x3f).toInt64))]))
  refine go _ _ (fun _ k => XS.iand X256.here hx rfl (hb hby d5_139) rfl k) ?_
  show G (T256.setTop (mkF m 140 #[vR r0, vR zm, vR zm, vI 24, vI 1, .val (.long (0 : Int64)), .second, vI 1] [(.int ((g (pn + 1)) &&& (255 : Int32))), (.long ((0 : Int64) <<< ((8 : Int32) &&& 0x3f).toInt64))]))
  refine go _ _ (fun _ k => XS.i2l X256.here hx rfl (hb hby d5_140) rfl k) ?_
  show G (T256.setTop (mkF m 141 #[vR r0, vR zm, vR zm, vI 24, vI 1, .val (.long (0 : Int64)), .second, vI 1] [(.long (((g (pn + 1)) &&& (255 : Int32)).toInt64)), (.long ((0 : Int64) <<< ((8 : Int32) &&& 0x3f).toInt64))]))
  refine go _ _ (fun _ k => XS.lor X256.here hx rfl (hb hby d5_141) rfl k) ?_
  show G (T256.setTop (mkF m 142 #[vR r0, vR zm, vR zm, vI 24, vI 1, .val (.long (0 : Int64)), .second, vI 1] [(.long (((0 : Int64) <<< ((8 : Int32) &&& 0x3f).toInt64) ||| (((g (pn + 1)) &&& (255 : Int32)).toInt64)))]))
  rw [d2, own_or0]
  show G (T256.setTop (mkF m 142 #[vR r0, vR zm, vR zm, vI 24, vI 1, .val (.long (0 : Int64)), .second, vI 1] [(.long ((Int32.ofNat cn).toInt64))]))
  refine go _ _ (fun _ k => XS.lstore X256.here hx rfl (hb hby d5_142) rfl (l' := #[vR r0, vR zm, vR zm, vI 24, vI 1, .val (.long ((Int32.ofNat cn).toInt64)), .second, vI 1]) rfl k) ?_
  show G (T256.setTop (mkF m 144 #[vR r0, vR zm, vR zm, vI 24, vI 1, .val (.long ((Int32.ofNat cn).toInt64)), .second, vI 1] []))
  refine go _ _ (fun _ k => XS.iinc X256.here hx rfl (hb hby d5_144) rfl (l' := #[vR r0, vR zm, vR zm, vI 24, vI 1, .val (.long ((Int32.ofNat cn).toInt64)), .second, vI ((1 : Int32) + (1 : Int32))]) rfl k) ?_
  show G (T256.setTop (mkF m 147 #[vR r0, vR zm, vR zm, vI 24, vI 1, .val (.long ((Int32.ofNat cn).toInt64)), .second, vI ((1 : Int32) + (1 : Int32))] []))
  refine go _ _ (fun _ k => XS.goto X256.here hx rfl (pc0 := 147) (pc' := 112) rfl (hb hby d5_147) (by decide) (by decide) k) ?_
  show G (T256.setTop (mkF m 112 #[vR r0, vR zm, vR zm, vI 24, vI 1, .val (.long ((Int32.ofNat cn).toInt64)), .second, vI ((1 : Int32) + (1 : Int32))] []))
  show G (T256.setTop (mkF m 112 #[vR r0, vR zm, vR zm, vI 24, vI 1, .val (.long ((Int32.ofNat cn).toInt64)), .second, vI 2] []))
  refine go _ _ (fun _ k => XS.iload X256.here hx rfl (hb hby d5_112) rfl  k) ?_
  show G (T256.setTop (mkF m 114 #[vR r0, vR zm, vR zm, vI 24, vI 1, .val (.long ((Int32.ofNat cn).toInt64)), .second, vI 2] [(.int (2 : Int32))]))
  refine go _ _ (fun _ k => XS.iload X256.here hx rfl (hb hby d5_114) rfl  k) ?_
  show G (T256.setTop (mkF m 116 #[vR r0, vR zm, vR zm, vI 24, vI 1, .val (.long ((Int32.ofNat cn).toInt64)), .second, vI 2] [(.int (1 : Int32)), (.int (2 : Int32))]))
  refine go _ _ (fun _ k => XS.icmpYes X256.here hx rfl (pc0 := 116) (pc' := 150) rfl (hb hby d5_116) rfl (Free.XT.ii_gt_t (by decide)) (by decide) (by decide) k) ?_
  show G (T256.setTop (mkF m 150 #[vR r0, vR zm, vR zm, vI 24, vI 1, .val (.long ((Int32.ofNat cn).toInt64)), .second, vI 2] []))
  refine go _ _ (fun _ k => XS.aloadN X256.here hx rfl (hb hby d5_150) rfl rfl  k) ?_
  show G (T256.setTop (mkF m 151 #[vR r0, vR zm, vR zm, vI 24, vI 1, .val (.long ((Int32.ofNat cn).toInt64)), .second, vI 2] [(.ref r0)]))
  refine go _ _ (fun _ k => XS.dup X256.here hx rfl (hb hby d5_151) rfl rfl k) ?_
  show G (T256.setTop (mkF m 152 #[vR r0, vR zm, vR zm, vI 24, vI 1, .val (.long ((Int32.ofNat cn).toInt64)), .second, vI 2] [(.ref r0), (.ref r0)]))
  obtain ⟨T257, X257, e257, st257⟩ := getF X256 hx hZ hown (host := "") (Or.inl (wd hw 35 rfl)) Via.refl e256 Fp (g := (mkF m 152 #[vR r0, vR zm, vR zm, vI 24, vI 1, .val (.long ((Int32.ofNat cn).toInt64)), .second, vI 2] [(.ref r0), (.ref r0)])) rfl rfl (hb hby d5_152)
  refine go _ _ st257 ?_
  show G (T257.setTop (mkF m 155 #[vR r0, vR zm, vR zm, vI 24, vI 1, .val (.long ((Int32.ofNat cn).toInt64)), .second, vI 2] [(.int pos), (.ref r0)]))
  refine go _ _ (fun _ k => XS.iconst X257.here hx rfl (hb hby d5_155) k) ?_
  show G (T257.setTop (mkF m 156 #[vR r0, vR zm, vR zm, vI 24, vI 1, .val (.long ((Int32.ofNat cn).toInt64)), .second, vI 2] [(.int (1 : Int32)), (.int pos), (.ref r0)]))
  refine go _ _ (fun _ k => XS.iload X257.here hx rfl (hb hby d5_156) rfl  k) ?_
  show G (T257.setTop (mkF m 158 #[vR r0, vR zm, vR zm, vI 24, vI 1, .val (.long ((Int32.ofNat cn).toInt64)), .second, vI 2] [(.int (1 : Int32)), (.int (1 : Int32)), (.int pos), (.ref r0)]))
  refine go _ _ (fun _ k => XS.iadd X257.here hx rfl (hb hby d5_158) rfl k) ?_
  show G (T257.setTop (mkF m 159 #[vR r0, vR zm, vR zm, vI 24, vI 1, .val (.long ((Int32.ofNat cn).toInt64)), .second, vI 2] [(.int ((1 : Int32) + (1 : Int32))), (.int pos), (.ref r0)]))
  refine go _ _ (fun _ k => XS.iadd X257.here hx rfl (hb hby d5_159) rfl k) ?_
  show G (T257.setTop (mkF m 160 #[vR r0, vR zm, vR zm, vI 24, vI 1, .val (.long ((Int32.ofNat cn).toInt64)), .second, vI 2] [(.int (pos + ((1 : Int32) + (1 : Int32)))), (.ref r0)]))
  obtain ⟨T258, h258, X258, e258, W258, st258⟩ := putF X257 hx hZ hown (host := "") (Or.inl (wd hw 35 rfl)) Via.refl e257 Fp E0 (Or.inl (wd hw 36 rfl)) (wd hw 2 rfl) (ty := .int) (by decide) rfl rfl (g := (mkF m 160 #[vR r0, vR zm, vR zm, vI 24, vI 1, .val (.long ((Int32.ofNat cn).toInt64)), .second, vI 2] [(.int (pos + ((1 : Int32) + (1 : Int32)))), (.ref r0)])) rfl rfl (hb hby d5_160)
  have F258 := Fp.same W258
  have K259 : Keep h0 h258 [r0, il] := (Keep.refl h0 [r0, il]).wr W258 (Or.inl (List.mem_of_getElem? (i := 0) rfl))
  obtain ⟨lc258, X258h, N258h⟩ := own_hide X258 (Fr.snoc X258 N254h g_r0)
  have Z260 : n0 ≤ h258.size := Nat.le_trans Z0 (Nat.le_of_eq W258.size.symm)
  refine go _ _ st258 ?_
  show G (T258.setTop (mkF m 163 #[vR r0, vR zm, vR zm, vI 24, vI 1, .val (.long ((Int32.ofNat cn).toInt64)), .second, vI 2] []))
  refine go _ _ (fun _ k => XS.aloadN X258h.here hx rfl (hb hby d5_163) rfl rfl  k) ?_
  show G (T258.setTop (mkF m 164 #[vR r0, vR zm, vR zm, vI 24, vI 1, .val (.long ((Int32.ofNat cn).toInt64)), .second, vI 2] [(.ref r0)]))
  have f261 := (Fd.other W258 (Or.inr (slot_ne (Or.inl (wd hw 51 rfl)) (Or.inl (wd hw 36 rfl)) (by decide) (t := .int) (t' := .int) (by decide) (by decide))))
  obtain ⟨T262, X262, e262, st262⟩ := getF X258h hx hZ hown (host := "") (Or.inl (wd hw 50 rfl)) Via.refl e258 f261 (g := (mkF m 164 #[vR r0, vR zm, vR zm, vI 24, vI 1, .val (.long ((Int32.ofNat cn).toInt64)), .second, vI 2] [(.ref r0)])) rfl rfl (hb hby d5_164)
  refine go _ _ st262 ?_
  show G (T262.setTop (mkF m 167 #[vR r0, vR zm, vR zm, vI 24, vI 1, .val (.long ((Int32.ofNat cn).toInt64)), .second, vI 2] [(.int dp)]))
  refine go _ _ (fun _ k => XS.ifNo X262.here hx rfl (hb hby d5_167) rfl (Free.XT.i0_le_f (own_pos hdp hd1)) k) ?_
  show G (T262.setTop (mkF m 170 #[vR r0, vR zm, vR zm, vI 24, vI 1, .val (.long ((Int32.ofNat cn).toInt64)), .second, vI 2] []))
  refine go _ _ (fun _ k => XS.aloadN X262.here hx rfl (hb hby d5_170) rfl rfl  k) ?_
  show G (T262.setTop (mkF m 171 #[vR r0, vR zm, vR zm, vI 24, vI 1, .val (.long ((Int32.ofNat cn).toInt64)), .second, vI 2] [(.ref zm)]))
  have f263 := (Szt.wr W258)
  obtain ⟨T264, X264, e264, st264⟩ := getS X262 hx hZ hown (host := "") (wd hw 69 rfl) Via.refl e262 f263 (g := (mkF m 171 #[vR r0, vR zm, vR zm, vI 24, vI 1, .val (.long ((Int32.ofNat cn).toInt64)), .second, vI 2] [(.ref zm)])) rfl (hb hby d5_171)
  refine go _ _ st264 ?_
  show G (T264.setTop (mkF m 174 #[vR r0, vR zm, vR zm, vI 24, vI 1, .val (.long ((Int32.ofNat cn).toInt64)), .second, vI 2] [(.ref zt), (.ref zm)]))
  refine go _ _ (fun _ k => Jvm.RoadKit.acmp (g := (mkF m 174 #[vR r0, vR zm, vR zm, vI 24, vI 1, .val (.long ((Int32.ofNat cn).toInt64)), .second, vI 2] [(.ref zt), (.ref zm)])) X264 hx rfl (x := (.ref zm)) (y := (.ref zt)) rfl rfl (rest := []) (pc0 := 174) (pc' := 177) (same := false) rfl (hb hby d5_174) rfl (decide_eq_false (fun z => nmt (Value.ref.inj z))) (by decide) (by decide) k) ?_
  show G (T264.setTop (mkF m 177 #[vR r0, vR zm, vR zm, vI 24, vI 1, .val (.long ((Int32.ofNat cn).toInt64)), .second, vI 2] []))
  refine go _ _ (fun _ k => XS.aloadN X264.here hx rfl (hb hby d5_177) rfl rfl  k) ?_
  show G (T264.setTop (mkF m 178 #[vR r0, vR zm, vR zm, vI 24, vI 1, .val (.long ((Int32.ofNat cn).toInt64)), .second, vI 2] [(.ref r0)]))
  have f265 := (Fl.other W258 (Or.inr (slot_ne (Or.inl (wd hw 12 rfl)) (Or.inl (wd hw 36 rfl)) (by decide) (t := (.array .int)) (t' := .int) (by decide) (by decide))))
  obtain ⟨T266, X266, e266, st266⟩ := getF X264 hx hZ hown (host := "") (Or.inl (wd hw 11 rfl)) Via.refl e264 f265 (g := (mkF m 178 #[vR r0, vR zm, vR zm, vI 24, vI 1, .val (.long ((Int32.ofNat cn).toInt64)), .second, vI 2] [(.ref r0)])) rfl rfl (hb hby d5_178)
  refine go _ _ st266 ?_
  show G (T266.setTop (mkF m 181 #[vR r0, vR zm, vR zm, vI 24, vI 1, .val (.long ((Int32.ofNat cn).toInt64)), .second, vI 2] [(.ref il)]))
  refine go _ _ (fun _ k => XS.aloadN X266.here hx rfl (hb hby d5_181) rfl rfl  k) ?_
  show G (T266.setTop (mkF m 182 #[vR r0, vR zm, vR zm, vI 24, vI 1, .val (.long ((Int32.ofNat cn).toInt64)), .second, vI 2] [(.ref r0), (.ref il)]))
  obtain ⟨T267, X267, e267, st267⟩ := getF X266 hx hZ hown (host := "") (Or.inl (wd hw 50 rfl)) Via.refl e266 f261 (g := (mkF m 182 #[vR r0, vR zm, vR zm, vI 24, vI 1, .val (.long ((Int32.ofNat cn).toInt64)), .second, vI 2] [(.ref r0), (.ref il)])) rfl rfl (hb hby d5_182)
  refine go _ _ st267 ?_
  show G (T267.setTop (mkF m 185 #[vR r0, vR zm, vR zm, vI 24, vI 1, .val (.long ((Int32.ofNat cn).toInt64)), .second, vI 2] [(.int dp), (.ref il)]))
  refine go _ _ (fun _ k => XS.iconst X267.here hx rfl (hb hby d5_185) k) ?_
  show G (T267.setTop (mkF m 186 #[vR r0, vR zm, vR zm, vI 24, vI 1, .val (.long ((Int32.ofNat cn).toInt64)), .second, vI 2] [(.int (1 : Int32)), (.int dp), (.ref il)]))
  refine go _ _ (fun _ k => XS.isub X267.here hx rfl (hb hby d5_186) rfl k) ?_
  show G (T267.setTop (mkF m 187 #[vR r0, vR zm, vR zm, vI 24, vI 1, .val (.long ((Int32.ofNat cn).toInt64)), .second, vI 2] [(.int (dp - (1 : Int32))), (.ref il)]))
  refine go _ _ (fun _ k => Free.XT.dup2 X267.here hx rfl (hb hby d5_187) rfl rfl rfl k) ?_
  show G (T267.setTop (mkF m 188 #[vR r0, vR zm, vR zm, vI 24, vI 1, .val (.long ((Int32.ofNat cn).toInt64)), .second, vI 2] [(.int (dp - (1 : Int32))), (.ref il), (.int (dp - (1 : Int32))), (.ref il)]))
  have f268 := (B.other W258 n20)
  refine own_iaload go X267 hx hZ e267 (dn - 1) (own_m1 hdp hd1 (by omega)) (by omega) (g := (mkF m 188 #[vR r0, vR zm, vR zm, vI 24, vI 1, .val (.long ((Int32.ofNat cn).toInt64)), .second, vI 2] [(.int (dp - (1 : Int32))), (.ref il), (.int (dp - (1 : Int32))), (.ref il)])) rfl f268 rfl (hb hby d5_188) ?_
  show G (T267.setTop (mkF m 189 #[vR r0, vR zm, vR zm, vI 24, vI 1, .val (.long ((Int32.ofNat cn).toInt64)), .second, vI 2] [(.int (t (dn - 1))), (.int (dp - (1 : Int32))), (.ref il)]))
  refine go _ _ (fun _ k => XS.iconst X267.here hx rfl (hb hby d5_189) k) ?_
  show G (T267.setTop (mkF m 190 #[vR r0, vR zm, vR zm, vI 24, vI 1, .val (.long ((Int32.ofNat cn).toInt64)), .second, vI 2] [(.int (1 : Int32)), (.int (t (dn - 1))), (.int (dp - (1 : Int32))), (.ref il)]))
  refine go _ _ (fun _ k => XS.isub X267.here hx rfl (hb hby d5_190) rfl k) ?_
  show G (T267.setTop (mkF m 191 #[vR r0, vR zm, vR zm, vI 24, vI 1, .val (.long ((Int32.ofNat cn).toInt64)), .second, vI 2] [(.int ((t (dn - 1)) - (1 : Int32))), (.int (dp - (1 : Int32))), (.ref il)]))
  refine own_iastore go X267 hx hZ e267 (dn - 1) (own_m1 hdp hd1 (by omega)) (by omega) (g := (mkF m 191 #[vR r0, vR zm, vR zm, vI 24, vI 1, .val (.long ((Int32.ofNat cn).toInt64)), .second, vI 2] [(.int ((t (dn - 1)) - (1 : Int32))), (.int (dp - (1 : Int32))), (.ref il)])) rfl f268 rfl (hb hby d5_191) ?_
  intro T269 h269 X269 e269 W269 A269
  have K270 : Keep h0 h269 [r0, il] := K259.wr W269 (Or.inl (List.mem_of_getElem? (i := 1) rfl))
  obtain ⟨lc269, X269h, N269h⟩ := own_hide X269 (Fr.snoc X269 N258h g_il)
  have Z271 : n0 ≤ h269.size := Nat.le_trans Z260 (Nat.le_of_eq W269.size.symm)
  have A269c := A269.cong (g := (fun i => .int ((upd t (dn - 1) (t (dn - 1) - 1)) i))) (own_upd rfl)
  show G (T269.setTop (mkF m 192 #[vR r0, vR zm, vR zm, vI 24, vI 1, .val (.long ((Int32.ofNat cn).toInt64)), .second, vI 2] []))
  refine go _ _ (fun _ k => XS.lload X269h.here hx rfl (hb hby d5_192) rfl  k) ?_
  show G (T269.setTop (mkF m 194 #[vR r0, vR zm, vR zm, vI 24, vI 1, .val (.long ((Int32.ofNat cn).toInt64)), .second, vI 2] [(.long ((Int32.ofNat cn).toInt64))]))
  refine own_retJ rt X269h hx hret (hb hby d5_194) (by decide) (by decide) ?_
  have f272 := ((E0.wr W258).wr W269)
  have f273 := (F258.other W269 (Or.inl (Ne.symm n20)))
  have f274 := ((Fi.other W258 (Or.inr (slot_ne (Or.inr (wd hw 14 rfl)) (Or.inl (wd hw 36 rfl)) (by decide) (t := (.array .byte)) (t' := .int) (by decide) (by decide)))).other W269 (Or.inl (Ne.symm n20)))
  have f275 := (f265.other W269 (Or.inl (Ne.symm n20)))
  have f276 := (f261.other W269 (Or.inl (Ne.symm n20)))
  rw [e269]
  exact ⟨rfl, N269h, K270, _, own_add hpos (by rfl) (by omega), f272, f273, f274, f275, f276, A269c⟩
theorem ef_rm_pk0d (m : MethodId) (x0 : Addr) : entryFrame m #[(.ref x0)] 4 = mkF m 0 #[.val (.ref x0), .unset, .unset, .unset] [] := by first | (simp [entryFrame, mkF, argsToLocals, Value.category]; done) | rfl
set_option maxRecDepth 65536 in
set_option maxHeartbeats 40000000 in
theorem rm_pk0d (l : Launch) (Z : State) (a0 : Array Value) (hw : ∀ d ∈ tables_1, d.before a0 Z = true) (r0 r1 il zu za zm zt : Addr) (pos dp : Int32) (pn dn sz : Nat) (g t : Nat → Int32) (w cn : Nat) (h0 : Heap) (n0 : Nat) (Z0 : n0 ≤ h0.size) (E0 : Exa Z h0 r0 "com/example/brevidns/brevidns/CborReader") (Fp : Fld Z h0 r0 "com/example/brevidns/brevidns/CborReader" "position" "I" (.int pos)) (Fi : Fld Z h0 r0 "com/example/brevidns/brevidns/CborReader" "input" "[B" (.ref r1)) (Fl : Fld Z h0 r0 "com/example/brevidns/brevidns/CborReader" "itemsLeft" "[I" (.ref il)) (Fd : Fld Z h0 r0 "com/example/brevidns/brevidns/CborReader" "depth" "I" (.int dp)) (A : Ary Z h0 r1 .byte 64 (fun i => .int (g i))) (B : Ary Z h0 il .int sz (fun i => .int (t i))) (n10 : r1 ≠ r0) (n20 : il ≠ r0) (n12 : r1 ≠ il) (hpos : pos.toInt = pn) (hdp : dp.toInt = dn) (Szu : Sta Z h0 "com/example/brevidns/brevidns/CborReader$Kind" "UNSIGNED_INTEGER" "Lcom/example/brevidns/brevidns/CborReader$Kind;" (.ref zu)) (Sza : Sta Z h0 "com/example/brevidns/brevidns/CborReader$Kind" "ARRAY" "Lcom/example/brevidns/brevidns/CborReader$Kind;" (.ref za)) (Szm : Sta Z h0 "com/example/brevidns/brevidns/CborReader$Kind" "MAP" "Lcom/example/brevidns/brevidns/CborReader$Kind;" (.ref zm)) (Szt : Sta Z h0 "com/example/brevidns/brevidns/CborReader$Kind" "TAG" "Lcom/example/brevidns/brevidns/CborReader$Kind;" (.ref zt)) (nut : zu ≠ zt) (nat : za ≠ zt) (nmt : zm ≠ zt) (hd : Head g 0 pn w cn) (hpw : pn + w ≤ 63) (hd1 : 1 ≤ dn) (hds : dn ≤ sz) (hs8 : sz ≤ 8) (ht : ¬ t (dn - 1) = 0) :
  Con l Z (⟨"com/example/brevidns/brevidns/CborReader", "peek", "()Lcom/example/brevidns/brevidns/CborReader$Kind;"⟩ : MethodName) prog_3_method_4_code 4 (some (.object "com/example/brevidns/brevidns/CborReader$Kind")) ({ frames := 1, cells := 0, slots := 0, locals := 12 } : Room) #[(.ref r0)] h0 (fun v h L => v = some (.ref zu) ∧ Fr n0 L ∧ h = h0) := by
 refine own_body pn_6 ?_
 intro p e s m below meth c s₁ hx hby hml hown hnm hret hZ e0 X0 G go rt
 have N0 := Fr.nil n0
 rw [ef_rm_pk0d m r0]
 have hww : w = 1 ∨ w = 2 := hd.ww
 have hrg := hd.rng
 have x2 := own_x31 (g pn)
 have x3 := hd.1
 show G (s₁.setTop (mkF m 0 #[vR r0, .unset, .unset, .unset] []))
 refine go _ _ (fun _ k => XS.aloadN X0.here hx rfl (hb hby d6_0) rfl rfl  k) ?_
 show G (s₁.setTop (mkF m 1 #[vR r0, .unset, .unset, .unset] [(.ref r0)]))
 refine own_private go X0 hx hZ e0 hown (wd hw 46 rfl) (wd hw 47 rfl) (wd hw 18 rfl) rfl (wd hw 48 rfl) (wd hw 3 rfl) (wd hw 49 rfl) (by decide) (rm_chd l Z a0 hw r0 il dp dn sz t h0 n0 Z0 Fl Fd B hdp hd1 hds hs8 ht) 0 (by decide) (by decide) (by decide) (by decide) E0 (g := (mkF m 1 #[vR r0, .unset, .unset, .unset] [(.ref r0)])) rfl (by rw [hml]; rfl) [] [] rfl (lenOf pd_0 rfl) rfl (by show 2 * 0 + _ ≤ _; exact Nat.le_of_eq rfl) (hb hby d6_1) ?_
 intro T277 L277 v277 X277 q277
 obtain ⟨rfl, N277, hh277⟩ := q277
 obtain ⟨lc277, X277h, N277h⟩ := own_hide X277 (Fr.app N0 N277)
 show G (T277.setTop (mkF m 4 #[vR r0, .unset, .unset, .unset] []))
 refine go _ _ (fun _ k => XS.aloadN X277h.here hx rfl (hb hby d6_4) rfl rfl  k) ?_
 show G (T277.setTop (mkF m 5 #[vR r0, .unset, .unset, .unset] [(.ref r0)]))
 refine own_virtual go X277h hx hZ hh277 hown (wd hw 52 rfl) (wd hw 53 rfl) (notFace_of_selects (args := #[]) (mvT hZ (wd hw 55 rfl))) (wd hw 55 rfl) (wd hw 54 rfl) (wd hw 3 rfl) (wd hw 56 rfl) (by decide) (rm_ae l Z a0 hw r0 r1 pos pn g h0 n0 Z0 Fi Fp A hpos (by omega)) 0 (by decide) (by decide) (by decide) (by decide) E0 (g := (mkF m 5 #[vR r0, .unset, .unset, .unset] [(.ref r0)])) rfl (by rw [hml]; rfl) [] [] rfl (lenOf pd_1 rfl) rfl (by show 2 * 0 + _ ≤ _; exact Nat.le_of_eq rfl) (hb hby d6_5) ?_
 intro T278 L278 v278 X278 q278
 obtain ⟨rfl, N278, hh278⟩ := q278
 obtain ⟨lc278, X278h, N278h⟩ := own_hide X278 (Fr.app N277h N278)
 show G (T278.setTop (mkF m 8 #[vR r0, .unset, .unset, .unset] [(.int (0 : Int32))]))
 refine go _ _ (fun _ k => XS.ifYes X278h.here hx rfl (pc0 := 8) (pc' := 21) rfl (hb hby d6_8) rfl (Free.XT.i0_eq_t (by decide)) (by decide) (by decide) k) ?_
 show G (T278.setTop (mkF m 21 #[vR r0, .unset, .unset, .unset] []))
 refine go _ _ (fun _ k => XS.aloadN X278h.here hx rfl (hb hby d6_21) rfl rfl  k) ?_
 show G (T278.setTop (mkF m 22 #[vR r0, .unset, .unset, .unset] [(.ref r0)]))
 obtain ⟨T279, X279, e279, st279⟩ := getF X278h hx hZ hown (host := "") (Or.inl (wd hw 13 rfl)) Via.refl hh278 Fi (g := (mkF m 22 #[vR r0, .unset, .unset, .unset] [(.ref r0)])) rfl rfl (hb hby d6_22)
 refine go _ _ st279 ?_
 show G (T279.setTop (mkF m 25 #[vR r0, .unset, .unset, .unset] [(.ref r1)]))
 refine go _ _ (fun _ k => XS.aloadN X279.here hx rfl (hb hby d6_25) rfl rfl  k) ?_
 show G (T279.setTop (mkF m 26 #[vR r0, .unset, .unset, .unset] [(.ref r0), (.ref r1)]))
 obtain ⟨T280, X280, e280, st280⟩ := getF X279 hx hZ hown (host := "") (Or.inl (wd hw 35 rfl)) Via.refl e279 Fp (g := (mkF m 26 #[vR r0, .unset, .unset, .unset] [(.ref r0), (.ref r1)])) rfl rfl (hb hby d6_26)
 refine go _ _ st280 ?_
 show G (T280.setTop (mkF m 29 #[vR r0, .unset, .unset, .unset] [(.int pos), (.ref r1)]))
 refine own_baload go X280 hx hZ e280 pn hpos (by omega) (g := (mkF m 29 #[vR r0, .unset, .unset, .unset] [(.int pos), (.ref r1)])) rfl A rfl (hb hby d6_29) ?_
 show G (T280.setTop (mkF m 30 #[vR r0, .unset, .unset, .unset] [(.int (g pn))]))
 refine go _ _ (fun _ k => XS.sipush X280.here hx rfl (hb hby d6_30) k) ?_
 show G (T280.setTop (mkF m 33 #[vR r0, .unset, .unset, .unset] [(.int (255 : Int32)), (.int (g pn))]))
 refine go _ _ (fun _ k => XS.iand X280.here hx rfl (hb hby d6_33) rfl k) ?_
 show G (T280.setTop (mkF m 34 #[vR r0, .unset, .unset, .unset] [(.int ((g pn) &&& (255 : Int32)))]))
 refine go _ _ (fun _ k => XS.istoreN X280.here hx rfl (hb hby d6_34) rfl (l' := #[vR r0, vI ((g pn) &&& (255 : Int32)), .unset, .unset]) rfl k) ?_
 show G (T280.setTop (mkF m 35 #[vR r0, vI ((g pn) &&& (255 : Int32)), .unset, .unset] []))
 refine go _ _ (fun _ k => XS.iloadN X280.here hx rfl (hb hby d6_35) rfl  k) ?_
 show G (T280.setTop (mkF m 36 #[vR r0, vI ((g pn) &&& (255 : Int32)), .unset, .unset] [(.int ((g pn) &&& (255 : Int32)))]))
 refine go _ _ (fun _ k => XS.bipush X280.here hx rfl (hb hby d6_36) k) ?_
 show G (T280.setTop (mkF m 38 #[vR r0, vI ((g pn) &&& (255 : Int32)), .unset, .unset] [(.int (31 : Int32)), (.int ((g pn) &&& (255 : Int32)))]))
 refine go _ _ (fun _ k => XS.iand X280.here hx rfl (hb hby d6_38) rfl k) ?_
 show G (T280.setTop (mkF m 39 #[vR r0, vI ((g pn) &&& (255 : Int32)), .unset, .unset] [(.int (((g pn) &&& (255 : Int32)) &&& (31 : Int32)))]))
 rw [x2]
 show G (T280.setTop (mkF m 39 #[vR r0, vI ((g pn) &&& (255 : Int32)), .unset, .unset] [(.int (g pn &&& (31 : Int32)))]))
 refine go _ _ (fun _ k => XS.istoreN X280.here hx rfl (hb hby d6_39) rfl (l' := #[vR r0, vI ((g pn) &&& (255 : Int32)), vI (g pn &&& (31 : Int32)), .unset]) rfl k) ?_
 show G (T280.setTop (mkF m 40 #[vR r0, vI ((g pn) &&& (255 : Int32)), vI (g pn &&& (31 : Int32)), .unset] []))
 refine go _ _ (fun _ k => XS.iloadN X280.here hx rfl (hb hby d6_40) rfl  k) ?_
 show G (T280.setTop (mkF m 41 #[vR r0, vI ((g pn) &&& (255 : Int32)), vI (g pn &&& (31 : Int32)), .unset] [(.int (g pn &&& (31 : Int32)))]))
 refine go _ _ (fun _ k => XS.bipush X280.here hx rfl (hb hby d6_41) k) ?_
 show G (T280.setTop (mkF m 43 #[vR r0, vI ((g pn) &&& (255 : Int32)), vI (g pn &&& (31 : Int32)), .unset] [(.int (31 : Int32)), (.int (g pn &&& (31 : Int32)))]))
 refine go _ _ (fun _ k => XS.icmpYes X280.here hx rfl (pc0 := 43) (pc' := 63) rfl (hb hby d6_43) rfl (Free.XT.ii_ne_t (fun z => absurd (z ▸ hrg.2) (by decide))) (by decide) (by decide) k) ?_
 show G (T280.setTop (mkF m 63 #[vR r0, vI ((g pn) &&& (255 : Int32)), vI (g pn &&& (31 : Int32)), .unset] []))
 refine go _ _ (fun _ k => XS.iloadN X280.here hx rfl (hb hby d6_63) rfl  k) ?_
 show G (T280.setTop (mkF m 64 #[vR r0, vI ((g pn) &&& (255 : Int32)), vI (g pn &&& (31 : Int32)), .unset] [(.int (g pn &&& (31 : Int32)))]))
 refine go _ _ (fun _ k => XS.bipush X280.here hx rfl (hb hby d6_64) k) ?_
 show G (T280.setTop (mkF m 66 #[vR r0, vI ((g pn) &&& (255 : Int32)), vI (g pn &&& (31 : Int32)), .unset] [(.int (27 : Int32)), (.int (g pn &&& (31 : Int32)))]))
 refine go _ _ (fun _ k => XS.icmpYes X280.here hx rfl (pc0 := 66) (pc' := 90) rfl (hb hby d6_66) rfl (Free.XT.ii_le_t (fun z => absurd (Int32.lt_iff_toInt_lt.mp z) (by have e : (27 : Int32).toInt = 27 := rfl; omega))) (by decide) (by decide) k) ?_
 show G (T280.setTop (mkF m 90 #[vR r0, vI ((g pn) &&& (255 : Int32)), vI (g pn &&& (31 : Int32)), .unset] []))
 refine go _ _ (fun _ k => XS.iloadN X280.here hx rfl (hb hby d6_90) rfl  k) ?_
 show G (T280.setTop (mkF m 91 #[vR r0, vI ((g pn) &&& (255 : Int32)), vI (g pn &&& (31 : Int32)), .unset] [(.int ((g pn) &&& (255 : Int32)))]))
 refine go _ _ (fun _ k => XS.iconst X280.here hx rfl (hb hby d6_91) k) ?_
 show G (T280.setTop (mkF m 92 #[vR r0, vI ((g pn) &&& (255 : Int32)), vI (g pn &&& (31 : Int32)), .unset] [(.int (5 : Int32)), (.int ((g pn) &&& (255 : Int32)))]))
 refine go _ _ (fun _ k => XS.iushr X280.here hx rfl (hb hby d6_92) rfl k) ?_
 show G (T280.setTop (mkF m 93 #[vR r0, vI ((g pn) &&& (255 : Int32)), vI (g pn &&& (31 : Int32)), .unset] [(.int ((((g pn) &&& (255 : Int32)).toUInt32 >>> ((5 : Int32) &&& 31).toUInt32).toInt32))]))
 rw [x3]
 show G (T280.setTop (mkF m 93 #[vR r0, vI ((g pn) &&& (255 : Int32)), vI (g pn &&& (31 : Int32)), .unset] [(.int (0 : Int32))]))
 refine go _ _ (fun _ k => XS.tswIn X280.here hx rfl (pc0 := 93) (pc' := 136) rfl (hb hby d6_93) rfl (by decide) (o := 43) (by decide) (by decide) (by decide) k) ?_
 show G (T280.setTop (mkF m 136 #[vR r0, vI ((g pn) &&& (255 : Int32)), vI (g pn &&& (31 : Int32)), .unset] []))
 obtain ⟨T281, X281, e281, st281⟩ := getS X280 hx hZ hown (host := "") (wd hw 112 rfl) Via.refl e280 Szu (g := (mkF m 136 #[vR r0, vI ((g pn) &&& (255 : Int32)), vI (g pn &&& (31 : Int32)), .unset] [])) rfl (hb hby d6_136)
 refine go _ _ st281 ?_
 show G (T281.setTop (mkF m 139 #[vR r0, vI ((g pn) &&& (255 : Int32)), vI (g pn &&& (31 : Int32)), .unset] [(.ref zu)]))
 refine go _ _ (fun _ k => XS.astoreN X281.here hx rfl (hb hby d6_139) rfl rfl (l' := #[vR r0, vI ((g pn) &&& (255 : Int32)), vI (g pn &&& (31 : Int32)), vR zu]) rfl k) ?_
 show G (T281.setTop (mkF m 140 #[vR r0, vI ((g pn) &&& (255 : Int32)), vI (g pn &&& (31 : Int32)), vR zu] []))
 refine go _ _ (fun _ k => XS.goto X281.here hx rfl (pc0 := 140) (pc' := 221) rfl (hb hby d6_140) (by decide) (by decide) k) ?_
 show G (T281.setTop (mkF m 221 #[vR r0, vI ((g pn) &&& (255 : Int32)), vI (g pn &&& (31 : Int32)), vR zu] []))
 refine go _ _ (fun _ k => XS.aloadN X281.here hx rfl (hb hby d6_221) rfl rfl  k) ?_
 show G (T281.setTop (mkF m 222 #[vR r0, vI ((g pn) &&& (255 : Int32)), vI (g pn &&& (31 : Int32)), vR zu] [(.ref zu)]))
 refine own_retA rt X281 hx hret rfl rfl (hb hby d6_222) (by decide) (by decide) ?_
 exact ⟨rfl, N278h, e281⟩
theorem ef_rm_rh0d (m : MethodId) (x0 : Addr) (x1 : Addr) : entryFrame m #[(.ref x0), (.ref x1)] 8 = mkF m 0 #[.val (.ref x0), .val (.ref x1), .unset, .unset, .unset, .unset, .unset, .unset] [] := by first | (simp [entryFrame, mkF, argsToLocals, Value.category]; done) | rfl
set_option maxRecDepth 65536 in
set_option maxHeartbeats 40000000 in
theorem rm_rh0d (l : Launch) (Z : State) (a0 : Array Value) (hw : ∀ d ∈ tables_1, d.before a0 Z = true) (r0 r1 il zu za zm zt : Addr) (pos dp : Int32) (pn dn sz : Nat) (g t : Nat → Int32) (w cn : Nat) (h0 : Heap) (n0 : Nat) (Z0 : n0 ≤ h0.size) (g_r0 : n0 ≤ r0) (g_il : n0 ≤ il) (E0 : Exa Z h0 r0 "com/example/brevidns/brevidns/CborReader") (Fp : Fld Z h0 r0 "com/example/brevidns/brevidns/CborReader" "position" "I" (.int pos)) (Fi : Fld Z h0 r0 "com/example/brevidns/brevidns/CborReader" "input" "[B" (.ref r1)) (Fl : Fld Z h0 r0 "com/example/brevidns/brevidns/CborReader" "itemsLeft" "[I" (.ref il)) (Fd : Fld Z h0 r0 "com/example/brevidns/brevidns/CborReader" "depth" "I" (.int dp)) (A : Ary Z h0 r1 .byte 64 (fun i => .int (g i))) (B : Ary Z h0 il .int sz (fun i => .int (t i))) (n10 : r1 ≠ r0) (n20 : il ≠ r0) (n12 : r1 ≠ il) (hpos : pos.toInt = pn) (hdp : dp.toInt = dn) (Szu : Sta Z h0 "com/example/brevidns/brevidns/CborReader$Kind" "UNSIGNED_INTEGER" "Lcom/example/brevidns/brevidns/CborReader$Kind;" (.ref zu)) (Sza : Sta Z h0 "com/example/brevidns/brevidns/CborReader$Kind" "ARRAY" "Lcom/example/brevidns/brevidns/CborReader$Kind;" (.ref za)) (Szm : Sta Z h0 "com/example/brevidns/brevidns/CborReader$Kind" "MAP" "Lcom/example/brevidns/brevidns/CborReader$Kind;" (.ref zm)) (Szt : Sta Z h0 "com/example/brevidns/brevidns/CborReader$Kind" "TAG" "Lcom/example/brevidns/brevidns/CborReader$Kind;" (.ref zt)) (nut : zu ≠ zt) (nat : za ≠ zt) (nmt : zm ≠ zt) (hd : Head g 0 pn w cn) (hpw : pn + w ≤ 63) (hd1 : 1 ≤ dn) (hds : dn ≤ sz) (hs8 : sz ≤ 8) (ht : ¬ t (dn - 1) = 0) :
  Con l Z (⟨"com/example/brevidns/brevidns/CborReader", "readHead", "(Lcom/example/brevidns/brevidns/CborReader$Kind;)J"⟩ : MethodName) prog_3_method_20_code 8 (some .long) ({ frames := 2, cells := 0, slots := 0, locals := 27 } : Room) #[(.ref r0), (.ref zu)] h0 (fun v h L => v = some (.long (Int32.ofNat cn).toInt64) ∧ Fr n0 L ∧ Keep h0 h [r0, il] ∧ ∃ pos2 : Int32, pos2.toInt = ((pn + w : Nat) : Int) ∧ Exa Z h r0 "com/example/brevidns/brevidns/CborReader" ∧ Fld Z h r0 "com/example/brevidns/brevidns/CborReader" "position" "I" (.int pos2) ∧ Fld Z h r0 "com/example/brevidns/brevidns/CborReader" "input" "[B" (.ref r1) ∧ Fld Z h r0 "com/example/brevidns/brevidns/CborReader" "itemsLeft" "[I" (.ref il) ∧ Fld Z h r0 "com/example/brevidns/brevidns/CborReader" "depth" "I" (.int dp) ∧ Ary Z h il .int sz (fun i => .int ((upd t (dn - 1) (t (dn - 1) - 1)) i))) := by
 refine own_body pn_5 ?_
 intro p e s m below meth c s₁ hx hby hml hown hnm hret hZ e0 X0 G go rt
 have N0 := Fr.nil n0
 rw [ef_rm_rh0d m r0 zu]
 have hww : w = 1 ∨ w = 2 := hd.ww
 show G (s₁.setTop (mkF m 0 #[vR r0, vR zu, .unset, .unset, .unset, .unset, .unset, .unset] []))
 refine go _ _ (fun _ k => XS.aloadN X0.here hx rfl (hb hby d5_0) rfl rfl  k) ?_
 show G (s₁.setTop (mkF m 1 #[vR r0, vR zu, .unset, .unset, .unset, .unset, .unset, .unset] [(.ref r0)]))
 refine own_virtual go X0 hx hZ e0 hown (wd hw 41 rfl) (wd hw 42 rfl) (notFace_of_selects (args := #[]) (mvT hZ (wd hw 44 rfl))) (wd hw 44 rfl) (wd hw 43 rfl) (wd hw 3 rfl) (wd hw 45 rfl) (by decide) (rm_pk0d l Z a0 hw r0 r1 il zu za zm zt pos dp pn dn sz g t w cn h0 n0 Z0 E0 Fp Fi Fl Fd A B n10 n20 n12 hpos hdp Szu Sza Szm Szt nut nat nmt hd hpw hd1 hds hs8 ht) 0 (by decide) (by decide) (by decide) (by decide) E0 (g := (mkF m 1 #[vR r0, vR zu, .unset, .unset, .unset, .unset, .unset, .unset] [(.ref r0)])) rfl (by rw [hml]; rfl) [] [] rfl (lenOf pd_2 rfl) rfl (by show 2 * 0 + _ ≤ _; exact Nat.le_of_eq rfl) (hb hby d5_1) ?_
 intro T282 L282 v282 X282 q282
 obtain ⟨rfl, N282, hh282⟩ := q282
 obtain ⟨lc282, X282h, N282h⟩ := own_hide X282 (Fr.app N0 N282)
 show G (T282.setTop (mkF m 4 #[vR r0, vR zu, .unset, .unset, .unset, .unset, .unset, .unset] [(.ref zu)]))
 refine go _ _ (fun _ k => XS.astoreN X282h.here hx rfl (hb hby d5_4) rfl rfl (l' := #[vR r0, vR zu, vR zu, .unset, .unset, .unset, .unset, .unset]) rfl k) ?_
 show G (T282.setTop (mkF m 5 #[vR r0, vR zu, vR zu, .unset, .unset, .unset, .unset, .unset] []))
 refine go _ _ (fun _ k => XS.aloadN X282h.here hx rfl (hb hby d5_5) rfl rfl  k) ?_
 show G (T282.setTop (mkF m 6 #[vR r0, vR zu, vR zu, .unset, .unset, .unset, .unset, .unset] [(.ref zu)]))
 refine go _ _ (fun _ k => XS.aloadN X282h.here hx rfl (hb hby d5_6) rfl rfl  k) ?_
 show G (T282.setTop (mkF m 7 #[vR r0, vR zu, vR zu, .unset, .unset, .unset, .unset, .unset] [(.ref zu), (.ref zu)]))
 refine go _ _ (fun _ k => Jvm.RoadKit.acmp (g := (mkF m 7 #[vR r0, vR zu, vR zu, .unset, .unset, .unset, .unset, .unset] [(.ref zu), (.ref zu)])) X282h hx rfl (x := (.ref zu)) (y := (.ref zu)) rfl rfl (rest := []) (pc0 := 7) (pc' := 35) (same := true) rfl (hb hby d5_7) rfl (decide_eq_true rfl) (by decide) (by decide) k) ?_
 show G (T282.setTop (mkF m 35 #[vR r0, vR zu, vR zu, .unset, .unset, .unset, .unset, .unset] []))
 refine go _ _ (fun _ k => XS.aloadN X282h.here hx rfl (hb hby d5_35) rfl rfl  k) ?_
 show G (T282.setTop (mkF m 36 #[vR r0, vR zu, vR zu, .unset, .unset, .unset, .unset, .unset] [(.ref r0)]))
 obtain ⟨T283, X283, e283, st283⟩ := getF X282h hx hZ hown (host := "") (Or.inl (wd hw 13 rfl)) Via.refl hh282 Fi (g := (mkF m 36 #[vR r0, vR zu, vR zu, .unset, .unset, .unset, .unset, .unset] [(.ref r0)])) rfl rfl (hb hby d5_36)
 refine go _ _ st283 ?_
 show G (T283.setTop (mkF m 39 #[vR r0, vR zu, vR zu, .unset, .unset, .unset, .unset, .unset] [(.ref r1)]))
 refine go _ _ (fun _ k => XS.aloadN X283.here hx rfl (hb hby d5_39) rfl rfl  k) ?_
 show G (T283.setTop (mkF m 40 #[vR r0, vR zu, vR zu, .unset, .unset, .unset, .unset, .unset] [(.ref r0), (.ref r1)]))
 obtain ⟨T284, X284, e284, st284⟩ := getF X283 hx hZ hown (host := "") (Or.inl (wd hw 35 rfl)) Via.refl e283 Fp (g := (mkF m 40 #[vR r0, vR zu, vR zu, .unset, .unset, .unset, .unset, .unset] [(.ref r0), (.ref r1)])) rfl rfl (hb hby d5_40)
 refine go _ _ st284 ?_
 show G (T284.setTop (mkF m 43 #[vR r0, vR zu, vR zu, .unset, .unset, .unset, .unset, .unset] [(.int pos), (.ref r1)]))
 refine own_baload go X284 hx hZ e284 pn hpos (by omega) (g := (mkF m 43 #[vR r0, vR zu, vR zu, .unset, .unset, .unset, .unset, .unset] [(.int pos), (.ref r1)])) rfl A rfl (hb hby d5_43) ?_
 show G (T284.setTop (mkF m 44 #[vR r0, vR zu, vR zu, .unset, .unset, .unset, .unset, .unset] [(.int (g pn))]))
 refine go _ _ (fun _ k => XS.bipush X284.here hx rfl (hb hby d5_44) k) ?_
 show G (T284.setTop (mkF m 46 #[vR r0, vR zu, vR zu, .unset, .unset, .unset, .unset, .unset] [(.int (31 : Int32)), (.int (g pn))]))
 refine go _ _ (fun _ k => XS.iand X284.here hx rfl (hb hby d5_46) rfl k) ?_
 show G (T284.setTop (mkF m 47 #[vR r0, vR zu, vR zu, .unset, .unset, .unset, .unset, .unset] [(.int ((g pn) &&& (31 : Int32)))]))
 rcases hd.2 with ⟨rfl, d1, d2⟩ | ⟨rfl, d1, d2, d3⟩
 ·rw [d1]
  show G (T284.setTop (mkF m 47 #[vR r0, vR zu, vR zu, .unset, .unset, .unset, .unset, .unset] [(.int (Int32.ofNat cn))]))
  refine go _ _ (fun _ k => XS.istoreN X284.here hx rfl (hb hby d5_47) rfl (l' := #[vR r0, vR zu, vR zu, vI (Int32.ofNat cn), .unset, .unset, .unset, .unset]) rfl k) ?_
  show G (T284.setTop (mkF m 48 #[vR r0, vR zu, vR zu, vI (Int32.ofNat cn), .unset, .unset, .unset, .unset] []))
  refine go _ _ (fun _ k => XS.iloadN X284.here hx rfl (hb hby d5_48) rfl  k) ?_
  show G (T284.setTop (mkF m 49 #[vR r0, vR zu, vR zu, vI (Int32.ofNat cn), .unset, .unset, .unset, .unset] [(.int (Int32.ofNat cn))]))
  refine go _ _ (fun _ k => XS.bipush X284.here hx rfl (hb hby d5_49) k) ?_
  show G (T284.setTop (mkF m 51 #[vR r0, vR zu, vR zu, vI (Int32.ofNat cn), .unset, .unset, .unset, .unset] [(.int (23 : Int32)), (.int (Int32.ofNat cn))]))
  refine go _ _ (fun _ k => XS.icmpNo X284.here hx rfl (hb hby d5_51) rfl (Free.XT.ii_gt_f (own_lt23 d2)) k) ?_
  show G (T284.setTop (mkF m 54 #[vR r0, vR zu, vR zu, vI (Int32.ofNat cn), .unset, .unset, .unset, .unset] []))
  refine go _ _ (fun _ k => XS.iconst X284.here hx rfl (hb hby d5_54) k) ?_
  show G (T284.setTop (mkF m 55 #[vR r0, vR zu, vR zu, vI (Int32.ofNat cn), .unset, .unset, .unset, .unset] [(.int (0 : Int32))]))
  refine go _ _ (fun _ k => XS.istore X284.here hx rfl (hb hby d5_55) rfl (l' := #[vR r0, vR zu, vR zu, vI (Int32.ofNat cn), vI 0, .unset, .unset, .unset]) rfl k) ?_
  show G (T284.setTop (mkF m 57 #[vR r0, vR zu, vR zu, vI (Int32.ofNat cn), vI 0, .unset, .unset, .unset] []))
  refine go _ _ (fun _ k => XS.goto X284.here hx rfl (pc0 := 57) (pc' := 68) rfl (hb hby d5_57) (by decide) (by decide) k) ?_
  show G (T284.setTop (mkF m 68 #[vR r0, vR zu, vR zu, vI (Int32.ofNat cn), vI 0, .unset, .unset, .unset] []))
  refine go _ _ (fun _ k => XS.iload X284.here hx rfl (hb hby d5_68) rfl  k) ?_
  show G (T284.setTop (mkF m 70 #[vR r0, vR zu, vR zu, vI (Int32.ofNat cn), vI 0, .unset, .unset, .unset] [(.int (0 : Int32))]))
  refine go _ _ (fun _ k => XS.aloadN X284.here hx rfl (hb hby d5_70) rfl rfl  k) ?_
  show G (T284.setTop (mkF m 71 #[vR r0, vR zu, vR zu, vI (Int32.ofNat cn), vI 0, .unset, .unset, .unset] [(.ref r0), (.int (0 : Int32))]))
  refine own_private go X284 hx hZ e284 hown (wd hw 57 rfl) (wd hw 58 rfl) (wd hw 18 rfl) rfl (wd hw 59 rfl) (wd hw 3 rfl) (wd hw 60 rfl) (by decide) (rm_re l Z a0 hw r0 r1 pos g h0 n0 Z0 Fi Fp A) 1 (by decide) (by decide) (by decide) (by decide) E0 (g := (mkF m 71 #[vR r0, vR zu, vR zu, vI (Int32.ofNat cn), vI 0, .unset, .unset, .unset] [(.ref r0), (.int (0 : Int32))])) rfl (by rw [hml]; rfl) [] [(.int (0 : Int32))] rfl (lenOf pd_3 rfl) rfl (by show 2 * 0 + _ ≤ _; exact Nat.le_of_eq rfl) (hb hby d5_71) ?_
  intro T285 L285 v285 X285 q285
  obtain ⟨rfl, N285, hh285⟩ := q285
  obtain ⟨lc285, X285h, N285h⟩ := own_hide X285 (Fr.app N282h N285)
  show G (T285.setTop (mkF m 74 #[vR r0, vR zu, vR zu, vI (Int32.ofNat cn), vI 0, .unset, .unset, .unset] [(.int ((64 : Int32) - pos)), (.int (0 : Int32))]))
  refine go _ _ (fun _ k => XS.icmpYes X285h.here hx rfl (pc0 := 74) (pc' := 94) rfl (hb hby d5_74) rfl (Free.XT.ii_lt_t (own_rem64 0 (kk := 0) rfl hpos (by omega))) (by decide) (by decide) k) ?_
  show G (T285.setTop (mkF m 94 #[vR r0, vR zu, vR zu, vI (Int32.ofNat cn), vI 0, .unset, .unset, .unset] []))
  refine go _ _ (fun _ k => XS.iload X285h.here hx rfl (hb hby d5_94) rfl  k) ?_
  show G (T285.setTop (mkF m 96 #[vR r0, vR zu, vR zu, vI (Int32.ofNat cn), vI 0, .unset, .unset, .unset] [(.int (0 : Int32))]))
  refine go _ _ (fun _ k => XS.ifNo X285h.here hx rfl (hb hby d5_96) rfl (Free.XT.i0_ne_f (by decide)) k) ?_
  show G (T285.setTop (mkF m 99 #[vR r0, vR zu, vR zu, vI (Int32.ofNat cn), vI 0, .unset, .unset, .unset] []))
  refine go _ _ (fun _ k => XS.iloadN X285h.here hx rfl (hb hby d5_99) rfl  k) ?_
  show G (T285.setTop (mkF m 100 #[vR r0, vR zu, vR zu, vI (Int32.ofNat cn), vI 0, .unset, .unset, .unset] [(.int (Int32.ofNat cn))]))
  refine go _ _ (fun _ k => XS.i2l X285h.here hx rfl (hb hby d5_100) rfl k) ?_
  show G (T285.setTop (mkF m 101 #[vR r0, vR zu, vR zu, vI (Int32.ofNat cn), vI 0, .unset, .unset, .unset] [(.long ((Int32.ofNat cn).toInt64))]))
  refine go _ _ (fun _ k => XS.lstore X285h.here hx rfl (hb hby d5_101) rfl (l' := #[vR r0, vR zu, vR zu, vI (Int32.ofNat cn), vI 0, .val (.long ((Int32.ofNat cn).toInt64)), .second, .unset]) rfl k) ?_
  show G (T285.setTop (mkF m 103 #[vR r0, vR zu, vR zu, vI (Int32.ofNat cn), vI 0, .val (.long ((Int32.ofNat cn).toInt64)), .second, .unset] []))
  refine go _ _ (fun _ k => XS.goto X285h.here hx rfl (pc0 := 103) (pc' := 150) rfl (hb hby d5_103) (by decide) (by decide) k) ?_
  show G (T285.setTop (mkF m 150 #[vR r0, vR zu, vR zu, vI (Int32.ofNat cn), vI 0, .val (.long ((Int32.ofNat cn).toInt64)), .second, .unset] []))
  refine go _ _ (fun _ k => XS.aloadN X285h.here hx rfl (hb hby d5_150) rfl rfl  k) ?_
  show G (T285.setTop (mkF m 151 #[vR r0, vR zu, vR zu, vI (Int32.ofNat cn), vI 0, .val (.long ((Int32.ofNat cn).toInt64)), .second, .unset] [(.ref r0)]))
  refine go _ _ (fun _ k => XS.dup X285h.here hx rfl (hb hby d5_151) rfl rfl k) ?_
  show G (T285.setTop (mkF m 152 #[vR r0, vR zu, vR zu, vI (Int32.ofNat cn), vI 0, .val (.long ((Int32.ofNat cn).toInt64)), .second, .unset] [(.ref r0), (.ref r0)]))
  obtain ⟨T286, X286, e286, st286⟩ := getF X285h hx hZ hown (host := "") (Or.inl (wd hw 35 rfl)) Via.refl hh285 Fp (g := (mkF m 152 #[vR r0, vR zu, vR zu, vI (Int32.ofNat cn), vI 0, .val (.long ((Int32.ofNat cn).toInt64)), .second, .unset] [(.ref r0), (.ref r0)])) rfl rfl (hb hby d5_152)
  refine go _ _ st286 ?_
  show G (T286.setTop (mkF m 155 #[vR r0, vR zu, vR zu, vI (Int32.ofNat cn), vI 0, .val (.long ((Int32.ofNat cn).toInt64)), .second, .unset] [(.int pos), (.ref r0)]))
  refine go _ _ (fun _ k => XS.iconst X286.here hx rfl (hb hby d5_155) k) ?_
  show G (T286.setTop (mkF m 156 #[vR r0, vR zu, vR zu, vI (Int32.ofNat cn), vI 0, .val (.long ((Int32.ofNat cn).toInt64)), .second, .unset] [(.int (1 : Int32)), (.int pos), (.ref r0)]))
  refine go _ _ (fun _ k => XS.iload X286.here hx rfl (hb hby d5_156) rfl  k) ?_
  show G (T286.setTop (mkF m 158 #[vR r0, vR zu, vR zu, vI (Int32.ofNat cn), vI 0, .val (.long ((Int32.ofNat cn).toInt64)), .second, .unset] [(.int (0 : Int32)), (.int (1 : Int32)), (.int pos), (.ref r0)]))
  refine go _ _ (fun _ k => XS.iadd X286.here hx rfl (hb hby d5_158) rfl k) ?_
  show G (T286.setTop (mkF m 159 #[vR r0, vR zu, vR zu, vI (Int32.ofNat cn), vI 0, .val (.long ((Int32.ofNat cn).toInt64)), .second, .unset] [(.int ((1 : Int32) + (0 : Int32))), (.int pos), (.ref r0)]))
  refine go _ _ (fun _ k => XS.iadd X286.here hx rfl (hb hby d5_159) rfl k) ?_
  show G (T286.setTop (mkF m 160 #[vR r0, vR zu, vR zu, vI (Int32.ofNat cn), vI 0, .val (.long ((Int32.ofNat cn).toInt64)), .second, .unset] [(.int (pos + ((1 : Int32) + (0 : Int32)))), (.ref r0)]))
  obtain ⟨T287, h287, X287, e287, W287, st287⟩ := putF X286 hx hZ hown (host := "") (Or.inl (wd hw 35 rfl)) Via.refl e286 Fp E0 (Or.inl (wd hw 36 rfl)) (wd hw 2 rfl) (ty := .int) (by decide) rfl rfl (g := (mkF m 160 #[vR r0, vR zu, vR zu, vI (Int32.ofNat cn), vI 0, .val (.long ((Int32.ofNat cn).toInt64)), .second, .unset] [(.int (pos + ((1 : Int32) + (0 : Int32)))), (.ref r0)])) rfl rfl (hb hby d5_160)
  have F287 := Fp.same W287
  have K288 : Keep h0 h287 [r0, il] := (Keep.refl h0 [r0, il]).wr W287 (Or.inl (List.mem_of_getElem? (i := 0) rfl))
  obtain ⟨lc287, X287h, N287h⟩ := own_hide X287 (Fr.snoc X287 N285h g_r0)
  have Z289 : n0 ≤ h287.size := Nat.le_trans Z0 (Nat.le_of_eq W287.size.symm)
  refine go _ _ st287 ?_
  show G (T287.setTop (mkF m 163 #[vR r0, vR zu, vR zu, vI (Int32.ofNat cn), vI 0, .val (.long ((Int32.ofNat cn).toInt64)), .second, .unset] []))
  refine go _ _ (fun _ k => XS.aloadN X287h.here hx rfl (hb hby d5_163) rfl rfl  k) ?_
  show G (T287.setTop (mkF m 164 #[vR r0, vR zu, vR zu, vI (Int32.ofNat cn), vI 0, .val (.long ((Int32.ofNat cn).toInt64)), .second, .unset] [(.ref r0)]))
  have f290 := (Fd.other W287 (Or.inr (slot_ne (Or.inl (wd hw 51 rfl)) (Or.inl (wd hw 36 rfl)) (by decide) (t := .int) (t' := .int) (by decide) (by decide))))
  obtain ⟨T291, X291, e291, st291⟩ := getF X287h hx hZ hown (host := "") (Or.inl (wd hw 50 rfl)) Via.refl e287 f290 (g := (mkF m 164 #[vR r0, vR zu, vR zu, vI (Int32.ofNat cn), vI 0, .val (.long ((Int32.ofNat cn).toInt64)), .second, .unset] [(.ref r0)])) rfl rfl (hb hby d5_164)
  refine go _ _ st291 ?_
  show G (T291.setTop (mkF m 167 #[vR r0, vR zu, vR zu, vI (Int32.ofNat cn), vI 0, .val (.long ((Int32.ofNat cn).toInt64)), .second, .unset] [(.int dp)]))
  refine go _ _ (fun _ k => XS.ifNo X291.here hx rfl (hb hby d5_167) rfl (Free.XT.i0_le_f (own_pos hdp hd1)) k) ?_
  show G (T291.setTop (mkF m 170 #[vR r0, vR zu, vR zu, vI (Int32.ofNat cn), vI 0, .val (.long ((Int32.ofNat cn).toInt64)), .second, .unset] []))
  refine go _ _ (fun _ k => XS.aloadN X291.here hx rfl (hb hby d5_170) rfl rfl  k) ?_
  show G (T291.setTop (mkF m 171 #[vR r0, vR zu, vR zu, vI (Int32.ofNat cn), vI 0, .val (.long ((Int32.ofNat cn).toInt64)), .second, .unset] [(.ref zu)]))
  have f292 := (Szt.wr W287)
  obtain ⟨T293, X293, e293, st293⟩ := getS X291 hx hZ hown (host := "") (wd hw 69 rfl) Via.refl e291 f292 (g := (mkF m 171 #[vR r0, vR zu, vR zu, vI (Int32.ofNat cn), vI 0, .val (.long ((Int32.ofNat cn).toInt64)), .second, .unset] [(.ref zu)])) rfl (hb hby d5_171)
  refine go _ _ st293 ?_
  show G (T293.setTop (mkF m 174 #[vR r0, vR zu, vR zu, vI (Int32.ofNat cn), vI 0, .val (.long ((Int32.ofNat cn).toInt64)), .second, .unset] [(.ref zt), (.ref zu)]))
  refine go _ _ (fun _ k => Jvm.RoadKit.acmp (g := (mkF m 174 #[vR r0, vR zu, vR zu, vI (Int32.ofNat cn), vI 0, .val (.long ((Int32.ofNat cn).toInt64)), .second, .unset] [(.ref zt), (.ref zu)])) X293 hx rfl (x := (.ref zu)) (y := (.ref zt)) rfl rfl (rest := []) (pc0 := 174) (pc' := 177) (same := false) rfl (hb hby d5_174) rfl (decide_eq_false (fun z => nut (Value.ref.inj z))) (by decide) (by decide) k) ?_
  show G (T293.setTop (mkF m 177 #[vR r0, vR zu, vR zu, vI (Int32.ofNat cn), vI 0, .val (.long ((Int32.ofNat cn).toInt64)), .second, .unset] []))
  refine go _ _ (fun _ k => XS.aloadN X293.here hx rfl (hb hby d5_177) rfl rfl  k) ?_
  show G (T293.setTop (mkF m 178 #[vR r0, vR zu, vR zu, vI (Int32.ofNat cn), vI 0, .val (.long ((Int32.ofNat cn).toInt64)), .second, .unset] [(.ref r0)]))
  have f294 := (Fl.other W287 (Or.inr (slot_ne (Or.inl (wd hw 12 rfl)) (Or.inl (wd hw 36 rfl)) (by decide) (t := (.array .int)) (t' := .int) (by decide) (by decide))))
  obtain ⟨T295, X295, e295, st295⟩ := getF X293 hx hZ hown (host := "") (Or.inl (wd hw 11 rfl)) Via.refl e293 f294 (g := (mkF m 178 #[vR r0, vR zu, vR zu, vI (Int32.ofNat cn), vI 0, .val (.long ((Int32.ofNat cn).toInt64)), .second, .unset] [(.ref r0)])) rfl rfl (hb hby d5_178)
  refine go _ _ st295 ?_
  show G (T295.setTop (mkF m 181 #[vR r0, vR zu, vR zu, vI (Int32.ofNat cn), vI 0, .val (.long ((Int32.ofNat cn).toInt64)), .second, .unset] [(.ref il)]))
  refine go _ _ (fun _ k => XS.aloadN X295.here hx rfl (hb hby d5_181) rfl rfl  k) ?_
  show G (T295.setTop (mkF m 182 #[vR r0, vR zu, vR zu, vI (Int32.ofNat cn), vI 0, .val (.long ((Int32.ofNat cn).toInt64)), .second, .unset] [(.ref r0), (.ref il)]))
  obtain ⟨T296, X296, e296, st296⟩ := getF X295 hx hZ hown (host := "") (Or.inl (wd hw 50 rfl)) Via.refl e295 f290 (g := (mkF m 182 #[vR r0, vR zu, vR zu, vI (Int32.ofNat cn), vI 0, .val (.long ((Int32.ofNat cn).toInt64)), .second, .unset] [(.ref r0), (.ref il)])) rfl rfl (hb hby d5_182)
  refine go _ _ st296 ?_
  show G (T296.setTop (mkF m 185 #[vR r0, vR zu, vR zu, vI (Int32.ofNat cn), vI 0, .val (.long ((Int32.ofNat cn).toInt64)), .second, .unset] [(.int dp), (.ref il)]))
  refine go _ _ (fun _ k => XS.iconst X296.here hx rfl (hb hby d5_185) k) ?_
  show G (T296.setTop (mkF m 186 #[vR r0, vR zu, vR zu, vI (Int32.ofNat cn), vI 0, .val (.long ((Int32.ofNat cn).toInt64)), .second, .unset] [(.int (1 : Int32)), (.int dp), (.ref il)]))
  refine go _ _ (fun _ k => XS.isub X296.here hx rfl (hb hby d5_186) rfl k) ?_
  show G (T296.setTop (mkF m 187 #[vR r0, vR zu, vR zu, vI (Int32.ofNat cn), vI 0, .val (.long ((Int32.ofNat cn).toInt64)), .second, .unset] [(.int (dp - (1 : Int32))), (.ref il)]))
  refine go _ _ (fun _ k => Free.XT.dup2 X296.here hx rfl (hb hby d5_187) rfl rfl rfl k) ?_
  show G (T296.setTop (mkF m 188 #[vR r0, vR zu, vR zu, vI (Int32.ofNat cn), vI 0, .val (.long ((Int32.ofNat cn).toInt64)), .second, .unset] [(.int (dp - (1 : Int32))), (.ref il), (.int (dp - (1 : Int32))), (.ref il)]))
  have f297 := (B.other W287 n20)
  refine own_iaload go X296 hx hZ e296 (dn - 1) (own_m1 hdp hd1 (by omega)) (by omega) (g := (mkF m 188 #[vR r0, vR zu, vR zu, vI (Int32.ofNat cn), vI 0, .val (.long ((Int32.ofNat cn).toInt64)), .second, .unset] [(.int (dp - (1 : Int32))), (.ref il), (.int (dp - (1 : Int32))), (.ref il)])) rfl f297 rfl (hb hby d5_188) ?_
  show G (T296.setTop (mkF m 189 #[vR r0, vR zu, vR zu, vI (Int32.ofNat cn), vI 0, .val (.long ((Int32.ofNat cn).toInt64)), .second, .unset] [(.int (t (dn - 1))), (.int (dp - (1 : Int32))), (.ref il)]))
  refine go _ _ (fun _ k => XS.iconst X296.here hx rfl (hb hby d5_189) k) ?_
  show G (T296.setTop (mkF m 190 #[vR r0, vR zu, vR zu, vI (Int32.ofNat cn), vI 0, .val (.long ((Int32.ofNat cn).toInt64)), .second, .unset] [(.int (1 : Int32)), (.int (t (dn - 1))), (.int (dp - (1 : Int32))), (.ref il)]))
  refine go _ _ (fun _ k => XS.isub X296.here hx rfl (hb hby d5_190) rfl k) ?_
  show G (T296.setTop (mkF m 191 #[vR r0, vR zu, vR zu, vI (Int32.ofNat cn), vI 0, .val (.long ((Int32.ofNat cn).toInt64)), .second, .unset] [(.int ((t (dn - 1)) - (1 : Int32))), (.int (dp - (1 : Int32))), (.ref il)]))
  refine own_iastore go X296 hx hZ e296 (dn - 1) (own_m1 hdp hd1 (by omega)) (by omega) (g := (mkF m 191 #[vR r0, vR zu, vR zu, vI (Int32.ofNat cn), vI 0, .val (.long ((Int32.ofNat cn).toInt64)), .second, .unset] [(.int ((t (dn - 1)) - (1 : Int32))), (.int (dp - (1 : Int32))), (.ref il)])) rfl f297 rfl (hb hby d5_191) ?_
  intro T298 h298 X298 e298 W298 A298
  have K299 : Keep h0 h298 [r0, il] := K288.wr W298 (Or.inl (List.mem_of_getElem? (i := 1) rfl))
  obtain ⟨lc298, X298h, N298h⟩ := own_hide X298 (Fr.snoc X298 N287h g_il)
  have Z300 : n0 ≤ h298.size := Nat.le_trans Z289 (Nat.le_of_eq W298.size.symm)
  have A298c := A298.cong (g := (fun i => .int ((upd t (dn - 1) (t (dn - 1) - 1)) i))) (own_upd rfl)
  show G (T298.setTop (mkF m 192 #[vR r0, vR zu, vR zu, vI (Int32.ofNat cn), vI 0, .val (.long ((Int32.ofNat cn).toInt64)), .second, .unset] []))
  refine go _ _ (fun _ k => XS.lload X298h.here hx rfl (hb hby d5_192) rfl  k) ?_
  show G (T298.setTop (mkF m 194 #[vR r0, vR zu, vR zu, vI (Int32.ofNat cn), vI 0, .val (.long ((Int32.ofNat cn).toInt64)), .second, .unset] [(.long ((Int32.ofNat cn).toInt64))]))
  refine own_retJ rt X298h hx hret (hb hby d5_194) (by decide) (by decide) ?_
  have f301 := ((E0.wr W287).wr W298)
  have f302 := (F287.other W298 (Or.inl (Ne.symm n20)))
  have f303 := ((Fi.other W287 (Or.inr (slot_ne (Or.inr (wd hw 14 rfl)) (Or.inl (wd hw 36 rfl)) (by decide) (t := (.array .byte)) (t' := .int) (by decide) (by decide)))).other W298 (Or.inl (Ne.symm n20)))
  have f304 := (f294.other W298 (Or.inl (Ne.symm n20)))
  have f305 := (f290.other W298 (Or.inl (Ne.symm n20)))
  rw [e298]
  exact ⟨rfl, N298h, K299, _, own_add hpos (by rfl) (by omega), f301, f302, f303, f304, f305, A298c⟩
 ·rw [d1]
  show G (T284.setTop (mkF m 47 #[vR r0, vR zu, vR zu, .unset, .unset, .unset, .unset, .unset] [(.int (24 : Int32))]))
  refine go _ _ (fun _ k => XS.istoreN X284.here hx rfl (hb hby d5_47) rfl (l' := #[vR r0, vR zu, vR zu, vI 24, .unset, .unset, .unset, .unset]) rfl k) ?_
  show G (T284.setTop (mkF m 48 #[vR r0, vR zu, vR zu, vI 24, .unset, .unset, .unset, .unset] []))
  refine go _ _ (fun _ k => XS.iloadN X284.here hx rfl (hb hby d5_48) rfl  k) ?_
  show G (T284.setTop (mkF m 49 #[vR r0, vR zu, vR zu, vI 24, .unset, .unset, .unset, .unset] [(.int (24 : Int32))]))
  refine go _ _ (fun _ k => XS.bipush X284.here hx rfl (hb hby d5_49) k) ?_
  show G (T284.setTop (mkF m 51 #[vR r0, vR zu, vR zu, vI 24, .unset, .unset, .unset, .unset] [(.int (23 : Int32)), (.int (24 : Int32))]))
  refine go _ _ (fun _ k => XS.icmpYes X284.here hx rfl (pc0 := 51) (pc' := 60) rfl (hb hby d5_51) rfl (Free.XT.ii_gt_t (by decide)) (by decide) (by decide) k) ?_
  show G (T284.setTop (mkF m 60 #[vR r0, vR zu, vR zu, vI 24, .unset, .unset, .unset, .unset] []))
  refine go _ _ (fun _ k => XS.iconst X284.here hx rfl (hb hby d5_60) k) ?_
  show G (T284.setTop (mkF m 61 #[vR r0, vR zu, vR zu, vI 24, .unset, .unset, .unset, .unset] [(.int (1 : Int32))]))
  refine go _ _ (fun _ k => XS.iloadN X284.here hx rfl (hb hby d5_61) rfl  k) ?_
  show G (T284.setTop (mkF m 62 #[vR r0, vR zu, vR zu, vI 24, .unset, .unset, .unset, .unset] [(.int (24 : Int32)), (.int (1 : Int32))]))
  refine go _ _ (fun _ k => XS.bipush X284.here hx rfl (hb hby d5_62) k) ?_
  show G (T284.setTop (mkF m 64 #[vR r0, vR zu, vR zu, vI 24, .unset, .unset, .unset, .unset] [(.int (24 : Int32)), (.int (24 : Int32)), (.int (1 : Int32))]))
  refine go _ _ (fun _ k => XS.isub X284.here hx rfl (hb hby d5_64) rfl k) ?_
  show G (T284.setTop (mkF m 65 #[vR r0, vR zu, vR zu, vI 24, .unset, .unset, .unset, .unset] [(.int ((24 : Int32) - (24 : Int32))), (.int (1 : Int32))]))
  refine go _ _ (fun _ k => XS.ishl X284.here hx rfl (hb hby d5_65) rfl k) ?_
  show G (T284.setTop (mkF m 66 #[vR r0, vR zu, vR zu, vI 24, .unset, .unset, .unset, .unset] [(.int ((1 : Int32) <<< (((24 : Int32) - (24 : Int32)) &&& 31)))]))
  refine go _ _ (fun _ k => XS.istore X284.here hx rfl (hb hby d5_66) rfl (l' := #[vR r0, vR zu, vR zu, vI 24, vI ((1 : Int32) <<< (((24 : Int32) - (24 : Int32)) &&& 31)), .unset, .unset, .unset]) rfl k) ?_
  show G (T284.setTop (mkF m 68 #[vR r0, vR zu, vR zu, vI 24, vI ((1 : Int32) <<< (((24 : Int32) - (24 : Int32)) &&& 31)), .unset, .unset, .unset] []))
  show G (T284.setTop (mkF m 68 #[vR r0, vR zu, vR zu, vI 24, vI 1, .unset, .unset, .unset] []))
  refine go _ _ (fun _ k => XS.iload X284.here hx rfl (hb hby d5_68) rfl  k) ?_
  show G (T284.setTop (mkF m 70 #[vR r0, vR zu, vR zu, vI 24, vI 1, .unset, .unset, .unset] [(.int (1 : Int32))]))
  refine go _ _ (fun _ k => XS.aloadN X284.here hx rfl (hb hby d5_70) rfl rfl  k) ?_
  show G (T284.setTop (mkF m 71 #[vR r0, vR zu, vR zu, vI 24, vI 1, .unset, .unset, .unset] [(.ref r0), (.int (1 : Int32))]))
  refine own_private go X284 hx hZ e284 hown (wd hw 57 rfl) (wd hw 58 rfl) (wd hw 18 rfl) rfl (wd hw 59 rfl) (wd hw 3 rfl) (wd hw 60 rfl) (by decide) (rm_re l Z a0 hw r0 r1 pos g h0 n0 Z0 Fi Fp A) 1 (by decide) (by decide) (by decide) (by decide) E0 (g := (mkF m 71 #[vR r0, vR zu, vR zu, vI 24, vI 1, .unset, .unset, .unset] [(.ref r0), (.int (1 : Int32))])) rfl (by rw [hml]; rfl) [] [(.int (1 : Int32))] rfl (lenOf pd_3 rfl) rfl (by show 2 * 0 + _ ≤ _; exact Nat.le_of_eq rfl) (hb hby d5_71) ?_
  intro T306 L306 v306 X306 q306
  obtain ⟨rfl, N306, hh306⟩ := q306
  obtain ⟨lc306, X306h, N306h⟩ := own_hide X306 (Fr.app N282h N306)
  show G (T306.setTop (mkF m 74 #[vR r0, vR zu, vR zu, vI 24, vI 1, .unset, .unset, .unset] [(.int ((64 : Int32) - pos)), (.int (1 : Int32))]))
  refine go _ _ (fun _ k => XS.icmpYes X306h.here hx rfl (pc0 := 74) (pc' := 94) rfl (hb hby d5_74) rfl (Free.XT.ii_lt_t (own_rem64 1 (kk := 1) rfl hpos (by omega))) (by decide) (by decide) k) ?_
  show G (T306.setTop (mkF m 94 #[vR r0, vR zu, vR zu, vI 24, vI 1, .unset, .unset, .unset] []))
  refine go _ _ (fun _ k => XS.iload X306h.here hx rfl (hb hby d5_94) rfl  k) ?_
  show G (T306.setTop (mkF m 96 #[vR r0, vR zu, vR zu, vI 24, vI 1, .unset, .unset, .unset] [(.int (1 : Int32))]))
  refine go _ _ (fun _ k => XS.ifYes X306h.here hx rfl (pc0 := 96) (pc' := 106) rfl (hb hby d5_96) rfl (Free.XT.i0_ne_t (by decide)) (by decide) (by decide) k) ?_
  show G (T306.setTop (mkF m 106 #[vR r0, vR zu, vR zu, vI 24, vI 1, .unset, .unset, .unset] []))
  refine go _ _ (fun _ k => XS.lconst X306h.here hx rfl (hb hby d5_106) k) ?_
  show G (T306.setTop (mkF m 107 #[vR r0, vR zu, vR zu, vI 24, vI 1, .unset, .unset, .unset] [(.long (0 : Int64))]))
  refine go _ _ (fun _ k => XS.lstore X306h.here hx rfl (hb hby d5_107) rfl (l' := #[vR r0, vR zu, vR zu, vI 24, vI 1, .val (.long (0 : Int64)), .second, .unset]) rfl k) ?_
  show G (T306.setTop (mkF m 109 #[vR r0, vR zu, vR zu, vI 24, vI 1, .val (.long (0 : Int64)), .second, .unset] []))
  refine go _ _ (fun _ k => XS.iconst X306h.here hx rfl (hb hby d5_109) k) ?_
  show G (T306.setTop (mkF m 110 #[vR r0, vR zu, vR zu, vI 24, vI 1, .val (.long (0 : Int64)), .second, .unset] [(.int (1 : Int32))]))
  refine go _ _ (fun _ k => XS.istore X306h.here hx rfl (hb hby d5_110) rfl (l' := #[vR r0, vR zu, vR zu, vI 24, vI 1, .val (.long (0 : Int64)), .second, vI 1]) rfl k) ?_
  show G (T306.setTop (mkF m 112 #[vR r0, vR zu, vR zu, vI 24, vI 1, .val (.long (0 : Int64)), .second, vI 1] []))
  refine go _ _ (fun _ k => XS.iload X306h.here hx rfl (hb hby d5_112) rfl  k) ?_
  show G (T306.setTop (mkF m 114 #[vR r0, vR zu, vR zu, vI 24, vI 1, .val (.long (0 : Int64)), .second, vI 1] [(.int (1 : Int32))]))
  refine go _ _ (fun _ k => XS.iload X306h.here hx rfl (hb hby d5_114) rfl  k) ?_
  show G (T306.setTop (mkF m 116 #[vR r0, vR zu, vR zu, vI 24, vI 1, .val (.long (0 : Int64)), .second, vI 1] [(.int (1 : Int32)), (.int (1 : Int32))]))
  refine go _ _ (fun _ k => XS.icmpNo X306h.here hx rfl (hb hby d5_116) rfl (Free.XT.ii_gt_f (by decide)) k) ?_
  show G (T306.setTop (mkF m 119 #[vR r0, vR zu, vR zu, vI 24, vI 1, .val (.long (0 : Int64)), .second, vI 1] []))
  refine go _ _ (fun _ k => XS.lload X306h.here hx rfl (hb hby d5_119) rfl  k) ?_
  show G (T306.setTop (mkF m 121 #[vR r0, vR zu, vR zu, vI 24, vI 1, .val (.long (0 : Int64)), .second, vI 1] [(.long (0 : Int64))]))
  refine go _ _ (fun _ k => XS.bipush X306h.here hx rfl (hb hby d5_121) k) ?_
  show G (T306.setTop (mkF m 123 #[vR r0, vR zu, vR zu, vI 24, vI 1, .val (.long (0 : Int64)), .second, vI 1] [(.int (8 : Int32)), (.long (0 : Int64))]))
  refine go _ _ (fun _ k => XS.lshl X306h.here hx rfl (hb hby d5_123) rfl k) ?_
  show G (T306.setTop (mkF m 124 #[vR r0, vR zu, vR zu, vI 24, vI 1, .val (.long (0 : Int64)), .second, vI 1] [(.long ((0 : Int64) <<< ((8 : Int32) &&& 0x3f).toInt64))]))
  refine go _ _ (fun _ k => XS.aloadN X306h.here hx rfl (hb hby d5_124) rfl rfl  k) ?_
  show G (T306.setTop (mkF m 125 #[vR r0, vR zu, vR zu, vI 24, vI 1, .val (.long (0 : Int64)), .second, vI 1] [(.ref r0), (.long ((0 : Int64) <<< ((8 : Int32) &&& 0x3f).toInt64))]))
  obtain ⟨T307, X307, e307, st307⟩ := getF X306h hx hZ hown (host := "") (Or.inl (wd hw 13 rfl)) Via.refl hh306 Fi (g := (mkF m 125 #[vR r0, vR zu, vR zu, vI 24, vI 1, .val (.long (0 : Int64)), .second, vI 1] [(.ref r0), (.long ((0 : Int64) <<< ((8 : Int32) &&& 0x3f).toInt64))])) rfl rfl (hb hby d5_125)
  refine go _ _ st307 ?_
  show G (T307.setTop (mkF m 128 #[vR r0, vR zu, vR zu, vI 24, vI 1, .val (.long (0 : Int64)), .second, vI 1] [(.ref r1), (.long ((0 : Int64) <<< ((8 : Int32) &&& 0x3f).toInt64))]))
  refine go _ _ (fun _ k => XS.aloadN X307.here hx rfl (hb hby d5_128) rfl rfl  k) ?_
  show G (T307.setTop (mkF m 129 #[vR r0, vR zu, vR zu, vI 24, vI 1, .val (.long (0 : Int64)), .second, vI 1] [(.ref r0), (.ref r1), (.long ((0 : Int64) <<< ((8 : Int32) &&& 0x3f).toInt64))]))
  obtain ⟨T308, X308, e308, st308⟩ := getF X307 hx hZ hown (host := "") (Or.inl (wd hw 35 rfl)) Via.refl e307 Fp (g := (mkF m 129 #[vR r0, vR zu, vR zu, vI 24, vI 1, .val (.long (0 : Int64)), .second, vI 1] [(.ref r0), (.ref r1), (.long ((0 : Int64) <<< ((8 : Int32) &&& 0x3f).toInt64))])) rfl rfl (hb hby d5_129)
  refine go _ _ st308 ?_
  show G (T308.setTop (mkF m 132 #[vR r0, vR zu, vR zu, vI 24, vI 1, .val (.long (0 : Int64)), .second, vI 1] [(.int pos), (.ref r1), (.long ((0 : Int64) <<< ((8 : Int32) &&& 0x3f).toInt64))]))
  refine go _ _ (fun _ k => XS.iload X308.here hx rfl (hb hby d5_132) rfl  k) ?_
  show G (T308.setTop (mkF m 134 #[vR r0, vR zu, vR zu, vI 24, vI 1, .val (.long (0 : Int64)), .second, vI 1] [(.int (1 : Int32)), (.int pos), (.ref r1), (.long ((0 : Int64) <<< ((8 : Int32) &&& 0x3f).toInt64))]))
  refine go _ _ (fun _ k => XS.iadd X308.here hx rfl (hb hby d5_134) rfl k) ?_
  show G (T308.setTop (mkF m 135 #[vR r0, vR zu, vR zu, vI 24, vI 1, .val (.long (0 : Int64)), .second, vI 1] [(.int (pos + (1 : Int32))), (.ref r1), (.long ((0 : Int64) <<< ((8 : Int32) &&& 0x3f).toInt64))]))
  refine own_baload go X308 hx hZ e308 (pn + 1) (own_add hpos (by rfl) (by omega)) (by omega) (g := (mkF m 135 #[vR r0, vR zu, vR zu, vI 24, vI 1, .val (.long (0 : Int64)), .second, vI 1] [(.int (pos + (1 : Int32))), (.ref r1), (.long ((0 : Int64) <<< ((8 : Int32) &&& 0x3f).toInt64))])) rfl A rfl (hb hby d5_135) ?_
  show G (T308.setTop (mkF m 136 #[vR r0, vR zu, vR zu, vI 24, vI 1, .val (.long (0 : Int64)), .second, vI 1] [(.int (g (pn + 1))), (.long ((0 : Int64) <<< ((8 : Int32) &&& 0x3f).toInt64))]))
  refine go _ _ (fun _ k => XS.sipush X308.here hx rfl (hb hby d5_136) k) ?_
  show G (T308.setTop (mkF m 139 #[vR r0, vR zu, vR zu, vI 24, vI 1, .val (.long (0 : Int64)), .second, vI 1] [(.int (255 : Int32)), (.int (g (pn + 1))), (.long ((0 : Int64) <<< ((8 : Int32) &&& 0x3f).toInt64))]))
  refine go _ _ (fun _ k => XS.iand X308.here hx rfl (hb hby d5_139) rfl k) ?_
  show G (T308.setTop (mkF m 140 #[vR r0, vR zu, vR zu, vI 24, vI 1, .val (.long (0 : Int64)), .second, vI 1] [(.int ((g (pn + 1)) &&& (255 : Int32))), (.long ((0 : Int64) <<< ((8 : Int32) &&& 0x3f).toInt64))]))
  refine go _ _ (fun _ k => XS.i2l X308.here hx rfl (hb hby d5_140) rfl k) ?_
  show G (T308.setTop (mkF m 141 #[vR r0, vR zu, vR zu, vI 24, vI 1, .val (.long (0 : Int64)), .second, vI 1] [(.long (((g (pn + 1)) &&& (255 : Int32)).toInt64)), (.long ((0 : Int64) <<< ((8 : Int32) &&& 0x3f).toInt64))]))
  refine go _ _ (fun _ k => XS.lor X308.here hx rfl (hb hby d5_141) rfl k) ?_
  show G (T308.setTop (mkF m 142 #[vR r0, vR zu, vR zu, vI 24, vI 1, .val (.long (0 : Int64)), .second, vI 1] [(.long (((0 : Int64) <<< ((8 : Int32) &&& 0x3f).toInt64) ||| (((g (pn + 1)) &&& (255 : Int32)).toInt64)))]))
  rw [d2, own_or0]
  show G (T308.setTop (mkF m 142 #[vR r0, vR zu, vR zu, vI 24, vI 1, .val (.long (0 : Int64)), .second, vI 1] [(.long ((Int32.ofNat cn).toInt64))]))
  refine go _ _ (fun _ k => XS.lstore X308.here hx rfl (hb hby d5_142) rfl (l' := #[vR r0, vR zu, vR zu, vI 24, vI 1, .val (.long ((Int32.ofNat cn).toInt64)), .second, vI 1]) rfl k) ?_
  show G (T308.setTop (mkF m 144 #[vR r0, vR zu, vR zu, vI 24, vI 1, .val (.long ((Int32.ofNat cn).toInt64)), .second, vI 1] []))
  refine go _ _ (fun _ k => XS.iinc X308.here hx rfl (hb hby d5_144) rfl (l' := #[vR r0, vR zu, vR zu, vI 24, vI 1, .val (.long ((Int32.ofNat cn).toInt64)), .second, vI ((1 : Int32) + (1 : Int32))]) rfl k) ?_
  show G (T308.setTop (mkF m 147 #[vR r0, vR zu, vR zu, vI 24, vI 1, .val (.long ((Int32.ofNat cn).toInt64)), .second, vI ((1 : Int32) + (1 : Int32))] []))
  refine go _ _ (fun _ k => XS.goto X308.here hx rfl (pc0 := 147) (pc' := 112) rfl (hb hby d5_147) (by decide) (by decide) k) ?_
  show G (T308.setTop (mkF m 112 #[vR r0, vR zu, vR zu, vI 24, vI 1, .val (.long ((Int32.ofNat cn).toInt64)), .second, vI ((1 : Int32) + (1 : Int32))] []))
  show G (T308.setTop (mkF m 112 #[vR r0, vR zu, vR zu, vI 24, vI 1, .val (.long ((Int32.ofNat cn).toInt64)), .second, vI 2] []))
  refine go _ _ (fun _ k => XS.iload X308.here hx rfl (hb hby d5_112) rfl  k) ?_
  show G (T308.setTop (mkF m 114 #[vR r0, vR zu, vR zu, vI 24, vI 1, .val (.long ((Int32.ofNat cn).toInt64)), .second, vI 2] [(.int (2 : Int32))]))
  refine go _ _ (fun _ k => XS.iload X308.here hx rfl (hb hby d5_114) rfl  k) ?_
  show G (T308.setTop (mkF m 116 #[vR r0, vR zu, vR zu, vI 24, vI 1, .val (.long ((Int32.ofNat cn).toInt64)), .second, vI 2] [(.int (1 : Int32)), (.int (2 : Int32))]))
  refine go _ _ (fun _ k => XS.icmpYes X308.here hx rfl (pc0 := 116) (pc' := 150) rfl (hb hby d5_116) rfl (Free.XT.ii_gt_t (by decide)) (by decide) (by decide) k) ?_
  show G (T308.setTop (mkF m 150 #[vR r0, vR zu, vR zu, vI 24, vI 1, .val (.long ((Int32.ofNat cn).toInt64)), .second, vI 2] []))
  refine go _ _ (fun _ k => XS.aloadN X308.here hx rfl (hb hby d5_150) rfl rfl  k) ?_
  show G (T308.setTop (mkF m 151 #[vR r0, vR zu, vR zu, vI 24, vI 1, .val (.long ((Int32.ofNat cn).toInt64)), .second, vI 2] [(.ref r0)]))
  refine go _ _ (fun _ k => XS.dup X308.here hx rfl (hb hby d5_151) rfl rfl k) ?_
  show G (T308.setTop (mkF m 152 #[vR r0, vR zu, vR zu, vI 24, vI 1, .val (.long ((Int32.ofNat cn).toInt64)), .second, vI 2] [(.ref r0), (.ref r0)]))
  obtain ⟨T309, X309, e309, st309⟩ := getF X308 hx hZ hown (host := "") (Or.inl (wd hw 35 rfl)) Via.refl e308 Fp (g := (mkF m 152 #[vR r0, vR zu, vR zu, vI 24, vI 1, .val (.long ((Int32.ofNat cn).toInt64)), .second, vI 2] [(.ref r0), (.ref r0)])) rfl rfl (hb hby d5_152)
  refine go _ _ st309 ?_
  show G (T309.setTop (mkF m 155 #[vR r0, vR zu, vR zu, vI 24, vI 1, .val (.long ((Int32.ofNat cn).toInt64)), .second, vI 2] [(.int pos), (.ref r0)]))
  refine go _ _ (fun _ k => XS.iconst X309.here hx rfl (hb hby d5_155) k) ?_
  show G (T309.setTop (mkF m 156 #[vR r0, vR zu, vR zu, vI 24, vI 1, .val (.long ((Int32.ofNat cn).toInt64)), .second, vI 2] [(.int (1 : Int32)), (.int pos), (.ref r0)]))
  refine go _ _ (fun _ k => XS.iload X309.here hx rfl (hb hby d5_156) rfl  k) ?_
  show G (T309.setTop (mkF m 158 #[vR r0, vR zu, vR zu, vI 24, vI 1, .val (.long ((Int32.ofNat cn).toInt64)), .second, vI 2] [(.int (1 : Int32)), (.int (1 : Int32)), (.int pos), (.ref r0)]))
  refine go _ _ (fun _ k => XS.iadd X309.here hx rfl (hb hby d5_158) rfl k) ?_
  show G (T309.setTop (mkF m 159 #[vR r0, vR zu, vR zu, vI 24, vI 1, .val (.long ((Int32.ofNat cn).toInt64)), .second, vI 2] [(.int ((1 : Int32) + (1 : Int32))), (.int pos), (.ref r0)]))
  refine go _ _ (fun _ k => XS.iadd X309.here hx rfl (hb hby d5_159) rfl k) ?_
  show G (T309.setTop (mkF m 160 #[vR r0, vR zu, vR zu, vI 24, vI 1, .val (.long ((Int32.ofNat cn).toInt64)), .second, vI 2] [(.int (pos + ((1 : Int32) + (1 : Int32)))), (.ref r0)]))
  obtain ⟨T310, h310, X310, e310, W310, st310⟩ := putF X309 hx hZ hown (host := "") (Or.inl (wd hw 35 rfl)) Via.refl e309 Fp E0 (Or.inl (wd hw 36 rfl)) (wd hw 2 rfl) (ty := .int) (by decide) rfl rfl (g := (mkF m 160 #[vR r0, vR zu, vR zu, vI 24, vI 1, .val (.long ((Int32.ofNat cn).toInt64)), .second, vI 2] [(.int (pos + ((1 : Int32) + (1 : Int32)))), (.ref r0)])) rfl rfl (hb hby d5_160)
  have F310 := Fp.same W310
  have K311 : Keep h0 h310 [r0, il] := (Keep.refl h0 [r0, il]).wr W310 (Or.inl (List.mem_of_getElem? (i := 0) rfl))
  obtain ⟨lc310, X310h, N310h⟩ := own_hide X310 (Fr.snoc X310 N306h g_r0)
  have Z312 : n0 ≤ h310.size := Nat.le_trans Z0 (Nat.le_of_eq W310.size.symm)
  refine go _ _ st310 ?_
  show G (T310.setTop (mkF m 163 #[vR r0, vR zu, vR zu, vI 24, vI 1, .val (.long ((Int32.ofNat cn).toInt64)), .second, vI 2] []))
  refine go _ _ (fun _ k => XS.aloadN X310h.here hx rfl (hb hby d5_163) rfl rfl  k) ?_
  show G (T310.setTop (mkF m 164 #[vR r0, vR zu, vR zu, vI 24, vI 1, .val (.long ((Int32.ofNat cn).toInt64)), .second, vI 2] [(.ref r0)]))
  have f313 := (Fd.other W310 (Or.inr (slot_ne (Or.inl (wd hw 51 rfl)) (Or.inl (wd hw 36 rfl)) (by decide) (t := .int) (t' := .int) (by decide) (by decide))))
  obtain ⟨T314, X314, e314, st314⟩ := getF X310h hx hZ hown (host := "") (Or.inl (wd hw 50 rfl)) Via.refl e310 f313 (g := (mkF m 164 #[vR r0, vR zu, vR zu, vI 24, vI 1, .val (.long ((Int32.ofNat cn).toInt64)), .second, vI 2] [(.ref r0)])) rfl rfl (hb hby d5_164)
  refine go _ _ st314 ?_
  show G (T314.setTop (mkF m 167 #[vR r0, vR zu, vR zu, vI 24, vI 1, .val (.long ((Int32.ofNat cn).toInt64)), .second, vI 2] [(.int dp)]))
  refine go _ _ (fun _ k => XS.ifNo X314.here hx rfl (hb hby d5_167) rfl (Free.XT.i0_le_f (own_pos hdp hd1)) k) ?_
  show G (T314.setTop (mkF m 170 #[vR r0, vR zu, vR zu, vI 24, vI 1, .val (.long ((Int32.ofNat cn).toInt64)), .second, vI 2] []))
  refine go _ _ (fun _ k => XS.aloadN X314.here hx rfl (hb hby d5_170) rfl rfl  k) ?_
  show G (T314.setTop (mkF m 171 #[vR r0, vR zu, vR zu, vI 24, vI 1, .val (.long ((Int32.ofNat cn).toInt64)), .second, vI 2] [(.ref zu)]))
  have f315 := (Szt.wr W310)
  obtain ⟨T316, X316, e316, st316⟩ := getS X314 hx hZ hown (host := "") (wd hw 69 rfl) Via.refl e314 f315 (g := (mkF m 171 #[vR r0, vR zu, vR zu, vI 24, vI 1, .val (.long ((Int32.ofNat cn).toInt64)), .second, vI 2] [(.ref zu)])) rfl (hb hby d5_171)
  refine go _ _ st316 ?_
  show G (T316.setTop (mkF m 174 #[vR r0, vR zu, vR zu, vI 24, vI 1, .val (.long ((Int32.ofNat cn).toInt64)), .second, vI 2] [(.ref zt), (.ref zu)]))
  refine go _ _ (fun _ k => Jvm.RoadKit.acmp (g := (mkF m 174 #[vR r0, vR zu, vR zu, vI 24, vI 1, .val (.long ((Int32.ofNat cn).toInt64)), .second, vI 2] [(.ref zt), (.ref zu)])) X316 hx rfl (x := (.ref zu)) (y := (.ref zt)) rfl rfl (rest := []) (pc0 := 174) (pc' := 177) (same := false) rfl (hb hby d5_174) rfl (decide_eq_false (fun z => nut (Value.ref.inj z))) (by decide) (by decide) k) ?_
  show G (T316.setTop (mkF m 177 #[vR r0, vR zu, vR zu, vI 24, vI 1, .val (.long ((Int32.ofNat cn).toInt64)), .second, vI 2] []))
  refine go _ _ (fun _ k => XS.aloadN X316.here hx rfl (hb hby d5_177) rfl rfl  k) ?_
  show G (T316.setTop (mkF m 178 #[vR r0, vR zu, vR zu, vI 24, vI 1, .val (.long ((Int32.ofNat cn).toInt64)), .second, vI 2] [(.ref r0)]))
  have f317 := (Fl.other W310 (Or.inr (slot_ne (Or.inl (wd hw 12 rfl)) (Or.inl (wd hw 36 rfl)) (by decide) (t := (.array .int)) (t' := .int) (by decide) (by decide))))
  obtain ⟨T318, X318, e318, st318⟩ := getF X316 hx hZ hown (host := "") (Or.inl (wd hw 11 rfl)) Via.refl e316 f317 (g := (mkF m 178 #[vR r0, vR zu, vR zu, vI 24, vI 1, .val (.long ((Int32.ofNat cn).toInt64)), .second, vI 2] [(.ref r0)])) rfl rfl (hb hby d5_178)
  refine go _ _ st318 ?_
  show G (T318.setTop (mkF m 181 #[vR r0, vR zu, vR zu, vI 24, vI 1, .val (.long ((Int32.ofNat cn).toInt64)), .second, vI 2] [(.ref il)]))
  refine go _ _ (fun _ k => XS.aloadN X318.here hx rfl (hb hby d5_181) rfl rfl  k) ?_
  show G (T318.setTop (mkF m 182 #[vR r0, vR zu, vR zu, vI 24, vI 1, .val (.long ((Int32.ofNat cn).toInt64)), .second, vI 2] [(.ref r0), (.ref il)]))
  obtain ⟨T319, X319, e319, st319⟩ := getF X318 hx hZ hown (host := "") (Or.inl (wd hw 50 rfl)) Via.refl e318 f313 (g := (mkF m 182 #[vR r0, vR zu, vR zu, vI 24, vI 1, .val (.long ((Int32.ofNat cn).toInt64)), .second, vI 2] [(.ref r0), (.ref il)])) rfl rfl (hb hby d5_182)
  refine go _ _ st319 ?_
  show G (T319.setTop (mkF m 185 #[vR r0, vR zu, vR zu, vI 24, vI 1, .val (.long ((Int32.ofNat cn).toInt64)), .second, vI 2] [(.int dp), (.ref il)]))
  refine go _ _ (fun _ k => XS.iconst X319.here hx rfl (hb hby d5_185) k) ?_
  show G (T319.setTop (mkF m 186 #[vR r0, vR zu, vR zu, vI 24, vI 1, .val (.long ((Int32.ofNat cn).toInt64)), .second, vI 2] [(.int (1 : Int32)), (.int dp), (.ref il)]))
  refine go _ _ (fun _ k => XS.isub X319.here hx rfl (hb hby d5_186) rfl k) ?_
  show G (T319.setTop (mkF m 187 #[vR r0, vR zu, vR zu, vI 24, vI 1, .val (.long ((Int32.ofNat cn).toInt64)), .second, vI 2] [(.int (dp - (1 : Int32))), (.ref il)]))
  refine go _ _ (fun _ k => Free.XT.dup2 X319.here hx rfl (hb hby d5_187) rfl rfl rfl k) ?_
  show G (T319.setTop (mkF m 188 #[vR r0, vR zu, vR zu, vI 24, vI 1, .val (.long ((Int32.ofNat cn).toInt64)), .second, vI 2] [(.int (dp - (1 : Int32))), (.ref il), (.int (dp - (1 : Int32))), (.ref il)]))
  have f320 := (B.other W310 n20)
  refine own_iaload go X319 hx hZ e319 (dn - 1) (own_m1 hdp hd1 (by omega)) (by omega) (g := (mkF m 188 #[vR r0, vR zu, vR zu, vI 24, vI 1, .val (.long ((Int32.ofNat cn).toInt64)), .second, vI 2] [(.int (dp - (1 : Int32))), (.ref il), (.int (dp - (1 : Int32))), (.ref il)])) rfl f320 rfl (hb hby d5_188) ?_
  show G (T319.setTop (mkF m 189 #[vR r0, vR zu, vR zu, vI 24, vI 1, .val (.long ((Int32.ofNat cn).toInt64)), .second, vI 2] [(.int (t (dn - 1))), (.int (dp - (1 : Int32))), (.ref il)]))
  refine go _ _ (fun _ k => XS.iconst X319.here hx rfl (hb hby d5_189) k) ?_
  show G (T319.setTop (mkF m 190 #[vR r0, vR zu, vR zu, vI 24, vI 1, .val (.long ((Int32.ofNat cn).toInt64)), .second, vI 2] [(.int (1 : Int32)), (.int (t (dn - 1))), (.int (dp - (1 : Int32))), (.ref il)]))
  refine go _ _ (fun _ k => XS.isub X319.here hx rfl (hb hby d5_190) rfl k) ?_
  show G (T319.setTop (mkF m 191 #[vR r0, vR zu, vR zu, vI 24, vI 1, .val (.long ((Int32.ofNat cn).toInt64)), .second, vI 2] [(.int ((t (dn - 1)) - (1 : Int32))), (.int (dp - (1 : Int32))), (.ref il)]))
  refine own_iastore go X319 hx hZ e319 (dn - 1) (own_m1 hdp hd1 (by omega)) (by omega) (g := (mkF m 191 #[vR r0, vR zu, vR zu, vI 24, vI 1, .val (.long ((Int32.ofNat cn).toInt64)), .second, vI 2] [(.int ((t (dn - 1)) - (1 : Int32))), (.int (dp - (1 : Int32))), (.ref il)])) rfl f320 rfl (hb hby d5_191) ?_
  intro T321 h321 X321 e321 W321 A321
  have K322 : Keep h0 h321 [r0, il] := K311.wr W321 (Or.inl (List.mem_of_getElem? (i := 1) rfl))
  obtain ⟨lc321, X321h, N321h⟩ := own_hide X321 (Fr.snoc X321 N310h g_il)
  have Z323 : n0 ≤ h321.size := Nat.le_trans Z312 (Nat.le_of_eq W321.size.symm)
  have A321c := A321.cong (g := (fun i => .int ((upd t (dn - 1) (t (dn - 1) - 1)) i))) (own_upd rfl)
  show G (T321.setTop (mkF m 192 #[vR r0, vR zu, vR zu, vI 24, vI 1, .val (.long ((Int32.ofNat cn).toInt64)), .second, vI 2] []))
  refine go _ _ (fun _ k => XS.lload X321h.here hx rfl (hb hby d5_192) rfl  k) ?_
  show G (T321.setTop (mkF m 194 #[vR r0, vR zu, vR zu, vI 24, vI 1, .val (.long ((Int32.ofNat cn).toInt64)), .second, vI 2] [(.long ((Int32.ofNat cn).toInt64))]))
  refine own_retJ rt X321h hx hret (hb hby d5_194) (by decide) (by decide) ?_
  have f324 := ((E0.wr W310).wr W321)
  have f325 := (F310.other W321 (Or.inl (Ne.symm n20)))
  have f326 := ((Fi.other W310 (Or.inr (slot_ne (Or.inr (wd hw 14 rfl)) (Or.inl (wd hw 36 rfl)) (by decide) (t := (.array .byte)) (t' := .int) (by decide) (by decide)))).other W321 (Or.inl (Ne.symm n20)))
  have f327 := (f317.other W321 (Or.inl (Ne.symm n20)))
  have f328 := (f313.other W321 (Or.inl (Ne.symm n20)))
  rw [e321]
  exact ⟨rfl, N321h, K322, _, own_add hpos (by rfl) (by omega), f324, f325, f326, f327, f328, A321c⟩
theorem ef_rm_pk6d (m : MethodId) (x0 : Addr) : entryFrame m #[(.ref x0)] 4 = mkF m 0 #[.val (.ref x0), .unset, .unset, .unset] [] := by first | (simp [entryFrame, mkF, argsToLocals, Value.category]; done) | rfl
set_option maxRecDepth 65536 in
set_option maxHeartbeats 40000000 in
theorem rm_pk6d (l : Launch) (Z : State) (a0 : Array Value) (hw : ∀ d ∈ tables_1, d.before a0 Z = true) (r0 r1 il zu za zm zt : Addr) (pos dp : Int32) (pn dn sz : Nat) (g t : Nat → Int32) (w cn : Nat) (h0 : Heap) (n0 : Nat) (Z0 : n0 ≤ h0.size) (E0 : Exa Z h0 r0 "com/example/brevidns/brevidns/CborReader") (Fp : Fld Z h0 r0 "com/example/brevidns/brevidns/CborReader" "position" "I" (.int pos)) (Fi : Fld Z h0 r0 "com/example/brevidns/brevidns/CborReader" "input" "[B" (.ref r1)) (Fl : Fld Z h0 r0 "com/example/brevidns/brevidns/CborReader" "itemsLeft" "[I" (.ref il)) (Fd : Fld Z h0 r0 "com/example/brevidns/brevidns/CborReader" "depth" "I" (.int dp)) (A : Ary Z h0 r1 .byte 64 (fun i => .int (g i))) (B : Ary Z h0 il .int sz (fun i => .int (t i))) (n10 : r1 ≠ r0) (n20 : il ≠ r0) (n12 : r1 ≠ il) (hpos : pos.toInt = pn) (hdp : dp.toInt = dn) (Szu : Sta Z h0 "com/example/brevidns/brevidns/CborReader$Kind" "UNSIGNED_INTEGER" "Lcom/example/brevidns/brevidns/CborReader$Kind;" (.ref zu)) (Sza : Sta Z h0 "com/example/brevidns/brevidns/CborReader$Kind" "ARRAY" "Lcom/example/brevidns/brevidns/CborReader$Kind;" (.ref za)) (Szm : Sta Z h0 "com/example/brevidns/brevidns/CborReader$Kind" "MAP" "Lcom/example/brevidns/brevidns/CborReader$Kind;" (.ref zm)) (Szt : Sta Z h0 "com/example/brevidns/brevidns/CborReader$Kind" "TAG" "Lcom/example/brevidns/brevidns/CborReader$Kind;" (.ref zt)) (nut : zu ≠ zt) (nat : za ≠ zt) (nmt : zm ≠ zt) (hd : Head g 6 pn w cn) (hpw : pn + w ≤ 63) (hd1 : 1 ≤ dn) (hds : dn ≤ sz) (hs8 : sz ≤ 8) (ht : ¬ t (dn - 1) = 0) :
  Con l Z (⟨"com/example/brevidns/brevidns/CborReader", "peek", "()Lcom/example/brevidns/brevidns/CborReader$Kind;"⟩ : MethodName) prog_3_method_4_code 4 (some (.object "com/example/brevidns/brevidns/CborReader$Kind")) ({ frames := 1, cells := 0, slots := 0, locals := 12 } : Room) #[(.ref r0)] h0 (fun v h L => v = some (.ref zt) ∧ Fr n0 L ∧ h = h0) := by
 refine own_body pn_6 ?_
 intro p e s m below meth c s₁ hx hby hml hown hnm hret hZ e0 X0 G go rt
 have N0 := Fr.nil n0
 rw [ef_rm_pk6d m r0]
 have hww : w = 1 ∨ w = 2 := hd.ww
 have hrg := hd.rng
 have x2 := own_x31 (g pn)
 have x3 := hd.1
 show G (s₁.setTop (mkF m 0 #[vR r0, .unset, .unset, .unset] []))
 refine go _ _ (fun _ k => XS.aloadN X0.here hx rfl (hb hby d6_0) rfl rfl  k) ?_
 show G (s₁.setTop (mkF m 1 #[vR r0, .unset, .unset, .unset] [(.ref r0)]))
 refine own_private go X0 hx hZ e0 hown (wd hw 46 rfl) (wd hw 47 rfl) (wd hw 18 rfl) rfl (wd hw 48 rfl) (wd hw 3 rfl) (wd hw 49 rfl) (by decide) (rm_chd l Z a0 hw r0 il dp dn sz t h0 n0 Z0 Fl Fd B hdp hd1 hds hs8 ht) 0 (by decide) (by decide) (by decide) (by decide) E0 (g := (mkF m 1 #[vR r0, .unset, .unset, .unset] [(.ref r0)])) rfl (by rw [hml]; rfl) [] [] rfl (lenOf pd_0 rfl) rfl (by show 2 * 0 + _ ≤ _; exact Nat.le_of_eq rfl) (hb hby d6_1) ?_
 intro T329 L329 v329 X329 q329
 obtain ⟨rfl, N329, hh329⟩ := q329
 obtain ⟨lc329, X329h, N329h⟩ := own_hide X329 (Fr.app N0 N329)
 show G (T329.setTop (mkF m 4 #[vR r0, .unset, .unset, .unset] []))
 refine go _ _ (fun _ k => XS.aloadN X329h.here hx rfl (hb hby d6_4) rfl rfl  k) ?_
 show G (T329.setTop (mkF m 5 #[vR r0, .unset, .unset, .unset] [(.ref r0)]))
 refine own_virtual go X329h hx hZ hh329 hown (wd hw 52 rfl) (wd hw 53 rfl) (notFace_of_selects (args := #[]) (mvT hZ (wd hw 55 rfl))) (wd hw 55 rfl) (wd hw 54 rfl) (wd hw 3 rfl) (wd hw 56 rfl) (by decide) (rm_ae l Z a0 hw r0 r1 pos pn g h0 n0 Z0 Fi Fp A hpos (by omega)) 0 (by decide) (by decide) (by decide) (by decide) E0 (g := (mkF m 5 #[vR r0, .unset, .unset, .unset] [(.ref r0)])) rfl (by rw [hml]; rfl) [] [] rfl (lenOf pd_1 rfl) rfl (by show 2 * 0 + _ ≤ _; exact Nat.le_of_eq rfl) (hb hby d6_5) ?_
 intro T330 L330 v330 X330 q330
 obtain ⟨rfl, N330, hh330⟩ := q330
 obtain ⟨lc330, X330h, N330h⟩ := own_hide X330 (Fr.app N329h N330)
 show G (T330.setTop (mkF m 8 #[vR r0, .unset, .unset, .unset] [(.int (0 : Int32))]))
 refine go _ _ (fun _ k => XS.ifYes X330h.here hx rfl (pc0 := 8) (pc' := 21) rfl (hb hby d6_8) rfl (Free.XT.i0_eq_t (by decide)) (by decide) (by decide) k) ?_
 show G (T330.setTop (mkF m 21 #[vR r0, .unset, .unset, .unset] []))
 refine go _ _ (fun _ k => XS.aloadN X330h.here hx rfl (hb hby d6_21) rfl rfl  k) ?_
 show G (T330.setTop (mkF m 22 #[vR r0, .unset, .unset, .unset] [(.ref r0)]))
 obtain ⟨T331, X331, e331, st331⟩ := getF X330h hx hZ hown (host := "") (Or.inl (wd hw 13 rfl)) Via.refl hh330 Fi (g := (mkF m 22 #[vR r0, .unset, .unset, .unset] [(.ref r0)])) rfl rfl (hb hby d6_22)
 refine go _ _ st331 ?_
 show G (T331.setTop (mkF m 25 #[vR r0, .unset, .unset, .unset] [(.ref r1)]))
 refine go _ _ (fun _ k => XS.aloadN X331.here hx rfl (hb hby d6_25) rfl rfl  k) ?_
 show G (T331.setTop (mkF m 26 #[vR r0, .unset, .unset, .unset] [(.ref r0), (.ref r1)]))
 obtain ⟨T332, X332, e332, st332⟩ := getF X331 hx hZ hown (host := "") (Or.inl (wd hw 35 rfl)) Via.refl e331 Fp (g := (mkF m 26 #[vR r0, .unset, .unset, .unset] [(.ref r0), (.ref r1)])) rfl rfl (hb hby d6_26)
 refine go _ _ st332 ?_
 show G (T332.setTop (mkF m 29 #[vR r0, .unset, .unset, .unset] [(.int pos), (.ref r1)]))
 refine own_baload go X332 hx hZ e332 pn hpos (by omega) (g := (mkF m 29 #[vR r0, .unset, .unset, .unset] [(.int pos), (.ref r1)])) rfl A rfl (hb hby d6_29) ?_
 show G (T332.setTop (mkF m 30 #[vR r0, .unset, .unset, .unset] [(.int (g pn))]))
 refine go _ _ (fun _ k => XS.sipush X332.here hx rfl (hb hby d6_30) k) ?_
 show G (T332.setTop (mkF m 33 #[vR r0, .unset, .unset, .unset] [(.int (255 : Int32)), (.int (g pn))]))
 refine go _ _ (fun _ k => XS.iand X332.here hx rfl (hb hby d6_33) rfl k) ?_
 show G (T332.setTop (mkF m 34 #[vR r0, .unset, .unset, .unset] [(.int ((g pn) &&& (255 : Int32)))]))
 refine go _ _ (fun _ k => XS.istoreN X332.here hx rfl (hb hby d6_34) rfl (l' := #[vR r0, vI ((g pn) &&& (255 : Int32)), .unset, .unset]) rfl k) ?_
 show G (T332.setTop (mkF m 35 #[vR r0, vI ((g pn) &&& (255 : Int32)), .unset, .unset] []))
 refine go _ _ (fun _ k => XS.iloadN X332.here hx rfl (hb hby d6_35) rfl  k) ?_
 show G (T332.setTop (mkF m 36 #[vR r0, vI ((g pn) &&& (255 : Int32)), .unset, .unset] [(.int ((g pn) &&& (255 : Int32)))]))
 refine go _ _ (fun _ k => XS.bipush X332.here hx rfl (hb hby d6_36) k) ?_
 show G (T332.setTop (mkF m 38 #[vR r0, vI ((g pn) &&& (255 : Int32)), .unset, .unset] [(.int (31 : Int32)), (.int ((g pn) &&& (255 : Int32)))]))
 refine go _ _ (fun _ k => XS.iand X332.here hx rfl (hb hby d6_38) rfl k) ?_
 show G (T332.setTop (mkF m 39 #[vR r0, vI ((g pn) &&& (255 : Int32)), .unset, .unset] [(.int (((g pn) &&& (255 : Int32)) &&& (31 : Int32)))]))
 rw [x2]
 show G (T332.setTop (mkF m 39 #[vR r0, vI ((g pn) &&& (255 : Int32)), .unset, .unset] [(.int (g pn &&& (31 : Int32)))]))
 refine go _ _ (fun _ k => XS.istoreN X332.here hx rfl (hb hby d6_39) rfl (l' := #[vR r0, vI ((g pn) &&& (255 : Int32)), vI (g pn &&& (31 : Int32)), .unset]) rfl k) ?_
 show G (T332.setTop (mkF m 40 #[vR r0, vI ((g pn) &&& (255 : Int32)), vI (g pn &&& (31 : Int32)), .unset] []))
 refine go _ _ (fun _ k => XS.iloadN X332.here hx rfl (hb hby d6_40) rfl  k) ?_
 show G (T332.setTop (mkF m 41 #[vR r0, vI ((g pn) &&& (255 : Int32)), vI (g pn &&& (31 : Int32)), .unset] [(.int (g pn &&& (31 : Int32)))]))
 refine go _ _ (fun _ k => XS.bipush X332.here hx rfl (hb hby d6_41) k) ?_
 show G (T332.setTop (mkF m 43 #[vR r0, vI ((g pn) &&& (255 : Int32)), vI (g pn &&& (31 : Int32)), .unset] [(.int (31 : Int32)), (.int (g pn &&& (31 : Int32)))]))
 refine go _ _ (fun _ k => XS.icmpYes X332.here hx rfl (pc0 := 43) (pc' := 63) rfl (hb hby d6_43) rfl (Free.XT.ii_ne_t (fun z => absurd (z ▸ hrg.2) (by decide))) (by decide) (by decide) k) ?_
 show G (T332.setTop (mkF m 63 #[vR r0, vI ((g pn) &&& (255 : Int32)), vI (g pn &&& (31 : Int32)), .unset] []))
 refine go _ _ (fun _ k => XS.iloadN X332.here hx rfl (hb hby d6_63) rfl  k) ?_
 show G (T332.setTop (mkF m 64 #[vR r0, vI ((g pn) &&& (255 : Int32)), vI (g pn &&& (31 : Int32)), .unset] [(.int (g pn &&& (31 : Int32)))]))
 refine go _ _ (fun _ k => XS.bipush X332.here hx rfl (hb hby d6_64) k) ?_
 show G (T332.setTop (mkF m 66 #[vR r0, vI ((g pn) &&& (255 : Int32)), vI (g pn &&& (31 : Int32)), .unset] [(.int (27 : Int32)), (.int (g pn &&& (31 : Int32)))]))
 refine go _ _ (fun _ k => XS.icmpYes X332.here hx rfl (pc0 := 66) (pc' := 90) rfl (hb hby d6_66) rfl (Free.XT.ii_le_t (fun z => absurd (Int32.lt_iff_toInt_lt.mp z) (by have e : (27 : Int32).toInt = 27 := rfl; omega))) (by decide) (by decide) k) ?_
 show G (T332.setTop (mkF m 90 #[vR r0, vI ((g pn) &&& (255 : Int32)), vI (g pn &&& (31 : Int32)), .unset] []))
 refine go _ _ (fun _ k => XS.iloadN X332.here hx rfl (hb hby d6_90) rfl  k) ?_
 show G (T332.setTop (mkF m 91 #[vR r0, vI ((g pn) &&& (255 : Int32)), vI (g pn &&& (31 : Int32)), .unset] [(.int ((g pn) &&& (255 : Int32)))]))
 refine go _ _ (fun _ k => XS.iconst X332.here hx rfl (hb hby d6_91) k) ?_
 show G (T332.setTop (mkF m 92 #[vR r0, vI ((g pn) &&& (255 : Int32)), vI (g pn &&& (31 : Int32)), .unset] [(.int (5 : Int32)), (.int ((g pn) &&& (255 : Int32)))]))
 refine go _ _ (fun _ k => XS.iushr X332.here hx rfl (hb hby d6_92) rfl k) ?_
 show G (T332.setTop (mkF m 93 #[vR r0, vI ((g pn) &&& (255 : Int32)), vI (g pn &&& (31 : Int32)), .unset] [(.int ((((g pn) &&& (255 : Int32)).toUInt32 >>> ((5 : Int32) &&& 31).toUInt32).toInt32))]))
 rw [x3]
 show G (T332.setTop (mkF m 93 #[vR r0, vI ((g pn) &&& (255 : Int32)), vI (g pn &&& (31 : Int32)), .unset] [(.int (6 : Int32))]))
 refine go _ _ (fun _ k => XS.tswIn X332.here hx rfl (pc0 := 93) (pc' := 178) rfl (hb hby d6_93) rfl (by decide) (o := 85) (by decide) (by decide) (by decide) k) ?_
 show G (T332.setTop (mkF m 178 #[vR r0, vI ((g pn) &&& (255 : Int32)), vI (g pn &&& (31 : Int32)), .unset] []))
 obtain ⟨T333, X333, e333, st333⟩ := getS X332 hx hZ hown (host := "") (wd hw 69 rfl) Via.refl e332 Szt (g := (mkF m 178 #[vR r0, vI ((g pn) &&& (255 : Int32)), vI (g pn &&& (31 : Int32)), .unset] [])) rfl (hb hby d6_178)
 refine go _ _ st333 ?_
 show G (T333.setTop (mkF m 181 #[vR r0, vI ((g pn) &&& (255 : Int32)), vI (g pn &&& (31 : Int32)), .unset] [(.ref zt)]))
 refine go _ _ (fun _ k => XS.astoreN X333.here hx rfl (hb hby d6_181) rfl rfl (l' := #[vR r0, vI ((g pn) &&& (255 : Int32)), vI (g pn &&& (31 : Int32)), vR zt]) rfl k) ?_
 show G (T333.setTop (mkF m 182 #[vR r0, vI ((g pn) &&& (255 : Int32)), vI (g pn &&& (31 : Int32)), vR zt] []))
 refine go _ _ (fun _ k => XS.goto X333.here hx rfl (pc0 := 182) (pc' := 221) rfl (hb hby d6_182) (by decide) (by decide) k) ?_
 show G (T333.setTop (mkF m 221 #[vR r0, vI ((g pn) &&& (255 : Int32)), vI (g pn &&& (31 : Int32)), vR zt] []))
 refine go _ _ (fun _ k => XS.aloadN X333.here hx rfl (hb hby d6_221) rfl rfl  k) ?_
 show G (T333.setTop (mkF m 222 #[vR r0, vI ((g pn) &&& (255 : Int32)), vI (g pn &&& (31 : Int32)), vR zt] [(.ref zt)]))
 refine own_retA rt X333 hx hret rfl rfl (hb hby d6_222) (by decide) (by decide) ?_
 exact ⟨rfl, N330h, e333⟩
theorem ef_rm_rh6d (m : MethodId) (x0 : Addr) (x1 : Addr) : entryFrame m #[(.ref x0), (.ref x1)] 8 = mkF m 0 #[.val (.ref x0), .val (.ref x1), .unset, .unset, .unset, .unset, .unset, .unset] [] := by first | (simp [entryFrame, mkF, argsToLocals, Value.category]; done) | rfl
set_option maxRecDepth 65536 in
set_option maxHeartbeats 40000000 in
theorem rm_rh6d (l : Launch) (Z : State) (a0 : Array Value) (hw : ∀ d ∈ tables_1, d.before a0 Z = true) (r0 r1 il zu za zm zt : Addr) (pos dp : Int32) (pn dn sz : Nat) (g t : Nat → Int32) (w cn : Nat) (h0 : Heap) (n0 : Nat) (Z0 : n0 ≤ h0.size) (g_r0 : n0 ≤ r0) (E0 : Exa Z h0 r0 "com/example/brevidns/brevidns/CborReader") (Fp : Fld Z h0 r0 "com/example/brevidns/brevidns/CborReader" "position" "I" (.int pos)) (Fi : Fld Z h0 r0 "com/example/brevidns/brevidns/CborReader" "input" "[B" (.ref r1)) (Fl : Fld Z h0 r0 "com/example/brevidns/brevidns/CborReader" "itemsLeft" "[I" (.ref il)) (Fd : Fld Z h0 r0 "com/example/brevidns/brevidns/CborReader" "depth" "I" (.int dp)) (A : Ary Z h0 r1 .byte 64 (fun i => .int (g i))) (B : Ary Z h0 il .int sz (fun i => .int (t i))) (n10 : r1 ≠ r0) (n20 : il ≠ r0) (n12 : r1 ≠ il) (hpos : pos.toInt = pn) (hdp : dp.toInt = dn) (Szu : Sta Z h0 "com/example/brevidns/brevidns/CborReader$Kind" "UNSIGNED_INTEGER" "Lcom/example/brevidns/brevidns/CborReader$Kind;" (.ref zu)) (Sza : Sta Z h0 "com/example/brevidns/brevidns/CborReader$Kind" "ARRAY" "Lcom/example/brevidns/brevidns/CborReader$Kind;" (.ref za)) (Szm : Sta Z h0 "com/example/brevidns/brevidns/CborReader$Kind" "MAP" "Lcom/example/brevidns/brevidns/CborReader$Kind;" (.ref zm)) (Szt : Sta Z h0 "com/example/brevidns/brevidns/CborReader$Kind" "TAG" "Lcom/example/brevidns/brevidns/CborReader$Kind;" (.ref zt)) (nut : zu ≠ zt) (nat : za ≠ zt) (nmt : zm ≠ zt) (hd : Head g 6 pn w cn) (hpw : pn + w ≤ 63) (hd1 : 1 ≤ dn) (hds : dn ≤ sz) (hs8 : sz ≤ 8) (ht : ¬ t (dn - 1) = 0) :
  Con l Z (⟨"com/example/brevidns/brevidns/CborReader", "readHead", "(Lcom/example/brevidns/brevidns/CborReader$Kind;)J"⟩ : MethodName) prog_3_method_20_code 8 (some .long) ({ frames := 2, cells := 0, slots := 0, locals := 27 } : Room) #[(.ref r0), (.ref zt)] h0 (fun v h L => v = some (.long (Int32.ofNat cn).toInt64) ∧ Fr n0 L ∧ Keep h0 h [r0] ∧ ∃ pos2 : Int32, pos2.toInt = ((pn + w : Nat) : Int) ∧ Exa Z h r0 "com/example/brevidns/brevidns/CborReader" ∧ Fld Z h r0 "com/example/brevidns/brevidns/CborReader" "position" "I" (.int pos2) ∧ Fld Z h r0 "com/example/brevidns/brevidns/CborReader" "input" "[B" (.ref r1) ∧ Fld Z h r0 "com/example/brevidns/brevidns/CborReader" "itemsLeft" "[I" (.ref il) ∧ Fld Z h r0 "com/example/brevidns/brevidns/CborReader" "depth" "I" (.int dp) ∧ Ary Z h il .int sz (fun i => .int (t i))) := by
 refine own_body pn_5 ?_
 intro p e s m below meth c s₁ hx hby hml hown hnm hret hZ e0 X0 G go rt
 have N0 := Fr.nil n0
 rw [ef_rm_rh6d m r0 zt]
 have hww : w = 1 ∨ w = 2 := hd.ww
 show G (s₁.setTop (mkF m 0 #[vR r0, vR zt, .unset, .unset, .unset, .unset, .unset, .unset] []))
 refine go _ _ (fun _ k => XS.aloadN X0.here hx rfl (hb hby d5_0) rfl rfl  k) ?_
 show G (s₁.setTop (mkF m 1 #[vR r0, vR zt, .unset, .unset, .unset, .unset, .unset, .unset] [(.ref r0)]))
 refine own_virtual go X0 hx hZ e0 hown (wd hw 41 rfl) (wd hw 42 rfl) (notFace_of_selects (args := #[]) (mvT hZ (wd hw 44 rfl))) (wd hw 44 rfl) (wd hw 43 rfl) (wd hw 3 rfl) (wd hw 45 rfl) (by decide) (rm_pk6d l Z a0 hw r0 r1 il zu za zm zt pos dp pn dn sz g t w cn h0 n0 Z0 E0 Fp Fi Fl Fd A B n10 n20 n12 hpos hdp Szu Sza Szm Szt nut nat nmt hd hpw hd1 hds hs8 ht) 0 (by decide) (by decide) (by decide) (by decide) E0 (g := (mkF m 1 #[vR r0, vR zt, .unset, .unset, .unset, .unset, .unset, .unset] [(.ref r0)])) rfl (by rw [hml]; rfl) [] [] rfl (lenOf pd_2 rfl) rfl (by show 2 * 0 + _ ≤ _; exact Nat.le_of_eq rfl) (hb hby d5_1) ?_
 intro T334 L334 v334 X334 q334
 obtain ⟨rfl, N334, hh334⟩ := q334
 obtain ⟨lc334, X334h, N334h⟩ := own_hide X334 (Fr.app N0 N334)
 show G (T334.setTop (mkF m 4 #[vR r0, vR zt, .unset, .unset, .unset, .unset, .unset, .unset] [(.ref zt)]))
 refine go _ _ (fun _ k => XS.astoreN X334h.here hx rfl (hb hby d5_4) rfl rfl (l' := #[vR r0, vR zt, vR zt, .unset, .unset, .unset, .unset, .unset]) rfl k) ?_
 show G (T334.setTop (mkF m 5 #[vR r0, vR zt, vR zt, .unset, .unset, .unset, .unset, .unset] []))
 refine go _ _ (fun _ k => XS.aloadN X334h.here hx rfl (hb hby d5_5) rfl rfl  k) ?_
 show G (T334.setTop (mkF m 6 #[vR r0, vR zt, vR zt, .unset, .unset, .unset, .unset, .unset] [(.ref zt)]))
 refine go _ _ (fun _ k => XS.aloadN X334h.here hx rfl (hb hby d5_6) rfl rfl  k) ?_
 show G (T334.setTop (mkF m 7 #[vR r0, vR zt, vR zt, .unset, .unset, .unset, .unset, .unset] [(.ref zt), (.ref zt)]))
 refine go _ _ (fun _ k => Jvm.RoadKit.acmp (g := (mkF m 7 #[vR r0, vR zt, vR zt, .unset, .unset, .unset, .unset, .unset] [(.ref zt), (.ref zt)])) X334h hx rfl (x := (.ref zt)) (y := (.ref zt)) rfl rfl (rest := []) (pc0 := 7) (pc' := 35) (same := true) rfl (hb hby d5_7) rfl (decide_eq_true rfl) (by decide) (by decide) k) ?_
 show G (T334.setTop (mkF m 35 #[vR r0, vR zt, vR zt, .unset, .unset, .unset, .unset, .unset] []))
 refine go _ _ (fun _ k => XS.aloadN X334h.here hx rfl (hb hby d5_35) rfl rfl  k) ?_
 show G (T334.setTop (mkF m 36 #[vR r0, vR zt, vR zt, .unset, .unset, .unset, .unset, .unset] [(.ref r0)]))
 obtain ⟨T335, X335, e335, st335⟩ := getF X334h hx hZ hown (host := "") (Or.inl (wd hw 13 rfl)) Via.refl hh334 Fi (g := (mkF m 36 #[vR r0, vR zt, vR zt, .unset, .unset, .unset, .unset, .unset] [(.ref r0)])) rfl rfl (hb hby d5_36)
 refine go _ _ st335 ?_
 show G (T335.setTop (mkF m 39 #[vR r0, vR zt, vR zt, .unset, .unset, .unset, .unset, .unset] [(.ref r1)]))
 refine go _ _ (fun _ k => XS.aloadN X335.here hx rfl (hb hby d5_39) rfl rfl  k) ?_
 show G (T335.setTop (mkF m 40 #[vR r0, vR zt, vR zt, .unset, .unset, .unset, .unset, .unset] [(.ref r0), (.ref r1)]))
 obtain ⟨T336, X336, e336, st336⟩ := getF X335 hx hZ hown (host := "") (Or.inl (wd hw 35 rfl)) Via.refl e335 Fp (g := (mkF m 40 #[vR r0, vR zt, vR zt, .unset, .unset, .unset, .unset, .unset] [(.ref r0), (.ref r1)])) rfl rfl (hb hby d5_40)
 refine go _ _ st336 ?_
 show G (T336.setTop (mkF m 43 #[vR r0, vR zt, vR zt, .unset, .unset, .unset, .unset, .unset] [(.int pos), (.ref r1)]))
 refine own_baload go X336 hx hZ e336 pn hpos (by omega) (g := (mkF m 43 #[vR r0, vR zt, vR zt, .unset, .unset, .unset, .unset, .unset] [(.int pos), (.ref r1)])) rfl A rfl (hb hby d5_43) ?_
 show G (T336.setTop (mkF m 44 #[vR r0, vR zt, vR zt, .unset, .unset, .unset, .unset, .unset] [(.int (g pn))]))
 refine go _ _ (fun _ k => XS.bipush X336.here hx rfl (hb hby d5_44) k) ?_
 show G (T336.setTop (mkF m 46 #[vR r0, vR zt, vR zt, .unset, .unset, .unset, .unset, .unset] [(.int (31 : Int32)), (.int (g pn))]))
 refine go _ _ (fun _ k => XS.iand X336.here hx rfl (hb hby d5_46) rfl k) ?_
 show G (T336.setTop (mkF m 47 #[vR r0, vR zt, vR zt, .unset, .unset, .unset, .unset, .unset] [(.int ((g pn) &&& (31 : Int32)))]))
 rcases hd.2 with ⟨rfl, d1, d2⟩ | ⟨rfl, d1, d2, d3⟩
 ·rw [d1]
  show G (T336.setTop (mkF m 47 #[vR r0, vR zt, vR zt, .unset, .unset, .unset, .unset, .unset] [(.int (Int32.ofNat cn))]))
  refine go _ _ (fun _ k => XS.istoreN X336.here hx rfl (hb hby d5_47) rfl (l' := #[vR r0, vR zt, vR zt, vI (Int32.ofNat cn), .unset, .unset, .unset, .unset]) rfl k) ?_
  show G (T336.setTop (mkF m 48 #[vR r0, vR zt, vR zt, vI (Int32.ofNat cn), .unset, .unset, .unset, .unset] []))
  refine go _ _ (fun _ k => XS.iloadN X336.here hx rfl (hb hby d5_48) rfl  k) ?_
  show G (T336.setTop (mkF m 49 #[vR r0, vR zt, vR zt, vI (Int32.ofNat cn), .unset, .unset, .unset, .unset] [(.int (Int32.ofNat cn))]))
  refine go _ _ (fun _ k => XS.bipush X336.here hx rfl (hb hby d5_49) k) ?_
  show G (T336.setTop (mkF m 51 #[vR r0, vR zt, vR zt, vI (Int32.ofNat cn), .unset, .unset, .unset, .unset] [(.int (23 : Int32)), (.int (Int32.ofNat cn))]))
  refine go _ _ (fun _ k => XS.icmpNo X336.here hx rfl (hb hby d5_51) rfl (Free.XT.ii_gt_f (own_lt23 d2)) k) ?_
  show G (T336.setTop (mkF m 54 #[vR r0, vR zt, vR zt, vI (Int32.ofNat cn), .unset, .unset, .unset, .unset] []))
  refine go _ _ (fun _ k => XS.iconst X336.here hx rfl (hb hby d5_54) k) ?_
  show G (T336.setTop (mkF m 55 #[vR r0, vR zt, vR zt, vI (Int32.ofNat cn), .unset, .unset, .unset, .unset] [(.int (0 : Int32))]))
  refine go _ _ (fun _ k => XS.istore X336.here hx rfl (hb hby d5_55) rfl (l' := #[vR r0, vR zt, vR zt, vI (Int32.ofNat cn), vI 0, .unset, .unset, .unset]) rfl k) ?_
  show G (T336.setTop (mkF m 57 #[vR r0, vR zt, vR zt, vI (Int32.ofNat cn), vI 0, .unset, .unset, .unset] []))
  refine go _ _ (fun _ k => XS.goto X336.here hx rfl (pc0 := 57) (pc' := 68) rfl (hb hby d5_57) (by decide) (by decide) k) ?_
  show G (T336.setTop (mkF m 68 #[vR r0, vR zt, vR zt, vI (Int32.ofNat cn), vI 0, .unset, .unset, .unset] []))
  refine go _ _ (fun _ k => XS.iload X336.here hx rfl (hb hby d5_68) rfl  k) ?_
  show G (T336.setTop (mkF m 70 #[vR r0, vR zt, vR zt, vI (Int32.ofNat cn), vI 0, .unset, .unset, .unset] [(.int (0 : Int32))]))
  refine go _ _ (fun _ k => XS.aloadN X336.here hx rfl (hb hby d5_70) rfl rfl  k) ?_
  show G (T336.setTop (mkF m 71 #[vR r0, vR zt, vR zt, vI (Int32.ofNat cn), vI 0, .unset, .unset, .unset] [(.ref r0), (.int (0 : Int32))]))
  refine own_private go X336 hx hZ e336 hown (wd hw 57 rfl) (wd hw 58 rfl) (wd hw 18 rfl) rfl (wd hw 59 rfl) (wd hw 3 rfl) (wd hw 60 rfl) (by decide) (rm_re l Z a0 hw r0 r1 pos g h0 n0 Z0 Fi Fp A) 1 (by decide) (by decide) (by decide) (by decide) E0 (g := (mkF m 71 #[vR r0, vR zt, vR zt, vI (Int32.ofNat cn), vI 0, .unset, .unset, .unset] [(.ref r0), (.int (0 : Int32))])) rfl (by rw [hml]; rfl) [] [(.int (0 : Int32))] rfl (lenOf pd_3 rfl) rfl (by show 2 * 0 + _ ≤ _; exact Nat.le_of_eq rfl) (hb hby d5_71) ?_
  intro T337 L337 v337 X337 q337
  obtain ⟨rfl, N337, hh337⟩ := q337
  obtain ⟨lc337, X337h, N337h⟩ := own_hide X337 (Fr.app N334h N337)
  show G (T337.setTop (mkF m 74 #[vR r0, vR zt, vR zt, vI (Int32.ofNat cn), vI 0, .unset, .unset, .unset] [(.int ((64 : Int32) - pos)), (.int (0 : Int32))]))
  refine go _ _ (fun _ k => XS.icmpYes X337h.here hx rfl (pc0 := 74) (pc' := 94) rfl (hb hby d5_74) rfl (Free.XT.ii_lt_t (own_rem64 0 (kk := 0) rfl hpos (by omega))) (by decide) (by decide) k) ?_
  show G (T337.setTop (mkF m 94 #[vR r0, vR zt, vR zt, vI (Int32.ofNat cn), vI 0, .unset, .unset, .unset] []))
  refine go _ _ (fun _ k => XS.iload X337h.here hx rfl (hb hby d5_94) rfl  k) ?_
  show G (T337.setTop (mkF m 96 #[vR r0, vR zt, vR zt, vI (Int32.ofNat cn), vI 0, .unset, .unset, .unset] [(.int (0 : Int32))]))
  refine go _ _ (fun _ k => XS.ifNo X337h.here hx rfl (hb hby d5_96) rfl (Free.XT.i0_ne_f (by decide)) k) ?_
  show G (T337.setTop (mkF m 99 #[vR r0, vR zt, vR zt, vI (Int32.ofNat cn), vI 0, .unset, .unset, .unset] []))
  refine go _ _ (fun _ k => XS.iloadN X337h.here hx rfl (hb hby d5_99) rfl  k) ?_
  show G (T337.setTop (mkF m 100 #[vR r0, vR zt, vR zt, vI (Int32.ofNat cn), vI 0, .unset, .unset, .unset] [(.int (Int32.ofNat cn))]))
  refine go _ _ (fun _ k => XS.i2l X337h.here hx rfl (hb hby d5_100) rfl k) ?_
  show G (T337.setTop (mkF m 101 #[vR r0, vR zt, vR zt, vI (Int32.ofNat cn), vI 0, .unset, .unset, .unset] [(.long ((Int32.ofNat cn).toInt64))]))
  refine go _ _ (fun _ k => XS.lstore X337h.here hx rfl (hb hby d5_101) rfl (l' := #[vR r0, vR zt, vR zt, vI (Int32.ofNat cn), vI 0, .val (.long ((Int32.ofNat cn).toInt64)), .second, .unset]) rfl k) ?_
  show G (T337.setTop (mkF m 103 #[vR r0, vR zt, vR zt, vI (Int32.ofNat cn), vI 0, .val (.long ((Int32.ofNat cn).toInt64)), .second, .unset] []))
  refine go _ _ (fun _ k => XS.goto X337h.here hx rfl (pc0 := 103) (pc' := 150) rfl (hb hby d5_103) (by decide) (by decide) k) ?_
  show G (T337.setTop (mkF m 150 #[vR r0, vR zt, vR zt, vI (Int32.ofNat cn), vI 0, .val (.long ((Int32.ofNat cn).toInt64)), .second, .unset] []))
  refine go _ _ (fun _ k => XS.aloadN X337h.here hx rfl (hb hby d5_150) rfl rfl  k) ?_
  show G (T337.setTop (mkF m 151 #[vR r0, vR zt, vR zt, vI (Int32.ofNat cn), vI 0, .val (.long ((Int32.ofNat cn).toInt64)), .second, .unset] [(.ref r0)]))
  refine go _ _ (fun _ k => XS.dup X337h.here hx rfl (hb hby d5_151) rfl rfl k) ?_
  show G (T337.setTop (mkF m 152 #[vR r0, vR zt, vR zt, vI (Int32.ofNat cn), vI 0, .val (.long ((Int32.ofNat cn).toInt64)), .second, .unset] [(.ref r0), (.ref r0)]))
  obtain ⟨T338, X338, e338, st338⟩ := getF X337h hx hZ hown (host := "") (Or.inl (wd hw 35 rfl)) Via.refl hh337 Fp (g := (mkF m 152 #[vR r0, vR zt, vR zt, vI (Int32.ofNat cn), vI 0, .val (.long ((Int32.ofNat cn).toInt64)), .second, .unset] [(.ref r0), (.ref r0)])) rfl rfl (hb hby d5_152)
  refine go _ _ st338 ?_
  show G (T338.setTop (mkF m 155 #[vR r0, vR zt, vR zt, vI (Int32.ofNat cn), vI 0, .val (.long ((Int32.ofNat cn).toInt64)), .second, .unset] [(.int pos), (.ref r0)]))
  refine go _ _ (fun _ k => XS.iconst X338.here hx rfl (hb hby d5_155) k) ?_
  show G (T338.setTop (mkF m 156 #[vR r0, vR zt, vR zt, vI (Int32.ofNat cn), vI 0, .val (.long ((Int32.ofNat cn).toInt64)), .second, .unset] [(.int (1 : Int32)), (.int pos), (.ref r0)]))
  refine go _ _ (fun _ k => XS.iload X338.here hx rfl (hb hby d5_156) rfl  k) ?_
  show G (T338.setTop (mkF m 158 #[vR r0, vR zt, vR zt, vI (Int32.ofNat cn), vI 0, .val (.long ((Int32.ofNat cn).toInt64)), .second, .unset] [(.int (0 : Int32)), (.int (1 : Int32)), (.int pos), (.ref r0)]))
  refine go _ _ (fun _ k => XS.iadd X338.here hx rfl (hb hby d5_158) rfl k) ?_
  show G (T338.setTop (mkF m 159 #[vR r0, vR zt, vR zt, vI (Int32.ofNat cn), vI 0, .val (.long ((Int32.ofNat cn).toInt64)), .second, .unset] [(.int ((1 : Int32) + (0 : Int32))), (.int pos), (.ref r0)]))
  refine go _ _ (fun _ k => XS.iadd X338.here hx rfl (hb hby d5_159) rfl k) ?_
  show G (T338.setTop (mkF m 160 #[vR r0, vR zt, vR zt, vI (Int32.ofNat cn), vI 0, .val (.long ((Int32.ofNat cn).toInt64)), .second, .unset] [(.int (pos + ((1 : Int32) + (0 : Int32)))), (.ref r0)]))
  obtain ⟨T339, h339, X339, e339, W339, st339⟩ := putF X338 hx hZ hown (host := "") (Or.inl (wd hw 35 rfl)) Via.refl e338 Fp E0 (Or.inl (wd hw 36 rfl)) (wd hw 2 rfl) (ty := .int) (by decide) rfl rfl (g := (mkF m 160 #[vR r0, vR zt, vR zt, vI (Int32.ofNat cn), vI 0, .val (.long ((Int32.ofNat cn).toInt64)), .second, .unset] [(.int (pos + ((1 : Int32) + (0 : Int32)))), (.ref r0)])) rfl rfl (hb hby d5_160)
  have F339 := Fp.same W339
  have K340 : Keep h0 h339 [r0] := (Keep.refl h0 [r0]).wr W339 (Or.inl (List.mem_of_getElem? (i := 0) rfl))
  obtain ⟨lc339, X339h, N339h⟩ := own_hide X339 (Fr.snoc X339 N337h g_r0)
  have Z341 : n0 ≤ h339.size := Nat.le_trans Z0 (Nat.le_of_eq W339.size.symm)
  refine go _ _ st339 ?_
  show G (T339.setTop (mkF m 163 #[vR r0, vR zt, vR zt, vI (Int32.ofNat cn), vI 0, .val (.long ((Int32.ofNat cn).toInt64)), .second, .unset] []))
  refine go _ _ (fun _ k => XS.aloadN X339h.here hx rfl (hb hby d5_163) rfl rfl  k) ?_
  show G (T339.setTop (mkF m 164 #[vR r0, vR zt, vR zt, vI (Int32.ofNat cn), vI 0, .val (.long ((Int32.ofNat cn).toInt64)), .second, .unset] [(.ref r0)]))
  have f342 := (Fd.other W339 (Or.inr (slot_ne (Or.inl (wd hw 51 rfl)) (Or.inl (wd hw 36 rfl)) (by decide) (t := .int) (t' := .int) (by decide) (by decide))))
  obtain ⟨T343, X343, e343, st343⟩ := getF X339h hx hZ hown (host := "") (Or.inl (wd hw 50 rfl)) Via.refl e339 f342 (g := (mkF m 164 #[vR r0, vR zt, vR zt, vI (Int32.ofNat cn), vI 0, .val (.long ((Int32.ofNat cn).toInt64)), .second, .unset] [(.ref r0)])) rfl rfl (hb hby d5_164)
  refine go _ _ st343 ?_
  show G (T343.setTop (mkF m 167 #[vR r0, vR zt, vR zt, vI (Int32.ofNat cn), vI 0, .val (.long ((Int32.ofNat cn).toInt64)), .second, .unset] [(.int dp)]))
  refine go _ _ (fun _ k => XS.ifNo X343.here hx rfl (hb hby d5_167) rfl (Free.XT.i0_le_f (own_pos hdp hd1)) k) ?_
  show G (T343.setTop (mkF m 170 #[vR r0, vR zt, vR zt, vI (Int32.ofNat cn), vI 0, .val (.long ((Int32.ofNat cn).toInt64)), .second, .unset] []))
  refine go _ _ (fun _ k => XS.aloadN X343.here hx rfl (hb hby d5_170) rfl rfl  k) ?_
  show G (T343.setTop (mkF m 171 #[vR r0, vR zt, vR zt, vI (Int32.ofNat cn), vI 0, .val (.long ((Int32.ofNat cn).toInt64)), .second, .unset] [(.ref zt)]))
  have f344 := (Szt.wr W339)
  obtain ⟨T345, X345, e345, st345⟩ := getS X343 hx hZ hown (host := "") (wd hw 69 rfl) Via.refl e343 f344 (g := (mkF m 171 #[vR r0, vR zt, vR zt, vI (Int32.ofNat cn), vI 0, .val (.long ((Int32.ofNat cn).toInt64)), .second, .unset] [(.ref zt)])) rfl (hb hby d5_171)
  refine go _ _ st345 ?_
  show G (T345.setTop (mkF m 174 #[vR r0, vR zt, vR zt, vI (Int32.ofNat cn), vI 0, .val (.long ((Int32.ofNat cn).toInt64)), .second, .unset] [(.ref zt), (.ref zt)]))
  refine go _ _ (fun _ k => Jvm.RoadKit.acmp (g := (mkF m 174 #[vR r0, vR zt, vR zt, vI (Int32.ofNat cn), vI 0, .val (.long ((Int32.ofNat cn).toInt64)), .second, .unset] [(.ref zt), (.ref zt)])) X345 hx rfl (x := (.ref zt)) (y := (.ref zt)) rfl rfl (rest := []) (pc0 := 174) (pc' := 192) (same := true) rfl (hb hby d5_174) rfl (decide_eq_true rfl) (by decide) (by decide) k) ?_
  show G (T345.setTop (mkF m 192 #[vR r0, vR zt, vR zt, vI (Int32.ofNat cn), vI 0, .val (.long ((Int32.ofNat cn).toInt64)), .second, .unset] []))
  refine go _ _ (fun _ k => XS.lload X345.here hx rfl (hb hby d5_192) rfl  k) ?_
  show G (T345.setTop (mkF m 194 #[vR r0, vR zt, vR zt, vI (Int32.ofNat cn), vI 0, .val (.long ((Int32.ofNat cn).toInt64)), .second, .unset] [(.long ((Int32.ofNat cn).toInt64))]))
  refine own_retJ rt X345 hx hret (hb hby d5_194) (by decide) (by decide) ?_
  have f346 := (E0.wr W339)
  have f347 := (Fi.other W339 (Or.inr (slot_ne (Or.inr (wd hw 14 rfl)) (Or.inl (wd hw 36 rfl)) (by decide) (t := (.array .byte)) (t' := .int) (by decide) (by decide))))
  have f348 := (Fl.other W339 (Or.inr (slot_ne (Or.inl (wd hw 12 rfl)) (Or.inl (wd hw 36 rfl)) (by decide) (t := (.array .int)) (t' := .int) (by decide) (by decide))))
  have f349 := (B.other W339 n20)
  rw [e345]
  exact ⟨rfl, N339h, K340, _, own_add hpos (by rfl) (by omega), f346, F339, f347, f348, f342, f349⟩
 ·rw [d1]
  show G (T336.setTop (mkF m 47 #[vR r0, vR zt, vR zt, .unset, .unset, .unset, .unset, .unset] [(.int (24 : Int32))]))
  refine go _ _ (fun _ k => XS.istoreN X336.here hx rfl (hb hby d5_47) rfl (l' := #[vR r0, vR zt, vR zt, vI 24, .unset, .unset, .unset, .unset]) rfl k) ?_
  show G (T336.setTop (mkF m 48 #[vR r0, vR zt, vR zt, vI 24, .unset, .unset, .unset, .unset] []))
  refine go _ _ (fun _ k => XS.iloadN X336.here hx rfl (hb hby d5_48) rfl  k) ?_
  show G (T336.setTop (mkF m 49 #[vR r0, vR zt, vR zt, vI 24, .unset, .unset, .unset, .unset] [(.int (24 : Int32))]))
  refine go _ _ (fun _ k => XS.bipush X336.here hx rfl (hb hby d5_49) k) ?_
  show G (T336.setTop (mkF m 51 #[vR r0, vR zt, vR zt, vI 24, .unset, .unset, .unset, .unset] [(.int (23 : Int32)), (.int (24 : Int32))]))
  refine go _ _ (fun _ k => XS.icmpYes X336.here hx rfl (pc0 := 51) (pc' := 60) rfl (hb hby d5_51) rfl (Free.XT.ii_gt_t (by decide)) (by decide) (by decide) k) ?_
  show G (T336.setTop (mkF m 60 #[vR r0, vR zt, vR zt, vI 24, .unset, .unset, .unset, .unset] []))
  refine go _ _ (fun _ k => XS.iconst X336.here hx rfl (hb hby d5_60) k) ?_
  show G (T336.setTop (mkF m 61 #[vR r0, vR zt, vR zt, vI 24, .unset, .unset, .unset, .unset] [(.int (1 : Int32))]))
  refine go _ _ (fun _ k => XS.iloadN X336.here hx rfl (hb hby d5_61) rfl  k) ?_
  show G (T336.setTop (mkF m 62 #[vR r0, vR zt, vR zt, vI 24, .unset, .unset, .unset, .unset] [(.int (24 : Int32)), (.int (1 : Int32))]))
  refine go _ _ (fun _ k => XS.bipush X336.here hx rfl (hb hby d5_62) k) ?_
  show G (T336.setTop (mkF m 64 #[vR r0, vR zt, vR zt, vI 24, .unset, .unset, .unset, .unset] [(.int (24 : Int32)), (.int (24 : Int32)), (.int (1 : Int32))]))
  refine go _ _ (fun _ k => XS.isub X336.here hx rfl (hb hby d5_64) rfl k) ?_
  show G (T336.setTop (mkF m 65 #[vR r0, vR zt, vR zt, vI 24, .unset, .unset, .unset, .unset] [(.int ((24 : Int32) - (24 : Int32))), (.int (1 : Int32))]))
  refine go _ _ (fun _ k => XS.ishl X336.here hx rfl (hb hby d5_65) rfl k) ?_
  show G (T336.setTop (mkF m 66 #[vR r0, vR zt, vR zt, vI 24, .unset, .unset, .unset, .unset] [(.int ((1 : Int32) <<< (((24 : Int32) - (24 : Int32)) &&& 31)))]))
  refine go _ _ (fun _ k => XS.istore X336.here hx rfl (hb hby d5_66) rfl (l' := #[vR r0, vR zt, vR zt, vI 24, vI ((1 : Int32) <<< (((24 : Int32) - (24 : Int32)) &&& 31)), .unset, .unset, .unset]) rfl k) ?_
  show G (T336.setTop (mkF m 68 #[vR r0, vR zt, vR zt, vI 24, vI ((1 : Int32) <<< (((24 : Int32) - (24 : Int32)) &&& 31)), .unset, .unset, .unset] []))
  show G (T336.setTop (mkF m 68 #[vR r0, vR zt, vR zt, vI 24, vI 1, .unset, .unset, .unset] []))
  refine go _ _ (fun _ k => XS.iload X336.here hx rfl (hb hby d5_68) rfl  k) ?_
  show G (T336.setTop (mkF m 70 #[vR r0, vR zt, vR zt, vI 24, vI 1, .unset, .unset, .unset] [(.int (1 : Int32))]))
  refine go _ _ (fun _ k => XS.aloadN X336.here hx rfl (hb hby d5_70) rfl rfl  k) ?_
  show G (T336.setTop (mkF m 71 #[vR r0, vR zt, vR zt, vI 24, vI 1, .unset, .unset, .unset] [(.ref r0), (.int (1 : Int32))]))
  refine own_private go X336 hx hZ e336 hown (wd hw 57 rfl) (wd hw 58 rfl) (wd hw 18 rfl) rfl (wd hw 59 rfl) (wd hw 3 rfl) (wd hw 60 rfl) (by decide) (rm_re l Z a0 hw r0 r1 pos g h0 n0 Z0 Fi Fp A) 1 (by decide) (by decide) (by decide) (by decide) E0 (g := (mkF m 71 #[vR r0, vR zt, vR zt, vI 24, vI 1, .unset, .unset, .unset] [(.ref r0), (.int (1 : Int32))])) rfl (by rw [hml]; rfl) [] [(.int (1 : Int32))] rfl (lenOf pd_3 rfl) rfl (by show 2 * 0 + _ ≤ _; exact Nat.le_of_eq rfl) (hb hby d5_71) ?_
  intro T350 L350 v350 X350 q350
  obtain ⟨rfl, N350, hh350⟩ := q350
  obtain ⟨lc350, X350h, N350h⟩ := own_hide X350 (Fr.app N334h N350)
  show G (T350.setTop (mkF m 74 #[vR r0, vR zt, vR zt, vI 24, vI 1, .unset, .unset, .unset] [(.int ((64 : Int32) - pos)), (.int (1 : Int32))]))
  refine go _ _ (fun _ k => XS.icmpYes X350h.here hx rfl (pc0 := 74) (pc' := 94) rfl (hb hby d5_74) rfl (Free.XT.ii_lt_t (own_rem64 1 (kk := 1) rfl hpos (by omega))) (by decide) (by decide) k) ?_
  show G (T350.setTop (mkF m 94 #[vR r0, vR zt, vR zt, vI 24, vI 1, .unset, .unset, .unset] []))
  refine go _ _ (fun _ k => XS.iload X350h.here hx rfl (hb hby d5_94) rfl  k) ?_
  show G (T350.setTop (mkF m 96 #[vR r0, vR zt, vR zt, vI 24, vI 1, .unset, .unset, .unset] [(.int (1 : Int32))]))
  refine go _ _ (fun _ k => XS.ifYes X350h.here hx rfl (pc0 := 96) (pc' := 106) rfl (hb hby d5_96) rfl (Free.XT.i0_ne_t (by decide)) (by decide) (by decide) k) ?_
  show G (T350.setTop (mkF m 106 #[vR r0, vR zt, vR zt, vI 24, vI 1, .unset, .unset, .unset] []))
  refine go _ _ (fun _ k => XS.lconst X350h.here hx rfl (hb hby d5_106) k) ?_
  show G (T350.setTop (mkF m 107 #[vR r0, vR zt, vR zt, vI 24, vI 1, .unset, .unset, .unset] [(.long (0 : Int64))]))
  refine go _ _ (fun _ k => XS.lstore X350h.here hx rfl (hb hby d5_107) rfl (l' := #[vR r0, vR zt, vR zt, vI 24, vI 1, .val (.long (0 : Int64)), .second, .unset]) rfl k) ?_
  show G (T350.setTop (mkF m 109 #[vR r0, vR zt, vR zt, vI 24, vI 1, .val (.long (0 : Int64)), .second, .unset] []))
  refine go _ _ (fun _ k => XS.iconst X350h.here hx rfl (hb hby d5_109) k) ?_
  show G (T350.setTop (mkF m 110 #[vR r0, vR zt, vR zt, vI 24, vI 1, .val (.long (0 : Int64)), .second, .unset] [(.int (1 : Int32))]))
  refine go _ _ (fun _ k => XS.istore X350h.here hx rfl (hb hby d5_110) rfl (l' := #[vR r0, vR zt, vR zt, vI 24, vI 1, .val (.long (0 : Int64)), .second, vI 1]) rfl k) ?_
  show G (T350.setTop (mkF m 112 #[vR r0, vR zt, vR zt, vI 24, vI 1, .val (.long (0 : Int64)), .second, vI 1] []))
  refine go _ _ (fun _ k => XS.iload X350h.here hx rfl (hb hby d5_112) rfl  k) ?_
  show G (T350.setTop (mkF m 114 #[vR r0, vR zt, vR zt, vI 24, vI 1, .val (.long (0 : Int64)), .second, vI 1] [(.int (1 : Int32))]))
  refine go _ _ (fun _ k => XS.iload X350h.here hx rfl (hb hby d5_114) rfl  k) ?_
  show G (T350.setTop (mkF m 116 #[vR r0, vR zt, vR zt, vI 24, vI 1, .val (.long (0 : Int64)), .second, vI 1] [(.int (1 : Int32)), (.int (1 : Int32))]))
  refine go _ _ (fun _ k => XS.icmpNo X350h.here hx rfl (hb hby d5_116) rfl (Free.XT.ii_gt_f (by decide)) k) ?_
  show G (T350.setTop (mkF m 119 #[vR r0, vR zt, vR zt, vI 24, vI 1, .val (.long (0 : Int64)), .second, vI 1] []))
  refine go _ _ (fun _ k => XS.lload X350h.here hx rfl (hb hby d5_119) rfl  k) ?_
  show G (T350.setTop (mkF m 121 #[vR r0, vR zt, vR zt, vI 24, vI 1, .val (.long (0 : Int64)), .second, vI 1] [(.long (0 : Int64))]))
  refine go _ _ (fun _ k => XS.bipush X350h.here hx rfl (hb hby d5_121) k) ?_
  show G (T350.setTop (mkF m 123 #[vR r0, vR zt, vR zt, vI 24, vI 1, .val (.long (0 : Int64)), .second, vI 1] [(.int (8 : Int32)), (.long (0 : Int64))]))
  refine go _ _ (fun _ k => XS.lshl X350h.here hx rfl (hb hby d5_123) rfl k) ?_
  show G (T350.setTop (mkF m 124 #[vR r0, vR zt, vR zt, vI 24, vI 1, .val (.long (0 : Int64)), .second, vI 1] [(.long ((0 : Int64) <<< ((8 : Int32) &&& 0x3f).toInt64))]))
  refine go _ _ (fun _ k => XS.aloadN X350h.here hx rfl (hb hby d5_124) rfl rfl  k) ?_
  show G (T350.setTop (mkF m 125 #[vR r0, vR zt, vR zt, vI 24, vI 1, .val (.long (0 : Int64)), .second, vI 1] [(.ref r0), (.long ((0 : Int64) <<< ((8 : Int32) &&& 0x3f).toInt64))]))
  obtain ⟨T351, X351, e351, st351⟩ := getF X350h hx hZ hown (host := "") (Or.inl (wd hw 13 rfl)) Via.refl hh350 Fi (g := (mkF m 125 #[vR r0, vR zt, vR zt, vI 24, vI 1, .val (.long (0 : Int64)), .second, vI 1] [(.ref r0), (.long ((0 : Int64) <<< ((8 : Int32) &&& 0x3f).toInt64))])) rfl rfl (hb hby d5_125)
  refine go _ _ st351 ?_
  show G (T351.setTop (mkF m 128 #[vR r0, vR zt, vR zt, vI 24, vI 1, .val (.long (0 : Int64)), .second, vI 1] [(.ref r1), (.long ((0 : Int64) <<< ((8 : Int32) &&& 0x3f).toInt64))]))
  refine go _ _ (fun _ k => XS.aloadN X351.here hx rfl (hb hby d5_128) rfl rfl  k) ?_
  show G (T351.setTop (mkF m 129 #[vR r0, vR zt, vR zt, vI 24, vI 1, .val (.long (0 : Int64)), .second, vI 1] [(.ref r0), (.ref r1), (.long ((0 : Int64) <<< ((8 : Int32) &&& 0x3f).toInt64))]))
  obtain ⟨T352, X352, e352, st352⟩ := getF X351 hx hZ hown (host := "") (Or.inl (wd hw 35 rfl)) Via.refl e351 Fp (g := (mkF m 129 #[vR r0, vR zt, vR zt, vI 24, vI 1, .val (.long (0 : Int64)), .second, vI 1] [(.ref r0), (.ref r1), (.long ((0 : Int64) <<< ((8 : Int32) &&& 0x3f).toInt64))])) rfl rfl (hb hby d5_129)
  refine go _ _ st352 ?_
  show G (T352.setTop (mkF m 132 #[vR r0, vR zt, vR zt, vI 24, vI 1, .val (.long (0 : Int64)), .second, vI 1] [(.int pos), (.ref r1), (.long ((0 : Int64) <<< ((8 : Int32) &&& 0x3f).toInt64))]))
  refine go _ _ (fun _ k => XS.iload X352.here hx rfl (hb hby d5_132) rfl  k) ?_
  show G (T352.setTop (mkF m 134 #[vR r0, vR zt, vR zt, vI 24, vI 1, .val (.long (0 : Int64)), .second, vI 1] [(.int (1 : Int32)), (.int pos), (.ref r1), (.long ((0 : Int64) <<< ((8 : Int32) &&& 0x3f).toInt64))]))
  refine go _ _ (fun _ k => XS.iadd X352.here hx rfl (hb hby d5_134) rfl k) ?_
  show G (T352.setTop (mkF m 135 #[vR r0, vR zt, vR zt, vI 24, vI 1, .val (.long (0 : Int64)), .second, vI 1] [(.int (pos + (1 : Int32))), (.ref r1), (.long ((0 : Int64) <<< ((8 : Int32) &&& 0x3f).toInt64))]))
  refine own_baload go X352 hx hZ e352 (pn + 1) (own_add hpos (by rfl) (by omega)) (by omega) (g := (mkF m 135 #[vR r0, vR zt, vR zt, vI 24, vI 1, .val (.long (0 : Int64)), .second, vI 1] [(.int (pos + (1 : Int32))), (.ref r1), (.long ((0 : Int64) <<< ((8 : Int32) &&& 0x3f).toInt64))])) rfl A rfl (hb hby d5_135) ?_
  show G (T352.setTop (mkF m 136 #[vR r0, vR zt, vR zt, vI 24, vI 1, .val (.long (0 : Int64)), .second, vI 1] [(.int (g (pn + 1))), (.long ((0 : Int64) <<< ((8 : Int32) &&& 0x3f).toInt64))]))
  refine go _ _ (fun _ k => XS.sipush X352.here hx rfl (hb hby d5_136) k) ?_
  show G (T352.setTop (mkF m 139 #[vR r0, vR zt, vR zt, vI 24, vI 1, .val (.long (0 : Int64)), .second, vI 1] [(.int (255 : Int32)), (.int (g (pn + 1))), (.long ((0 : Int64) <<< ((8 : Int32) &&& 0x3f).toInt64))]))
  refine go _ _ (fun _ k => XS.iand X352.here hx rfl (hb hby d5_139) rfl k) ?_
  show G (T352.setTop (mkF m 140 #[vR r0, vR zt, vR zt, vI 24, vI 1, .val (.long (0 : Int64)), .second, vI 1] [(.int ((g (pn + 1)) &&& (255 : Int32))), (.long ((0 : Int64) <<< ((8 : Int32) &&& 0x3f).toInt64))]))
  refine go _ _ (fun _ k => XS.i2l X352.here hx rfl (hb hby d5_140) rfl k) ?_
  show G (T352.setTop (mkF m 141 #[vR r0, vR zt, vR zt, vI 24, vI 1, .val (.long (0 : Int64)), .second, vI 1] [(.long (((g (pn + 1)) &&& (255 : Int32)).toInt64)), (.long ((0 : Int64) <<< ((8 : Int32) &&& 0x3f).toInt64))]))
  refine go _ _ (fun _ k => XS.lor X352.here hx rfl (hb hby d5_141) rfl k) ?_
  show G (T352.setTop (mkF m 142 #[vR r0, vR zt, vR zt, vI 24, vI 1, .val (.long (0 : Int64)), .second, vI 1] [(.long (((0 : Int64) <<< ((8 : Int32) &&& 0x3f).toInt64) ||| (((g (pn + 1)) &&& (255 : Int32)).toInt64)))]))
  rw [d2, own_or0]
  show G (T352.setTop (mkF m 142 #[vR r0, vR zt, vR zt, vI 24, vI 1, .val (.long (0 : Int64)), .second, vI 1] [(.long ((Int32.ofNat cn).toInt64))]))
  refine go _ _ (fun _ k => XS.lstore X352.here hx rfl (hb hby d5_142) rfl (l' := #[vR r0, vR zt, vR zt, vI 24, vI 1, .val (.long ((Int32.ofNat cn).toInt64)), .second, vI 1]) rfl k) ?_
  show G (T352.setTop (mkF m 144 #[vR r0, vR zt, vR zt, vI 24, vI 1, .val (.long ((Int32.ofNat cn).toInt64)), .second, vI 1] []))
  refine go _ _ (fun _ k => XS.iinc X352.here hx rfl (hb hby d5_144) rfl (l' := #[vR r0, vR zt, vR zt, vI 24, vI 1, .val (.long ((Int32.ofNat cn).toInt64)), .second, vI ((1 : Int32) + (1 : Int32))]) rfl k) ?_
  show G (T352.setTop (mkF m 147 #[vR r0, vR zt, vR zt, vI 24, vI 1, .val (.long ((Int32.ofNat cn).toInt64)), .second, vI ((1 : Int32) + (1 : Int32))] []))
  refine go _ _ (fun _ k => XS.goto X352.here hx rfl (pc0 := 147) (pc' := 112) rfl (hb hby d5_147) (by decide) (by decide) k) ?_
  show G (T352.setTop (mkF m 112 #[vR r0, vR zt, vR zt, vI 24, vI 1, .val (.long ((Int32.ofNat cn).toInt64)), .second, vI ((1 : Int32) + (1 : Int32))] []))
  show G (T352.setTop (mkF m 112 #[vR r0, vR zt, vR zt, vI 24, vI 1, .val (.long ((Int32.ofNat cn).toInt64)), .second, vI 2] []))
  refine go _ _ (fun _ k => XS.iload X352.here hx rfl (hb hby d5_112) rfl  k) ?_
  show G (T352.setTop (mkF m 114 #[vR r0, vR zt, vR zt, vI 24, vI 1, .val (.long ((Int32.ofNat cn).toInt64)), .second, vI 2] [(.int (2 : Int32))]))
  refine go _ _ (fun _ k => XS.iload X352.here hx rfl (hb hby d5_114) rfl  k) ?_
  show G (T352.setTop (mkF m 116 #[vR r0, vR zt, vR zt, vI 24, vI 1, .val (.long ((Int32.ofNat cn).toInt64)), .second, vI 2] [(.int (1 : Int32)), (.int (2 : Int32))]))
  refine go _ _ (fun _ k => XS.icmpYes X352.here hx rfl (pc0 := 116) (pc' := 150) rfl (hb hby d5_116) rfl (Free.XT.ii_gt_t (by decide)) (by decide) (by decide) k) ?_
  show G (T352.setTop (mkF m 150 #[vR r0, vR zt, vR zt, vI 24, vI 1, .val (.long ((Int32.ofNat cn).toInt64)), .second, vI 2] []))
  refine go _ _ (fun _ k => XS.aloadN X352.here hx rfl (hb hby d5_150) rfl rfl  k) ?_
  show G (T352.setTop (mkF m 151 #[vR r0, vR zt, vR zt, vI 24, vI 1, .val (.long ((Int32.ofNat cn).toInt64)), .second, vI 2] [(.ref r0)]))
  refine go _ _ (fun _ k => XS.dup X352.here hx rfl (hb hby d5_151) rfl rfl k) ?_
  show G (T352.setTop (mkF m 152 #[vR r0, vR zt, vR zt, vI 24, vI 1, .val (.long ((Int32.ofNat cn).toInt64)), .second, vI 2] [(.ref r0), (.ref r0)]))
  obtain ⟨T353, X353, e353, st353⟩ := getF X352 hx hZ hown (host := "") (Or.inl (wd hw 35 rfl)) Via.refl e352 Fp (g := (mkF m 152 #[vR r0, vR zt, vR zt, vI 24, vI 1, .val (.long ((Int32.ofNat cn).toInt64)), .second, vI 2] [(.ref r0), (.ref r0)])) rfl rfl (hb hby d5_152)
  refine go _ _ st353 ?_
  show G (T353.setTop (mkF m 155 #[vR r0, vR zt, vR zt, vI 24, vI 1, .val (.long ((Int32.ofNat cn).toInt64)), .second, vI 2] [(.int pos), (.ref r0)]))
  refine go _ _ (fun _ k => XS.iconst X353.here hx rfl (hb hby d5_155) k) ?_
  show G (T353.setTop (mkF m 156 #[vR r0, vR zt, vR zt, vI 24, vI 1, .val (.long ((Int32.ofNat cn).toInt64)), .second, vI 2] [(.int (1 : Int32)), (.int pos), (.ref r0)]))
  refine go _ _ (fun _ k => XS.iload X353.here hx rfl (hb hby d5_156) rfl  k) ?_
  show G (T353.setTop (mkF m 158 #[vR r0, vR zt, vR zt, vI 24, vI 1, .val (.long ((Int32.ofNat cn).toInt64)), .second, vI 2] [(.int (1 : Int32)), (.int (1 : Int32)), (.int pos), (.ref r0)]))
  refine go _ _ (fun _ k => XS.iadd X353.here hx rfl (hb hby d5_158) rfl k) ?_
  show G (T353.setTop (mkF m 159 #[vR r0, vR zt, vR zt, vI 24, vI 1, .val (.long ((Int32.ofNat cn).toInt64)), .second, vI 2] [(.int ((1 : Int32) + (1 : Int32))), (.int pos), (.ref r0)]))
  refine go _ _ (fun _ k => XS.iadd X353.here hx rfl (hb hby d5_159) rfl k) ?_
  show G (T353.setTop (mkF m 160 #[vR r0, vR zt, vR zt, vI 24, vI 1, .val (.long ((Int32.ofNat cn).toInt64)), .second, vI 2] [(.int (pos + ((1 : Int32) + (1 : Int32)))), (.ref r0)]))
  obtain ⟨T354, h354, X354, e354, W354, st354⟩ := putF X353 hx hZ hown (host := "") (Or.inl (wd hw 35 rfl)) Via.refl e353 Fp E0 (Or.inl (wd hw 36 rfl)) (wd hw 2 rfl) (ty := .int) (by decide) rfl rfl (g := (mkF m 160 #[vR r0, vR zt, vR zt, vI 24, vI 1, .val (.long ((Int32.ofNat cn).toInt64)), .second, vI 2] [(.int (pos + ((1 : Int32) + (1 : Int32)))), (.ref r0)])) rfl rfl (hb hby d5_160)
  have F354 := Fp.same W354
  have K355 : Keep h0 h354 [r0] := (Keep.refl h0 [r0]).wr W354 (Or.inl (List.mem_of_getElem? (i := 0) rfl))
  obtain ⟨lc354, X354h, N354h⟩ := own_hide X354 (Fr.snoc X354 N350h g_r0)
  have Z356 : n0 ≤ h354.size := Nat.le_trans Z0 (Nat.le_of_eq W354.size.symm)
  refine go _ _ st354 ?_
  show G (T354.setTop (mkF m 163 #[vR r0, vR zt, vR zt, vI 24, vI 1, .val (.long ((Int32.ofNat cn).toInt64)), .second, vI 2] []))
  refine go _ _ (fun _ k => XS.aloadN X354h.here hx rfl (hb hby d5_163) rfl rfl  k) ?_
  show G (T354.setTop (mkF m 164 #[vR r0, vR zt, vR zt, vI 24, vI 1, .val (.long ((Int32.ofNat cn).toInt64)), .second, vI 2] [(.ref r0)]))
  have f357 := (Fd.other W354 (Or.inr (slot_ne (Or.inl (wd hw 51 rfl)) (Or.inl (wd hw 36 rfl)) (by decide) (t := .int) (t' := .int) (by decide) (by decide))))
  obtain ⟨T358, X358, e358, st358⟩ := getF X354h hx hZ hown (host := "") (Or.inl (wd hw 50 rfl)) Via.refl e354 f357 (g := (mkF m 164 #[vR r0, vR zt, vR zt, vI 24, vI 1, .val (.long ((Int32.ofNat cn).toInt64)), .second, vI 2] [(.ref r0)])) rfl rfl (hb hby d5_164)
  refine go _ _ st358 ?_
  show G (T358.setTop (mkF m 167 #[vR r0, vR zt, vR zt, vI 24, vI 1, .val (.long ((Int32.ofNat cn).toInt64)), .second, vI 2] [(.int dp)]))
  refine go _ _ (fun _ k => XS.ifNo X358.here hx rfl (hb hby d5_167) rfl (Free.XT.i0_le_f (own_pos hdp hd1)) k) ?_
  show G (T358.setTop (mkF m 170 #[vR r0, vR zt, vR zt, vI 24, vI 1, .val (.long ((Int32.ofNat cn).toInt64)), .second, vI 2] []))
  refine go _ _ (fun _ k => XS.aloadN X358.here hx rfl (hb hby d5_170) rfl rfl  k) ?_
  show G (T358.setTop (mkF m 171 #[vR r0, vR zt, vR zt, vI 24, vI 1, .val (.long ((Int32.ofNat cn).toInt64)), .second, vI 2] [(.ref zt)]))
  have f359 := (Szt.wr W354)
  obtain ⟨T360, X360, e360, st360⟩ := getS X358 hx hZ hown (host := "") (wd hw 69 rfl) Via.refl e358 f359 (g := (mkF m 171 #[vR r0, vR zt, vR zt, vI 24, vI 1, .val (.long ((Int32.ofNat cn).toInt64)), .second, vI 2] [(.ref zt)])) rfl (hb hby d5_171)
  refine go _ _ st360 ?_
  show G (T360.setTop (mkF m 174 #[vR r0, vR zt, vR zt, vI 24, vI 1, .val (.long ((Int32.ofNat cn).toInt64)), .second, vI 2] [(.ref zt), (.ref zt)]))
  refine go _ _ (fun _ k => Jvm.RoadKit.acmp (g := (mkF m 174 #[vR r0, vR zt, vR zt, vI 24, vI 1, .val (.long ((Int32.ofNat cn).toInt64)), .second, vI 2] [(.ref zt), (.ref zt)])) X360 hx rfl (x := (.ref zt)) (y := (.ref zt)) rfl rfl (rest := []) (pc0 := 174) (pc' := 192) (same := true) rfl (hb hby d5_174) rfl (decide_eq_true rfl) (by decide) (by decide) k) ?_
  show G (T360.setTop (mkF m 192 #[vR r0, vR zt, vR zt, vI 24, vI 1, .val (.long ((Int32.ofNat cn).toInt64)), .second, vI 2] []))
  refine go _ _ (fun _ k => XS.lload X360.here hx rfl (hb hby d5_192) rfl  k) ?_
  show G (T360.setTop (mkF m 194 #[vR r0, vR zt, vR zt, vI 24, vI 1, .val (.long ((Int32.ofNat cn).toInt64)), .second, vI 2] [(.long ((Int32.ofNat cn).toInt64))]))
  refine own_retJ rt X360 hx hret (hb hby d5_194) (by decide) (by decide) ?_
  have f361 := (E0.wr W354)
  have f362 := (Fi.other W354 (Or.inr (slot_ne (Or.inr (wd hw 14 rfl)) (Or.inl (wd hw 36 rfl)) (by decide) (t := (.array .byte)) (t' := .int) (by decide) (by decide))))
  have f363 := (Fl.other W354 (Or.inr (slot_ne (Or.inl (wd hw 12 rfl)) (Or.inl (wd hw 36 rfl)) (by decide) (t := (.array .int)) (t' := .int) (by decide) (by decide))))
  have f364 := (B.other W354 n20)
  rw [e360]
  exact ⟨rfl, N354h, K355, _, own_add hpos (by rfl) (by omega), f361, F354, f362, f363, f357, f364⟩
theorem pn_17 : plainFor (⟨"java/lang/Math", "min", "(II)I"⟩ : MethodName) = true := by first | (exact plainFor_of_name (show plainName "java/lang/Math" = true by first | (simp [plainName, overriddenIn]; done) | decide +kernel)) | decide +kernel
theorem ef_rm_min (m : MethodId) (x0 : Int32) (x1 : Int32) : entryFrame m #[(.int x0), (.int x1)] 2 = mkF m 0 #[.val (.int x0), .val (.int x1)] [] := by first | (simp [entryFrame, mkF, argsToLocals, Value.category]; done) | rfl
set_option maxRecDepth 65536 in
set_option maxHeartbeats 40000000 in
theorem rm_min (l : Launch) (Z : State) (a0 : Array Value) (hw : ∀ d ∈ tables_1, d.before a0 Z = true) (u0 u1 : Int32) (h0 : Heap) (n0 : Nat) (Z0 : n0 ≤ h0.size)  :
  Con l Z (⟨"java/lang/Math", "min", "(II)I"⟩ : MethodName) jdk_29_method_69_code 2 (some .int) ({ frames := 0, cells := 0, slots := 0, locals := 0 } : Room) #[(.int u0), (.int u1)] h0 (fun v h L => v = some (.int (if u1 < u0 then u1 else u0)) ∧ Fr n0 L ∧ h = h0) := by
 refine own_body pn_17 ?_
 intro p e s m below meth c s₁ hx hby hml hown hnm hret hZ e0 X0 G go rt
 have N0 := Fr.nil n0
 rw [ef_rm_min m u0 u1]
 show G (s₁.setTop (mkF m 0 #[vI u0, vI u1] []))
 refine go _ _ (fun _ k => XS.iloadN X0.here hx rfl (hb hby d17_0) rfl  k) ?_
 show G (s₁.setTop (mkF m 1 #[vI u0, vI u1] [(.int u0)]))
 refine go _ _ (fun _ k => XS.iloadN X0.here hx rfl (hb hby d17_1) rfl  k) ?_
 show G (s₁.setTop (mkF m 2 #[vI u0, vI u1] [(.int u1), (.int u0)]))
 by_cases c365 : u1 < u0
 ·refine go _ _ (fun _ k => XS.icmpYes X0.here hx rfl (pc0 := 2) (pc' := 9) rfl (hb hby d17_2) rfl (Free.XT.ii_gt_t c365) (by decide) (by decide) k) ?_
  show G (s₁.setTop (mkF m 9 #[vI u0, vI u1] []))
  refine go _ _ (fun _ k => XS.iloadN X0.here hx rfl (hb hby d17_9) rfl  k) ?_
  show G (s₁.setTop (mkF m 10 #[vI u0, vI u1] [(.int u1)]))
  refine own_retI rt X0 hx hret (hb hby d17_10) (by decide) (by decide) ?_
  exact ⟨by simp [c365], N0, e0⟩
 ·refine go _ _ (fun _ k => XS.icmpNo X0.here hx rfl (hb hby d17_2) rfl (Free.XT.ii_gt_f c365) k) ?_
  show G (s₁.setTop (mkF m 5 #[vI u0, vI u1] []))
  refine go _ _ (fun _ k => XS.iloadN X0.here hx rfl (hb hby d17_5) rfl  k) ?_
  show G (s₁.setTop (mkF m 6 #[vI u0, vI u1] [(.int u0)]))
  refine go _ _ (fun _ k => XS.goto X0.here hx rfl (pc0 := 6) (pc' := 10) rfl (hb hby d17_6) (by decide) (by decide) k) ?_
  show G (s₁.setTop (mkF m 10 #[vI u0, vI u1] [(.int u0)]))
  refine own_retI rt X0 hx hret (hb hby d17_10) (by decide) (by decide) ?_
  exact ⟨by simp [c365], N0, e0⟩
theorem pn_11 : plainFor (⟨"java/lang/Long", "compare", "(JJ)I"⟩ : MethodName) = true := by first | (exact plainFor_of_name (show plainName "java/lang/Long" = true by first | (simp [plainName, overriddenIn]; done) | decide +kernel)) | decide +kernel
theorem ef_rm_cm (m : MethodId) (x0 : Int64) (x1 : Int64) : entryFrame m #[(.long x0), (.long x1)] 4 = mkF m 0 #[.val (.long x0), .second, .val (.long x1), .second] [] := by first | (simp [entryFrame, mkF, argsToLocals, Value.category]; done) | rfl
set_option maxRecDepth 65536 in
set_option maxHeartbeats 40000000 in
theorem rm_cm (l : Launch) (Z : State) (a0 : Array Value) (hw : ∀ d ∈ tables_1, d.before a0 Z = true) (x0 x1 : Int64) (h0 : Heap) (n0 : Nat) (Z0 : n0 ≤ h0.size)  :
  Con l Z (⟨"java/lang/Long", "compare", "(JJ)I"⟩ : MethodName) jdk_35_method_42_code 4 (some .int) ({ frames := 0, cells := 0, slots := 0, locals := 0 } : Room) #[(.long x0), (.long x1)] h0 (fun v h L => v = some (.int (cmpJ x0 x1)) ∧ Fr n0 L ∧ h = h0) := by
 refine own_body pn_11 ?_
 intro p e s m below meth c s₁ hx hby hml hown hnm hret hZ e0 X0 G go rt
 have N0 := Fr.nil n0
 rw [ef_rm_cm m x0 x1]
 show G (s₁.setTop (mkF m 0 #[.val (.long x0), .second, .val (.long x1), .second] []))
 refine go _ _ (fun _ k => XS.lloadN X0.here hx rfl (hb hby d11_0) rfl  k) ?_
 show G (s₁.setTop (mkF m 1 #[.val (.long x0), .second, .val (.long x1), .second] [(.long x0)]))
 refine go _ _ (fun _ k => XS.lloadN X0.here hx rfl (hb hby d11_1) rfl  k) ?_
 show G (s₁.setTop (mkF m 2 #[.val (.long x0), .second, .val (.long x1), .second] [(.long x1), (.long x0)]))
 refine go _ _ (fun _ k => Free.XT.lcmp X0.here hx rfl (hb hby d11_2) rfl k) ?_
 show G (s₁.setTop (mkF m 3 #[.val (.long x0), .second, .val (.long x1), .second] [(.int (Free.XT.cmpL x0 x1))]))
 by_cases c366 : x0 < x1
 ·refine go _ _ (fun _ k => XS.ifNo X0.here hx rfl (hb hby d11_3) rfl (Free.XT.ll_ge_f c366) k) ?_
  show G (s₁.setTop (mkF m 6 #[.val (.long x0), .second, .val (.long x1), .second] []))
  refine go _ _ (fun _ k => XS.iconst X0.here hx rfl (hb hby d11_6) k) ?_
  show G (s₁.setTop (mkF m 7 #[.val (.long x0), .second, .val (.long x1), .second] [(.int (-1 : Int32))]))
  refine go _ _ (fun _ k => XS.goto X0.here hx rfl (pc0 := 7) (pc' := 21) rfl (hb hby d11_7) (by decide) (by decide) k) ?_
  show G (s₁.setTop (mkF m 21 #[.val (.long x0), .second, .val (.long x1), .second] [(.int (-1 : Int32))]))
  refine own_retI rt X0 hx hret (hb hby d11_21) (by decide) (by decide) ?_
  exact ⟨by simp [cmpJ, c366], N0, e0⟩
 ·refine go _ _ (fun _ k => XS.ifYes X0.here hx rfl (pc0 := 3) (pc' := 10) rfl (hb hby d11_3) rfl (Free.XT.ll_ge_t c366) (by decide) (by decide) k) ?_
  show G (s₁.setTop (mkF m 10 #[.val (.long x0), .second, .val (.long x1), .second] []))
  refine go _ _ (fun _ k => XS.lloadN X0.here hx rfl (hb hby d11_10) rfl  k) ?_
  show G (s₁.setTop (mkF m 11 #[.val (.long x0), .second, .val (.long x1), .second] [(.long x0)]))
  refine go _ _ (fun _ k => XS.lloadN X0.here hx rfl (hb hby d11_11) rfl  k) ?_
  show G (s₁.setTop (mkF m 12 #[.val (.long x0), .second, .val (.long x1), .second] [(.long x1), (.long x0)]))
  refine go _ _ (fun _ k => Free.XT.lcmp X0.here hx rfl (hb hby d11_12) rfl k) ?_
  show G (s₁.setTop (mkF m 13 #[.val (.long x0), .second, .val (.long x1), .second] [(.int (Free.XT.cmpL x0 x1))]))
  by_cases c367 : x0 = x1
  ·refine go _ _ (fun _ k => XS.ifNo X0.here hx rfl (hb hby d11_13) rfl (Free.XT.ll_ne_f c367) k) ?_
   show G (s₁.setTop (mkF m 16 #[.val (.long x0), .second, .val (.long x1), .second] []))
   refine go _ _ (fun _ k => XS.iconst X0.here hx rfl (hb hby d11_16) k) ?_
   show G (s₁.setTop (mkF m 17 #[.val (.long x0), .second, .val (.long x1), .second] [(.int (0 : Int32))]))
   refine go _ _ (fun _ k => XS.goto X0.here hx rfl (pc0 := 17) (pc' := 21) rfl (hb hby d11_17) (by decide) (by decide) k) ?_
   show G (s₁.setTop (mkF m 21 #[.val (.long x0), .second, .val (.long x1), .second] [(.int (0 : Int32))]))
   refine own_retI rt X0 hx hret (hb hby d11_21) (by decide) (by decide) ?_
   exact ⟨by simp [cmpJ, c366, c367], N0, e0⟩
  ·refine go _ _ (fun _ k => XS.ifYes X0.here hx rfl (pc0 := 13) (pc' := 20) rfl (hb hby d11_13) rfl (Free.XT.ll_ne_t c367) (by decide) (by decide) k) ?_
   show G (s₁.setTop (mkF m 20 #[.val (.long x0), .second, .val (.long x1), .second] []))
   refine go _ _ (fun _ k => XS.iconst X0.here hx rfl (hb hby d11_20) k) ?_
   show G (s₁.setTop (mkF m 21 #[.val (.long x0), .second, .val (.long x1), .second] [(.int (1 : Int32))]))
   refine own_retI rt X0 hx hret (hb hby d11_21) (by decide) (by decide) ?_
   exact ⟨by simp [cmpJ, c366, c367], N0, e0⟩
theorem pn_10 : plainFor (⟨"java/lang/Long", "compareUnsigned", "(JJ)I"⟩ : MethodName) = true := by first | (exact plainFor_of_name (show plainName "java/lang/Long" = true by first | (simp [plainName, overriddenIn]; done) | decide +kernel)) | decide +kernel
theorem ef_rm_cu (m : MethodId) (x0 : Int64) (x1 : Int64) : entryFrame m #[(.long x0), (.long x1)] 4 = mkF m 0 #[.val (.long x0), .second, .val (.long x1), .second] [] := by first | (simp [entryFrame, mkF, argsToLocals, Value.category]; done) | rfl
set_option maxRecDepth 65536 in
set_option maxHeartbeats 40000000 in
theorem rm_cu (l : Launch) (Z : State) (a0 : Array Value) (hw : ∀ d ∈ tables_1, d.before a0 Z = true) (x0 x1 : Int64) (h0 : Heap) (n0 : Nat) (Z0 : n0 ≤ h0.size)  :
  Con l Z (⟨"java/lang/Long", "compareUnsigned", "(JJ)I"⟩ : MethodName) jdk_35_method_43_code 4 (some .int) ({ frames := 1, cells := 0, slots := 0, locals := 15 } : Room) #[(.long x0), (.long x1)] h0 (fun v h L => v = some (.int (cmpJ (x0 + (-9223372036854775808 : Int64)) (x1 + (-9223372036854775808 : Int64)))) ∧ Fr n0 L ∧ h = h0) := by
 refine own_body pn_10 ?_
 intro p e s m below meth c s₁ hx hby hml hown hnm hret hZ e0 X0 G go rt
 have N0 := Fr.nil n0
 rw [ef_rm_cu m x0 x1]
 show G (s₁.setTop (mkF m 0 #[.val (.long x0), .second, .val (.long x1), .second] []))
 refine go _ _ (fun _ k => XS.lloadN X0.here hx rfl (hb hby d10_0) rfl  k) ?_
 show G (s₁.setTop (mkF m 1 #[.val (.long x0), .second, .val (.long x1), .second] [(.long x0)]))
 refine go _ _ (fun _ k => X0.ldc2Long hx hown (mvT hZ (wd hw 65 rfl)) (g := (mkF m 1 #[.val (.long x0), .second, .val (.long x1), .second] [(.long x0)])) rfl (hb hby d10_1) _ k) ?_
 show G (s₁.setTop (mkF m 4 #[.val (.long x0), .second, .val (.long x1), .second] [(.long (-9223372036854775808 : Int64)), (.long x0)]))
 refine go _ _ (fun _ k => XS.ladd X0.here hx rfl (hb hby d10_4) rfl k) ?_
 show G (s₁.setTop (mkF m 5 #[.val (.long x0), .second, .val (.long x1), .second] [(.long (x0 + (-9223372036854775808 : Int64)))]))
 refine go _ _ (fun _ k => XS.lloadN X0.here hx rfl (hb hby d10_5) rfl  k) ?_
 show G (s₁.setTop (mkF m 6 #[.val (.long x0), .second, .val (.long x1), .second] [(.long x1), (.long (x0 + (-9223372036854775808 : Int64)))]))
 refine go _ _ (fun _ k => X0.ldc2Long hx hown (mvT hZ (wd hw 65 rfl)) (g := (mkF m 6 #[.val (.long x0), .second, .val (.long x1), .second] [(.long x1), (.long (x0 + (-9223372036854775808 : Int64)))])) rfl (hb hby d10_6) _ k) ?_
 show G (s₁.setTop (mkF m 9 #[.val (.long x0), .second, .val (.long x1), .second] [(.long (-9223372036854775808 : Int64)), (.long x1), (.long (x0 + (-9223372036854775808 : Int64)))]))
 refine go _ _ (fun _ k => XS.ladd X0.here hx rfl (hb hby d10_9) rfl k) ?_
 show G (s₁.setTop (mkF m 10 #[.val (.long x0), .second, .val (.long x1), .second] [(.long (x1 + (-9223372036854775808 : Int64))), (.long (x0 + (-9223372036854775808 : Int64)))]))
 refine own_static go X0 hx hZ e0 hown (wd hw 66 rfl) (wd hw 67 rfl) (wd hw 63 rfl) (wd hw 68 rfl) (by decide) (rm_cm l Z a0 hw (x0 + (-9223372036854775808 : Int64)) (x1 + (-9223372036854775808 : Int64)) h0 n0 Z0) 0 (by decide) (by decide) (by decide) (by decide) (g := (mkF m 10 #[.val (.long x0), .second, .val (.long x1), .second] [(.long (x1 + (-9223372036854775808 : Int64))), (.long (x0 + (-9223372036854775808 : Int64)))])) rfl (by rw [hml]; rfl) [(.long (x0 + (-9223372036854775808 : Int64))), (.long (x1 + (-9223372036854775808 : Int64)))] [] rfl (lenOf pd_4 rfl) rfl (by show 2 * 0 + _ ≤ _; exact Nat.le_of_eq rfl) (hb hby d10_10) ?_
 intro T368 L368 v368 X368 q368
 obtain ⟨rfl, N368, hh368⟩ := q368
 obtain ⟨lc368, X368h, N368h⟩ := own_hide X368 (Fr.app N0 N368)
 show G (T368.setTop (mkF m 13 #[.val (.long x0), .second, .val (.long x1), .second] [(.int (cmpJ (x0 + (-9223372036854775808 : Int64)) (x1 + (-9223372036854775808 : Int64))))]))
 refine own_retI rt X368h hx hret (hb hby d10_13) (by decide) (by decide) ?_
 exact ⟨rfl, N368h, hh368⟩
theorem pn_16 : plainFor (⟨"java/util/Arrays", "copyOf", "([II)[I"⟩ : MethodName) = true := by first | (exact plainFor_of_name (show plainName "java/util/Arrays" = true by first | (simp [plainName, overriddenIn]; done) | decide +kernel)) | decide +kernel
theorem ef_rm_cp (m : MethodId) (x0 : Addr) (x1 : Int32) : entryFrame m #[(.ref x0), (.int x1)] 3 = mkF m 0 #[.val (.ref x0), .val (.int x1), .unset] [] := by first | (simp [entryFrame, mkF, argsToLocals, Value.category]; done) | rfl
set_option maxRecDepth 65536 in
set_option maxHeartbeats 40000000 in
theorem rm_cp (l : Launch) (Z : State) (a0 : Array Value) (hw : ∀ d ∈ tables_1, d.before a0 Z = true) (il : Addr) (t : Nat → Int32) (h0 : Heap) (n0 : Nat) (Z0 : n0 ≤ h0.size) (B : Ary Z h0 il .int 4 (fun i => .int (t i))) :
  Con l Z (⟨"java/util/Arrays", "copyOf", "([II)[I"⟩ : MethodName) jdk_65_method_123_code 3 (some (.array .int)) ({ frames := 1, cells := 1, slots := 8, locals := 40 } : Room) #[(.ref il), (.int (8 : Int32))] h0 (fun v h L => ∃ il2 : Addr, v = some (.ref il2) ∧ Fr n0 L ∧ Keep h0 h [] ∧ n0 ≤ il2 ∧ h0.size ≤ il2 ∧ ∃ t2 : Nat → Int32, Ary Z h il2 .int 8 (fun i => .int (t2 i)) ∧ ∀ i, i < 4 → t2 i = t i) := by
 refine own_body pn_16 ?_
 intro p e s m below meth c s₁ hx hby hml hown hnm hret hZ e0 X0 G go rt
 have N0 := Fr.nil n0
 rw [ef_rm_cp m il (8 : Int32)]
 show G (s₁.setTop (mkF m 0 #[vR il, vI 8, .unset] []))
 refine go _ _ (fun _ k => XS.iloadN X0.here hx rfl (hb hby d16_0) rfl  k) ?_
 show G (s₁.setTop (mkF m 1 #[vR il, vI 8, .unset] [(.int (8 : Int32))]))
 refine go _ _ (fun _ k => XS.aloadN X0.here hx rfl (hb hby d16_1) rfl rfl  k) ?_
 show G (s₁.setTop (mkF m 2 #[vR il, vI 8, .unset] [(.ref il), (.int (8 : Int32))]))
 refine own_arrlen go X0 hx hZ e0 (g := (mkF m 2 #[vR il, vI 8, .unset] [(.ref il), (.int (8 : Int32))])) rfl B rfl (hb hby d16_2) ?_
 show G (s₁.setTop (mkF m 3 #[vR il, vI 8, .unset] [(.int (4 : Int32)), (.int (8 : Int32))]))
 refine go _ _ (fun _ k => XS.icmpYes X0.here hx rfl (pc0 := 3) (pc' := 14) rfl (hb hby d16_3) rfl (Free.XT.ii_ne_t (by decide)) (by decide) (by decide) k) ?_
 show G (s₁.setTop (mkF m 14 #[vR il, vI 8, .unset] []))
 refine go _ _ (fun _ k => XS.iloadN X0.here hx rfl (hb hby d16_14) rfl  k) ?_
 show G (s₁.setTop (mkF m 15 #[vR il, vI 8, .unset] [(.int (8 : Int32))]))
 refine own_newarr go X0 hx hZ e0 (g := (mkF m 15 #[vR il, vI 8, .unset] [(.int (8 : Int32))])) rfl (wd hw 10 rfl) 8 rfl (hb hby d16_15) rfl 8 (by decide) (by decide) (by decide) (by decide) ?_
 intro T369 h369 b369 X369 e369 E369 g369 A369
 have ne370 : il ≠ b369 := Nat.ne_of_lt (by rw [g369]; exact B.lt)
 have g_b369 : n0 ≤ b369 := Nat.le_trans Z0 (Nat.le_of_eq g369.symm)
 have sz_b369 : h0.size ≤ b369 := Nat.le_of_eq g369.symm
 have Z371 : n0 ≤ h369.size := Nat.le_trans Z0 E369.1
 have K372 : Keep h0 h369 [] := (Keep.refl h0 []).ext E369
 show G (T369.setTop (mkF m 17 #[vR il, vI 8, .unset] [(.ref b369)]))
 refine go _ _ (fun _ k => XS.astoreN X369.here hx rfl (hb hby d16_17) rfl rfl (l' := #[vR il, vI 8, vR b369]) rfl k) ?_
 show G (T369.setTop (mkF m 18 #[vR il, vI 8, vR b369] []))
 refine go _ _ (fun _ k => XS.aloadN X369.here hx rfl (hb hby d16_18) rfl rfl  k) ?_
 show G (T369.setTop (mkF m 19 #[vR il, vI 8, vR b369] [(.ref il)]))
 refine go _ _ (fun _ k => XS.iconst X369.here hx rfl (hb hby d16_19) k) ?_
 show G (T369.setTop (mkF m 20 #[vR il, vI 8, vR b369] [(.int (0 : Int32)), (.ref il)]))
 refine go _ _ (fun _ k => XS.aloadN X369.here hx rfl (hb hby d16_20) rfl rfl  k) ?_
 show G (T369.setTop (mkF m 21 #[vR il, vI 8, vR b369] [(.ref b369), (.int (0 : Int32)), (.ref il)]))
 refine go _ _ (fun _ k => XS.iconst X369.here hx rfl (hb hby d16_21) k) ?_
 show G (T369.setTop (mkF m 22 #[vR il, vI 8, vR b369] [(.int (0 : Int32)), (.ref b369), (.int (0 : Int32)), (.ref il)]))
 refine go _ _ (fun _ k => XS.aloadN X369.here hx rfl (hb hby d16_22) rfl rfl  k) ?_
 show G (T369.setTop (mkF m 23 #[vR il, vI 8, vR b369] [(.ref il), (.int (0 : Int32)), (.ref b369), (.int (0 : Int32)), (.ref il)]))
 have f373 := (B.ext E369)
 refine own_arrlen go X369 hx hZ e369 (g := (mkF m 23 #[vR il, vI 8, vR b369] [(.ref il), (.int (0 : Int32)), (.ref b369), (.int (0 : Int32)), (.ref il)])) rfl f373 rfl (hb hby d16_23) ?_
 show G (T369.setTop (mkF m 24 #[vR il, vI 8, vR b369] [(.int (4 : Int32)), (.int (0 : Int32)), (.ref b369), (.int (0 : Int32)), (.ref il)]))
 refine go _ _ (fun _ k => XS.iloadN X369.here hx rfl (hb hby d16_24) rfl  k) ?_
 show G (T369.setTop (mkF m 25 #[vR il, vI 8, vR b369] [(.int (8 : Int32)), (.int (4 : Int32)), (.int (0 : Int32)), (.ref b369), (.int (0 : Int32)), (.ref il)]))
 refine own_static go X369 hx hZ e369 hown (wd hw 99 rfl) (wd hw 100 rfl) (wd hw 101 rfl) (wd hw 102 rfl) (by decide) (rm_min l Z a0 hw (4 : Int32) (8 : Int32) h369 n0 Z371) 4 (by decide) (by decide) (by decide) (by decide) (g := (mkF m 25 #[vR il, vI 8, vR b369] [(.int (8 : Int32)), (.int (4 : Int32)), (.int (0 : Int32)), (.ref b369), (.int (0 : Int32)), (.ref il)])) rfl (by rw [hml]; rfl) [(.int (4 : Int32)), (.int (8 : Int32))] [(.int (0 : Int32)), (.ref b369), (.int (0 : Int32)), (.ref il)] rfl (lenOf pd_5 rfl) rfl (by show 2 * 0 + _ ≤ _; exact Nat.le_of_eq rfl) (hb hby d16_25) ?_
 intro T374 L374 v374 X374 q374
 obtain ⟨rfl, N374, hh374⟩ := q374
 obtain ⟨lc374, X374h, N374h⟩ := own_hide X374 (Fr.app N0 N374)
 rw [show (if (8 : Int32) < (4 : Int32) then (8 : Int32) else (4 : Int32)) = 4 from rfl]
 show G (T374.setTop (mkF m 28 #[vR il, vI 8, vR b369] [(.int (4 : Int32)), (.int (0 : Int32)), (.ref b369), (.int (0 : Int32)), (.ref il)]))
 refine own_acopy go X374h hx hZ hh374 hown (wd hw 103 rfl) (wd hw 106 rfl) (wd hw 104 rfl) (wd hw 105 rfl) f373 A369 4 rfl (by decide) (by decide) N374h g_b369 (g := (mkF m 28 #[vR il, vI 8, vR b369] [(.int (4 : Int32)), (.int (0 : Int32)), (.ref b369), (.int (0 : Int32)), (.ref il)])) rfl (by rw [hml]; rfl) rfl (hb hby d16_28) (by decide) 0 (by show 2 * 0 + _ ≤ _; exact Nat.le_of_eq rfl) (by decide) ?_
 intro T375 h375 lc375 X375 e375 N375 K375 A375
 have K376 : Keep h0 h375 [] := K372.trans K375 (allS (Or.inr sz_b369) all0)
 show G (T375.setTop (mkF m 31 #[vR il, vI 8, vR b369] []))
 refine go _ _ (fun _ k => XS.aloadN X375.here hx rfl (hb hby d16_31) rfl rfl  k) ?_
 show G (T375.setTop (mkF m 32 #[vR il, vI 8, vR b369] [(.ref b369)]))
 refine own_retA rt X375 hx hret rfl rfl (hb hby d16_32) (by decide) (by decide) ?_
 rw [e375]
 exact ⟨_, rfl, N375, K376, g_b369, sz_b369, (fun i => if i < 4 then t i else 0), A375.cong (fun i hi => by by_cases q : i < 4 <;> simp [q] <;> rfl), fun i hi => if_pos hi⟩
theorem pn_1 : plainFor (⟨"com/example/brevidns/brevidns/CborReader", "<init>", "([B)V"⟩ : MethodName) = true := by first | (exact plainFor_of_name (show plainName "com/example/brevidns/brevidns/CborReader" = true by first | (simp [plainName, overriddenIn]; done) | decide +kernel)) | decide +kernel
theorem ef_rm_in (m : MethodId) (x0 : Addr) (x1 : Addr) : entryFrame m #[(.ref x0), (.ref x1)] 2 = mkF m 0 #[.val (.ref x0), .val (.ref x1)] [] := by first | (simp [entryFrame, mkF, argsToLocals, Value.category]; done) | rfl
set_option maxRecDepth 65536 in
set_option maxHeartbeats 40000000 in
theorem rm_in (l : Launch) (Z : State) (a0 : Array Value) (hw : ∀ d ∈ tables_1, d.before a0 Z = true) (r0 r1 : Addr) (h0 : Heap) (n0 : Nat) (Z0 : n0 ≤ h0.size) (g_r0 : n0 ≤ r0) (E0 : Exa Z h0 r0 "com/example/brevidns/brevidns/CborReader") (F0 : Fld Z h0 r0 "com/example/brevidns/brevidns/CborReader" "input" "[B" .null) (F1 : Fld Z h0 r0 "com/example/brevidns/brevidns/CborReader" "position" "I" (.int (0 : Int32))) (F2 : Fld Z h0 r0 "com/example/brevidns/brevidns/CborReader" "itemsLeft" "[I" .null) (F3 : Fld Z h0 r0 "com/example/brevidns/brevidns/CborReader" "depth" "I" (.int (0 : Int32))) :
  Con l Z (⟨"com/example/brevidns/brevidns/CborReader", "<init>", "([B)V"⟩ : MethodName) prog_3_method_1_code 2 none ({ frames := 1, cells := 1, slots := 4, locals := 12 } : Room) #[(.ref r0), (.ref r1)] h0 (fun v h L => v = none ∧ Fr n0 L ∧ Keep h0 h [r0] ∧ ∃ il : Addr, Fld Z h r0 "com/example/brevidns/brevidns/CborReader" "position" "I" (.int 0) ∧ Fld Z h r0 "com/example/brevidns/brevidns/CborReader" "input" "[B" (.ref r1) ∧ Fld Z h r0 "com/example/brevidns/brevidns/CborReader" "itemsLeft" "[I" (.ref il) ∧ Fld Z h r0 "com/example/brevidns/brevidns/CborReader" "depth" "I" (.int 0) ∧ Ary Z h il .int 4 (fun i => .int ((fun _ => (0 : Int32)) i)) ∧ n0 ≤ il ∧ h0.size ≤ il) := by
 refine own_body pn_1 ?_
 intro p e s m below meth c s₁ hx hby hml hown hnm hret hZ e0 X0 G go rt
 have N0 := Fr.nil n0
 rw [ef_rm_in m r0 r1]
 show G (s₁.setTop (mkF m 0 #[vR r0, vR r1] []))
 refine go _ _ (fun _ k => XS.aloadN X0.here hx rfl (hb hby d1_0) rfl rfl  k) ?_
 show G (s₁.setTop (mkF m 1 #[vR r0, vR r1] [(.ref r0)]))
 obtain ⟨T377, X377, e377, st377⟩ := initO X0 hx hZ hown (wd hw 7 rfl) (wd hw 8 rfl) (wd hw 9 rfl) e0 (g := (mkF m 1 #[vR r0, vR r1] [(.ref r0)])) rfl (by rw [hml]; rfl) rfl (hb hby d1_1) (by decide) (W := 0) (by show 2 * 0 + _ ≤ _; exact Nat.le_of_eq rfl) (by decide)
 refine go _ _ st377 ?_
 show G (T377.setTop (mkF m 4 #[vR r0, vR r1] []))
 refine go _ _ (fun _ k => XS.aloadN X377.here hx rfl (hb hby d1_4) rfl rfl  k) ?_
 show G (T377.setTop (mkF m 5 #[vR r0, vR r1] [(.ref r0)]))
 refine go _ _ (fun _ k => XS.iconst X377.here hx rfl (hb hby d1_5) k) ?_
 show G (T377.setTop (mkF m 6 #[vR r0, vR r1] [(.int (4 : Int32)), (.ref r0)]))
 refine own_newarr go X377 hx hZ e377 (g := (mkF m 6 #[vR r0, vR r1] [(.int (4 : Int32)), (.ref r0)])) rfl (wd hw 10 rfl) 4 rfl (hb hby d1_6) rfl 4 (by decide) (by decide) (by decide) (by decide) ?_
 intro T378 h378 b378 X378 e378 E378 g378 A378
 have ne379 : r0 ≠ b378 := Nat.ne_of_lt (by rw [g378]; exact E0.lt)
 have g_b378 : n0 ≤ b378 := Nat.le_trans Z0 (Nat.le_of_eq g378.symm)
 have sz_b378 : h0.size ≤ b378 := Nat.le_of_eq g378.symm
 have Z380 : n0 ≤ h378.size := Nat.le_trans Z0 E378.1
 have K381 : Keep h0 h378 [r0] := (Keep.refl h0 [r0]).ext E378
 show G (T378.setTop (mkF m 8 #[vR r0, vR r1] [(.ref b378), (.ref r0)]))
 have f382 := (F2.ext E378)
 have f383 := (E0.ext E378)
 obtain ⟨T384, h384, X384, e384, W384, st384⟩ := putF X378 hx hZ hown (host := "") (Or.inl (wd hw 11 rfl)) Via.refl e378 f382 f383 (Or.inl (wd hw 12 rfl)) (wd hw 2 rfl) (ty := (.array .int)) (by decide) rfl rfl (g := (mkF m 8 #[vR r0, vR r1] [(.ref b378), (.ref r0)])) rfl rfl (hb hby d1_8)
 have F384 := f382.same W384
 have K385 : Keep h0 h384 [r0] := K381.wr W384 (Or.inl (List.mem_of_getElem? (i := 0) rfl))
 obtain ⟨lc384, X384h, N384h⟩ := own_hide X384 (Fr.snoc X384 N0 g_r0)
 have Z386 : n0 ≤ h384.size := Nat.le_trans Z380 (Nat.le_of_eq W384.size.symm)
 refine go _ _ st384 ?_
 show G (T384.setTop (mkF m 11 #[vR r0, vR r1] []))
 refine go _ _ (fun _ k => XS.aloadN X384h.here hx rfl (hb hby d1_11) rfl rfl  k) ?_
 show G (T384.setTop (mkF m 12 #[vR r0, vR r1] [(.ref r0)]))
 refine go _ _ (fun _ k => XS.aloadN X384h.here hx rfl (hb hby d1_12) rfl rfl  k) ?_
 show G (T384.setTop (mkF m 13 #[vR r0, vR r1] [(.ref r1), (.ref r0)]))
 have f387 := ((F0.ext E378).other W384 (Or.inr (slot_ne (Or.inr (wd hw 14 rfl)) (Or.inl (wd hw 12 rfl)) (by decide) (t := (.array .byte)) (t' := (.array .int)) (by decide) (by decide))))
 have f388 := (f383.wr W384)
 obtain ⟨T389, h389, X389, e389, W389, st389⟩ := putF X384h hx hZ hown (host := "") (Or.inl (wd hw 13 rfl)) Via.refl e384 f387 f388 (Or.inr ⟨(wd hw 14 rfl), rfl, hnm⟩) (wd hw 2 rfl) (ty := (.array .byte)) (by decide) rfl rfl (g := (mkF m 13 #[vR r0, vR r1] [(.ref r1), (.ref r0)])) rfl rfl (hb hby d1_13)
 have F389 := f387.same W389
 have K390 : Keep h0 h389 [r0] := K385.wr W389 (Or.inl (List.mem_of_getElem? (i := 0) rfl))
 obtain ⟨lc389, X389h, N389h⟩ := own_hide X389 (Fr.snoc X389 N384h g_r0)
 have Z391 : n0 ≤ h389.size := Nat.le_trans Z386 (Nat.le_of_eq W389.size.symm)
 refine go _ _ st389 ?_
 show G (T389.setTop (mkF m 16 #[vR r0, vR r1] []))
 refine own_retV rt X389h hx hret (hb hby d1_16) (by decide) (by decide) ?_
 have f392 := (((F1.ext E378).other W384 (Or.inr (slot_ne (Or.inl (wd hw 36 rfl)) (Or.inl (wd hw 12 rfl)) (by decide) (t := .int) (t' := (.array .int)) (by decide) (by decide)))).other W389 (Or.inr (slot_ne (Or.inl (wd hw 36 rfl)) (Or.inr (wd hw 14 rfl)) (by decide) (t := .int) (t' := (.array .byte)) (by decide) (by decide))))
 have f393 := (F384.other W389 (Or.inr (slot_ne (Or.inl (wd hw 12 rfl)) (Or.inr (wd hw 14 rfl)) (by decide) (t := (.array .int)) (t' := (.array .byte)) (by decide) (by decide))))
 have f394 := (((F3.ext E378).other W384 (Or.inr (slot_ne (Or.inl (wd hw 51 rfl)) (Or.inl (wd hw 12 rfl)) (by decide) (t := .int) (t' := (.array .int)) (by decide) (by decide)))).other W389 (Or.inr (slot_ne (Or.inl (wd hw 51 rfl)) (Or.inr (wd hw 14 rfl)) (by decide) (t := .int) (t' := (.array .byte)) (by decide) (by decide))))
 have f395 := ((A378.other W384 (Ne.symm ne379)).other W389 (Ne.symm ne379))
 rw [e389]
 exact ⟨rfl, N389h, K390, _, f392, F389, f393, f394, f395.cong (fun i hi => rfl), g_b378, sz_b378⟩
theorem pn_4 : plainFor (⟨"com/example/brevidns/brevidns/CborReader", "enter", "(Lcom/example/brevidns/brevidns/CborReader$Kind;Ljava/lang/String;Ljava/lang/String;I)V"⟩ : MethodName) = true := by first | (exact plainFor_of_name (show plainName "com/example/brevidns/brevidns/CborReader" = true by first | (simp [plainName, overriddenIn]; done) | decide +kernel)) | decide +kernel
theorem ef_rm_en4z (m : MethodId) (x0 : Addr) (x1 : Addr) (x2 : Addr) (x3 : Addr) (x4 : Int32) : entryFrame m #[(.ref x0), (.ref x1), (.ref x2), (.ref x3), (.int x4)] 9 = mkF m 0 #[.val (.ref x0), .val (.ref x1), .val (.ref x2), .val (.ref x3), .val (.int x4), .unset, .unset, .unset, .unset] [] := by first | (simp [entryFrame, mkF, argsToLocals, Value.category]; done) | rfl
set_option maxRecDepth 65536 in
set_option maxHeartbeats 40000000 in
theorem rm_en4z (l : Launch) (Z : State) (a0 : Array Value) (hw : ∀ d ∈ tables_1, d.before a0 Z = true) (q1 q2 r0 r1 il zu za zm zt : Addr) (pos : Int32) (pn : Nat) (g t : Nat → Int32) (w cn : Nat) (h0 : Heap) (n0 : Nat) (Z0 : n0 ≤ h0.size) (g_r0 : n0 ≤ r0) (g_il : n0 ≤ il) (E0 : Exa Z h0 r0 "com/example/brevidns/brevidns/CborReader") (Fp : Fld Z h0 r0 "com/example/brevidns/brevidns/CborReader" "position" "I" (.int pos)) (Fi : Fld Z h0 r0 "com/example/brevidns/brevidns/CborReader" "input" "[B" (.ref r1)) (Fl : Fld Z h0 r0 "com/example/brevidns/brevidns/CborReader" "itemsLeft" "[I" (.ref il)) (Fd : Fld Z h0 r0 "com/example/brevidns/brevidns/CborReader" "depth" "I" (.int (0 : Int32))) (A : Ary Z h0 r1 .byte 64 (fun i => .int (g i))) (B : Ary Z h0 il .int 4 (fun i => .int (t i))) (n10 : r1 ≠ r0) (n20 : il ≠ r0) (n12 : r1 ≠ il) (hpos : pos.toInt = pn) (Szu : Sta Z h0 "com/example/brevidns/brevidns/CborReader$Kind" "UNSIGNED_INTEGER" "Lcom/example/brevidns/brevidns/CborReader$Kind;" (.ref zu)) (Sza : Sta Z h0 "com/example/brevidns/brevidns/CborReader$Kind" "ARRAY" "Lcom/example/brevidns/brevidns/CborReader$Kind;" (.ref za)) (Szm : Sta Z h0 "com/example/brevidns/brevidns/CborReader$Kind" "MAP" "Lcom/example/brevidns/brevidns/CborReader$Kind;" (.ref zm)) (Szt : Sta Z h0 "com/example/brevidns/brevidns/CborReader$Kind" "TAG" "Lcom/example/brevidns/brevidns/CborReader$Kind;" (.ref zt)) (nut : zu ≠ zt) (nat : za ≠ zt) (nmt : zm ≠ zt) (hd : Head g 4 pn w cn) (hpw : pn + w ≤ 63) (hrm : cn * 1 + (pn + w) ≤ 64) :
  Con l Z (⟨"com/example/brevidns/brevidns/CborReader", "enter", "(Lcom/example/brevidns/brevidns/CborReader$Kind;Ljava/lang/String;Ljava/lang/String;I)V"⟩ : MethodName) prog_3_method_7_code 9 none ({ frames := 3, cells := 0, slots := 0, locals := 46 } : Room) #[(.ref r0), (.ref za), (.ref q1), (.ref q2), (.int (1 : Int32))] h0 (fun v h L => v = none ∧ Fr n0 L ∧ Keep h0 h [r0, il] ∧ ∃ (pos2 dp2 : Int32) (t2 : Nat → Int32), pos2.toInt = ((pn + w : Nat) : Int) ∧ dp2.toInt = ((0 + 1 : Nat) : Int) ∧ t2 0 = Int32.ofNat (cn * 1) ∧ Exa Z h r0 "com/example/brevidns/brevidns/CborReader" ∧ Fld Z h r0 "com/example/brevidns/brevidns/CborReader" "position" "I" (.int pos2) ∧ Fld Z h r0 "com/example/brevidns/brevidns/CborReader" "input" "[B" (.ref r1) ∧ Fld Z h r0 "com/example/brevidns/brevidns/CborReader" "itemsLeft" "[I" (.ref il) ∧ Fld Z h r0 "com/example/brevidns/brevidns/CborReader" "depth" "I" (.int dp2) ∧ Ary Z h il .int 4 (fun i => .int (t2 i))) := by
 refine own_body pn_4 ?_
 intro p e s m below meth c s₁ hx hby hml hown hnm hret hZ e0 X0 G go rt
 have N0 := Fr.nil n0
 rw [ef_rm_en4z m r0 za q1 q2 (1 : Int32)]
 have hww : w = 1 ∨ w = 2 := hd.ww
 have hcn := hd.cn
 show G (s₁.setTop (mkF m 0 #[vR r0, vR za, vR q1, vR q2, vI 1, .unset, .unset, .unset, .unset] []))
 refine go _ _ (fun _ k => XS.aloadN X0.here hx rfl (hb hby d4_0) rfl rfl  k) ?_
 show G (s₁.setTop (mkF m 1 #[vR r0, vR za, vR q1, vR q2, vI 1, .unset, .unset, .unset, .unset] [(.ref r0)]))
 obtain ⟨T396, X396, e396, st396⟩ := getF X0 hx hZ hown (host := "") (Or.inl (wd hw 35 rfl)) Via.refl e0 Fp (g := (mkF m 1 #[vR r0, vR za, vR q1, vR q2, vI 1, .unset, .unset, .unset, .unset] [(.ref r0)])) rfl rfl (hb hby d4_1)
 refine go _ _ st396 ?_
 show G (T396.setTop (mkF m 4 #[vR r0, vR za, vR q1, vR q2, vI 1, .unset, .unset, .unset, .unset] [(.int pos)]))
 refine go _ _ (fun _ k => XS.istore X396.here hx rfl (hb hby d4_4) rfl (l' := #[vR r0, vR za, vR q1, vR q2, vI 1, vI pos, .unset, .unset, .unset]) rfl k) ?_
 show G (T396.setTop (mkF m 6 #[vR r0, vR za, vR q1, vR q2, vI 1, vI pos, .unset, .unset, .unset] []))
 refine go _ _ (fun _ k => XS.aloadN X396.here hx rfl (hb hby d4_6) rfl rfl  k) ?_
 show G (T396.setTop (mkF m 7 #[vR r0, vR za, vR q1, vR q2, vI 1, vI pos, .unset, .unset, .unset] [(.ref r0)]))
 refine go _ _ (fun _ k => XS.aloadN X396.here hx rfl (hb hby d4_7) rfl rfl  k) ?_
 show G (T396.setTop (mkF m 8 #[vR r0, vR za, vR q1, vR q2, vI 1, vI pos, .unset, .unset, .unset] [(.ref za), (.ref r0)]))
 refine own_private go X396 hx hZ e396 hown (wd hw 37 rfl) (wd hw 38 rfl) (wd hw 18 rfl) rfl (wd hw 39 rfl) (wd hw 3 rfl) (wd hw 40 rfl) (by decide) (rm_rh4z l Z a0 hw r0 r1 il zu za zm zt pos pn 0 4 g t w cn h0 n0 Z0 g_r0 E0 Fp Fi Fl Fd A B n10 n20 n12 hpos rfl Szu Sza Szm Szt nut nat nmt hd hpw) 0 (by decide) (by decide) (by decide) (by decide) E0 (g := (mkF m 8 #[vR r0, vR za, vR q1, vR q2, vI 1, vI pos, .unset, .unset, .unset] [(.ref za), (.ref r0)])) rfl (by rw [hml]; rfl) [(.ref za)] [] rfl (lenOf pd_6 rfl) rfl (by show 2 * 0 + _ ≤ _; exact Nat.le_of_eq rfl) (hb hby d4_8) ?_
 intro T397 L397 v397 X397 q397
 obtain ⟨rfl, N397, K397, pos2, hp2, Ee397, Fp397, Fi397, Fl397, Fd397, B397⟩ := q397
 have ns398 : ∀ w ∈ [r0], ∃ c : Cell, h0[w]? = some c ∧ c.vm.isStatics = false := (allS (own_exa_ns E0) all0)
 obtain ⟨lc397, X397h, N397h⟩ := own_hide X397 (Fr.app N0 N397)
 have K399 : Keep h0 T397.heap [r0, il] := (Keep.refl h0 [r0, il]).trans K397 (allS (Or.inl (List.mem_of_getElem? (i := 0) rfl)) all0)
 have Z400 : n0 ≤ T397.heap.size := Nat.le_trans Z0 K397.1
 show G (T397.setTop (mkF m 11 #[vR r0, vR za, vR q1, vR q2, vI 1, vI pos, .unset, .unset, .unset] [(.long ((Int32.ofNat cn).toInt64))]))
 refine go _ _ (fun _ k => XS.lstore X397h.here hx rfl (hb hby d4_11) rfl (l' := #[vR r0, vR za, vR q1, vR q2, vI 1, vI pos, .val (.long ((Int32.ofNat cn).toInt64)), .second, .unset]) rfl k) ?_
 show G (T397.setTop (mkF m 13 #[vR r0, vR za, vR q1, vR q2, vI 1, vI pos, .val (.long ((Int32.ofNat cn).toInt64)), .second, .unset] []))
 refine go _ _ (fun _ k => XS.aloadN X397h.here hx rfl (hb hby d4_13) rfl rfl  k) ?_
 show G (T397.setTop (mkF m 14 #[vR r0, vR za, vR q1, vR q2, vI 1, vI pos, .val (.long ((Int32.ofNat cn).toInt64)), .second, .unset] [(.ref r0)]))
 have f401 := (A.keep K397 (ninS n10 nin0))
 refine own_private go X397h hx hZ rfl hown (wd hw 57 rfl) (wd hw 58 rfl) (wd hw 18 rfl) rfl (wd hw 59 rfl) (wd hw 3 rfl) (wd hw 60 rfl) (by decide) (rm_re l Z a0 hw r0 r1 pos2 g T397.heap n0 Z400 Fi397 Fp397 f401) 0 (by decide) (by decide) (by decide) (by decide) Ee397 (g := (mkF m 14 #[vR r0, vR za, vR q1, vR q2, vI 1, vI pos, .val (.long ((Int32.ofNat cn).toInt64)), .second, .unset] [(.ref r0)])) rfl (by rw [hml]; rfl) [] [] rfl (lenOf pd_3 rfl) rfl (by show 2 * 0 + _ ≤ _; exact Nat.le_of_eq rfl) (hb hby d4_14) ?_
 intro T402 L402 v402 X402 q402
 obtain ⟨rfl, N402, hh402⟩ := q402
 obtain ⟨lc402, X402h, N402h⟩ := own_hide X402 (Fr.app N397h N402)
 show G (T402.setTop (mkF m 17 #[vR r0, vR za, vR q1, vR q2, vI 1, vI pos, .val (.long ((Int32.ofNat cn).toInt64)), .second, .unset] [(.int ((64 : Int32) - pos2))]))
 refine go _ _ (fun _ k => XS.iload X402h.here hx rfl (hb hby d4_17) rfl  k) ?_
 show G (T402.setTop (mkF m 19 #[vR r0, vR za, vR q1, vR q2, vI 1, vI pos, .val (.long ((Int32.ofNat cn).toInt64)), .second, .unset] [(.int (1 : Int32)), (.int ((64 : Int32) - pos2))]))
 refine go _ _ (fun _ k => XS.idiv X402h.here hx rfl (hb hby d4_19) rfl (by decide) k) ?_
 show G (T402.setTop (mkF m 20 #[vR r0, vR za, vR q1, vR q2, vI 1, vI pos, .val (.long ((Int32.ofNat cn).toInt64)), .second, .unset] [(.int (((64 : Int32) - pos2) / (1 : Int32)))]))
 refine go _ _ (fun _ k => XS.istore X402h.here hx rfl (hb hby d4_20) rfl (l' := #[vR r0, vR za, vR q1, vR q2, vI 1, vI pos, .val (.long ((Int32.ofNat cn).toInt64)), .second, vI (((64 : Int32) - pos2) / (1 : Int32))]) rfl k) ?_
 show G (T402.setTop (mkF m 22 #[vR r0, vR za, vR q1, vR q2, vI 1, vI pos, .val (.long ((Int32.ofNat cn).toInt64)), .second, vI (((64 : Int32) - pos2) / (1 : Int32))] []))
 refine go _ _ (fun _ k => XS.lload X402h.here hx rfl (hb hby d4_22) rfl  k) ?_
 show G (T402.setTop (mkF m 24 #[vR r0, vR za, vR q1, vR q2, vI 1, vI pos, .val (.long ((Int32.ofNat cn).toInt64)), .second, vI (((64 : Int32) - pos2) / (1 : Int32))] [(.long ((Int32.ofNat cn).toInt64))]))
 refine go _ _ (fun _ k => XS.iload X402h.here hx rfl (hb hby d4_24) rfl  k) ?_
 show G (T402.setTop (mkF m 26 #[vR r0, vR za, vR q1, vR q2, vI 1, vI pos, .val (.long ((Int32.ofNat cn).toInt64)), .second, vI (((64 : Int32) - pos2) / (1 : Int32))] [(.int (((64 : Int32) - pos2) / (1 : Int32))), (.long ((Int32.ofNat cn).toInt64))]))
 refine go _ _ (fun _ k => XS.i2l X402h.here hx rfl (hb hby d4_26) rfl k) ?_
 show G (T402.setTop (mkF m 27 #[vR r0, vR za, vR q1, vR q2, vI 1, vI pos, .val (.long ((Int32.ofNat cn).toInt64)), .second, vI (((64 : Int32) - pos2) / (1 : Int32))] [(.long ((((64 : Int32) - pos2) / (1 : Int32)).toInt64)), (.long ((Int32.ofNat cn).toInt64))]))
 refine own_static go X402h hx hZ hh402 hown (wd hw 61 rfl) (wd hw 62 rfl) (wd hw 63 rfl) (wd hw 64 rfl) (by decide) (rm_cu l Z a0 hw ((Int32.ofNat cn).toInt64) ((((64 : Int32) - pos2) / (1 : Int32)).toInt64) T397.heap n0 Z400) 0 (by decide) (by decide) (by decide) (by decide) (g := (mkF m 27 #[vR r0, vR za, vR q1, vR q2, vI 1, vI pos, .val (.long ((Int32.ofNat cn).toInt64)), .second, vI (((64 : Int32) - pos2) / (1 : Int32))] [(.long ((((64 : Int32) - pos2) / (1 : Int32)).toInt64)), (.long ((Int32.ofNat cn).toInt64))])) rfl (by rw [hml]; rfl) [(.long ((Int32.ofNat cn).toInt64)), (.long ((((64 : Int32) - pos2) / (1 : Int32)).toInt64))] [] rfl (lenOf pd_4 rfl) rfl (by show 2 * 0 + _ ≤ _; exact Nat.le_of_eq rfl) (hb hby d4_27) ?_
 intro T403 L403 v403 X403 q403
 obtain ⟨rfl, N403, hh403⟩ := q403
 obtain ⟨lc403, X403h, N403h⟩ := own_hide X403 (Fr.app N402h N403)
 show G (T403.setTop (mkF m 30 #[vR r0, vR za, vR q1, vR q2, vI 1, vI pos, .val (.long ((Int32.ofNat cn).toInt64)), .second, vI (((64 : Int32) - pos2) / (1 : Int32))] [(.int (cmpJ (((Int32.ofNat cn).toInt64) + (-9223372036854775808 : Int64)) (((((64 : Int32) - pos2) / (1 : Int32)).toInt64) + (-9223372036854775808 : Int64))))]))
 refine go _ _ (fun _ k => XS.ifYes X403h.here hx rfl (pc0 := 30) (pc' := 55) rfl (hb hby d4_30) rfl (Free.XT.i0_le_t (own_cmpU 1 rfl (by decide) hcn hp2 hrm)) (by decide) (by decide) k) ?_
 show G (T403.setTop (mkF m 55 #[vR r0, vR za, vR q1, vR q2, vI 1, vI pos, .val (.long ((Int32.ofNat cn).toInt64)), .second, vI (((64 : Int32) - pos2) / (1 : Int32))] []))
 refine go _ _ (fun _ k => XS.aloadN X403h.here hx rfl (hb hby d4_55) rfl rfl  k) ?_
 show G (T403.setTop (mkF m 56 #[vR r0, vR za, vR q1, vR q2, vI 1, vI pos, .val (.long ((Int32.ofNat cn).toInt64)), .second, vI (((64 : Int32) - pos2) / (1 : Int32))] [(.ref r0)]))
 obtain ⟨T404, X404, e404, st404⟩ := getF X403h hx hZ hown (host := "") (Or.inl (wd hw 50 rfl)) Via.refl hh403 Fd397 (g := (mkF m 56 #[vR r0, vR za, vR q1, vR q2, vI 1, vI pos, .val (.long ((Int32.ofNat cn).toInt64)), .second, vI (((64 : Int32) - pos2) / (1 : Int32))] [(.ref r0)])) rfl rfl (hb hby d4_56)
 refine go _ _ st404 ?_
 show G (T404.setTop (mkF m 59 #[vR r0, vR za, vR q1, vR q2, vI 1, vI pos, .val (.long ((Int32.ofNat cn).toInt64)), .second, vI (((64 : Int32) - pos2) / (1 : Int32))] [(.int (0 : Int32))]))
 refine go _ _ (fun _ k => XS.aloadN X404.here hx rfl (hb hby d4_59) rfl rfl  k) ?_
 show G (T404.setTop (mkF m 60 #[vR r0, vR za, vR q1, vR q2, vI 1, vI pos, .val (.long ((Int32.ofNat cn).toInt64)), .second, vI (((64 : Int32) - pos2) / (1 : Int32))] [(.ref r0), (.int (0 : Int32))]))
 obtain ⟨T405, X405, e405, st405⟩ := getF X404 hx hZ hown (host := "") (Or.inl (wd hw 11 rfl)) Via.refl e404 Fl397 (g := (mkF m 60 #[vR r0, vR za, vR q1, vR q2, vI 1, vI pos, .val (.long ((Int32.ofNat cn).toInt64)), .second, vI (((64 : Int32) - pos2) / (1 : Int32))] [(.ref r0), (.int (0 : Int32))])) rfl rfl (hb hby d4_60)
 refine go _ _ st405 ?_
 show G (T405.setTop (mkF m 63 #[vR r0, vR za, vR q1, vR q2, vI 1, vI pos, .val (.long ((Int32.ofNat cn).toInt64)), .second, vI (((64 : Int32) - pos2) / (1 : Int32))] [(.ref il), (.int (0 : Int32))]))
 refine own_arrlen go X405 hx hZ e405 (g := (mkF m 63 #[vR r0, vR za, vR q1, vR q2, vI 1, vI pos, .val (.long ((Int32.ofNat cn).toInt64)), .second, vI (((64 : Int32) - pos2) / (1 : Int32))] [(.ref il), (.int (0 : Int32))])) rfl B397 rfl (hb hby d4_63) ?_
 show G (T405.setTop (mkF m 64 #[vR r0, vR za, vR q1, vR q2, vI 1, vI pos, .val (.long ((Int32.ofNat cn).toInt64)), .second, vI (((64 : Int32) - pos2) / (1 : Int32))] [(.int (4 : Int32)), (.int (0 : Int32))]))
 refine go _ _ (fun _ k => XS.icmpYes X405.here hx rfl (pc0 := 64) (pc' := 84) rfl (hb hby d4_64) rfl (Free.XT.ii_ne_t (by decide)) (by decide) (by decide) k) ?_
 show G (T405.setTop (mkF m 84 #[vR r0, vR za, vR q1, vR q2, vI 1, vI pos, .val (.long ((Int32.ofNat cn).toInt64)), .second, vI (((64 : Int32) - pos2) / (1 : Int32))] []))
 refine go _ _ (fun _ k => XS.aloadN X405.here hx rfl (hb hby d4_84) rfl rfl  k) ?_
 show G (T405.setTop (mkF m 85 #[vR r0, vR za, vR q1, vR q2, vI 1, vI pos, .val (.long ((Int32.ofNat cn).toInt64)), .second, vI (((64 : Int32) - pos2) / (1 : Int32))] [(.ref r0)]))
 obtain ⟨T406, X406, e406, st406⟩ := getF X405 hx hZ hown (host := "") (Or.inl (wd hw 11 rfl)) Via.refl e405 Fl397 (g := (mkF m 85 #[vR r0, vR za, vR q1, vR q2, vI 1, vI pos, .val (.long ((Int32.ofNat cn).toInt64)), .second, vI (((64 : Int32) - pos2) / (1 : Int32))] [(.ref r0)])) rfl rfl (hb hby d4_85)
 refine go _ _ st406 ?_
 show G (T406.setTop (mkF m 88 #[vR r0, vR za, vR q1, vR q2, vI 1, vI pos, .val (.long ((Int32.ofNat cn).toInt64)), .second, vI (((64 : Int32) - pos2) / (1 : Int32))] [(.ref il)]))
 refine go _ _ (fun _ k => XS.aloadN X406.here hx rfl (hb hby d4_88) rfl rfl  k) ?_
 show G (T406.setTop (mkF m 89 #[vR r0, vR za, vR q1, vR q2, vI 1, vI pos, .val (.long ((Int32.ofNat cn).toInt64)), .second, vI (((64 : Int32) - pos2) / (1 : Int32))] [(.ref r0), (.ref il)]))
 refine go _ _ (fun _ k => XS.dup X406.here hx rfl (hb hby d4_89) rfl rfl k) ?_
 show G (T406.setTop (mkF m 90 #[vR r0, vR za, vR q1, vR q2, vI 1, vI pos, .val (.long ((Int32.ofNat cn).toInt64)), .second, vI (((64 : Int32) - pos2) / (1 : Int32))] [(.ref r0), (.ref r0), (.ref il)]))
 obtain ⟨T407, X407, e407, st407⟩ := getF X406 hx hZ hown (host := "") (Or.inl (wd hw 50 rfl)) Via.refl e406 Fd397 (g := (mkF m 90 #[vR r0, vR za, vR q1, vR q2, vI 1, vI pos, .val (.long ((Int32.ofNat cn).toInt64)), .second, vI (((64 : Int32) - pos2) / (1 : Int32))] [(.ref r0), (.ref r0), (.ref il)])) rfl rfl (hb hby d4_90)
 refine go _ _ st407 ?_
 show G (T407.setTop (mkF m 93 #[vR r0, vR za, vR q1, vR q2, vI 1, vI pos, .val (.long ((Int32.ofNat cn).toInt64)), .second, vI (((64 : Int32) - pos2) / (1 : Int32))] [(.int (0 : Int32)), (.ref r0), (.ref il)]))
 refine go _ _ (fun _ k => XS.dupX1 X407.here hx rfl (hb hby d4_93) rfl rfl rfl k) ?_
 show G (T407.setTop (mkF m 94 #[vR r0, vR za, vR q1, vR q2, vI 1, vI pos, .val (.long ((Int32.ofNat cn).toInt64)), .second, vI (((64 : Int32) - pos2) / (1 : Int32))] [(.int (0 : Int32)), (.ref r0), (.int (0 : Int32)), (.ref il)]))
 refine go _ _ (fun _ k => XS.iconst X407.here hx rfl (hb hby d4_94) k) ?_
 show G (T407.setTop (mkF m 95 #[vR r0, vR za, vR q1, vR q2, vI 1, vI pos, .val (.long ((Int32.ofNat cn).toInt64)), .second, vI (((64 : Int32) - pos2) / (1 : Int32))] [(.int (1 : Int32)), (.int (0 : Int32)), (.ref r0), (.int (0 : Int32)), (.ref il)]))
 refine go _ _ (fun _ k => XS.iadd X407.here hx rfl (hb hby d4_95) rfl k) ?_
 show G (T407.setTop (mkF m 96 #[vR r0, vR za, vR q1, vR q2, vI 1, vI pos, .val (.long ((Int32.ofNat cn).toInt64)), .second, vI (((64 : Int32) - pos2) / (1 : Int32))] [(.int ((0 : Int32) + (1 : Int32))), (.ref r0), (.int (0 : Int32)), (.ref il)]))
 obtain ⟨T408, h408, X408, e408, W408, st408⟩ := putF X407 hx hZ hown (host := "") (Or.inl (wd hw 50 rfl)) Via.refl e407 Fd397 Ee397 (Or.inl (wd hw 51 rfl)) (wd hw 2 rfl) (ty := .int) (by decide) rfl rfl (g := (mkF m 96 #[vR r0, vR za, vR q1, vR q2, vI 1, vI pos, .val (.long ((Int32.ofNat cn).toInt64)), .second, vI (((64 : Int32) - pos2) / (1 : Int32))] [(.int ((0 : Int32) + (1 : Int32))), (.ref r0), (.int (0 : Int32)), (.ref il)])) rfl rfl (hb hby d4_96)
 have F408 := Fd397.same W408
 have K409 : Keep h0 h408 [r0, il] := K399.wr W408 (Or.inl (List.mem_of_getElem? (i := 0) rfl))
 obtain ⟨lc408, X408h, N408h⟩ := own_hide X408 (Fr.snoc X408 N403h g_r0)
 have Z410 : n0 ≤ h408.size := Nat.le_trans Z400 (Nat.le_of_eq W408.size.symm)
 refine go _ _ st408 ?_
 show G (T408.setTop (mkF m 99 #[vR r0, vR za, vR q1, vR q2, vI 1, vI pos, .val (.long ((Int32.ofNat cn).toInt64)), .second, vI (((64 : Int32) - pos2) / (1 : Int32))] [(.int (0 : Int32)), (.ref il)]))
 refine go _ _ (fun _ k => XS.lload X408h.here hx rfl (hb hby d4_99) rfl  k) ?_
 show G (T408.setTop (mkF m 101 #[vR r0, vR za, vR q1, vR q2, vI 1, vI pos, .val (.long ((Int32.ofNat cn).toInt64)), .second, vI (((64 : Int32) - pos2) / (1 : Int32))] [(.long ((Int32.ofNat cn).toInt64)), (.int (0 : Int32)), (.ref il)]))
 refine go _ _ (fun _ k => XS.l2i X408h.here hx rfl (hb hby d4_101) rfl k) ?_
 show G (T408.setTop (mkF m 102 #[vR r0, vR za, vR q1, vR q2, vI 1, vI pos, .val (.long ((Int32.ofNat cn).toInt64)), .second, vI (((64 : Int32) - pos2) / (1 : Int32))] [(.int (((Int32.ofNat cn).toInt64).toInt32)), (.int (0 : Int32)), (.ref il)]))
 refine go _ _ (fun _ k => XS.iload X408h.here hx rfl (hb hby d4_102) rfl  k) ?_
 show G (T408.setTop (mkF m 104 #[vR r0, vR za, vR q1, vR q2, vI 1, vI pos, .val (.long ((Int32.ofNat cn).toInt64)), .second, vI (((64 : Int32) - pos2) / (1 : Int32))] [(.int (1 : Int32)), (.int (((Int32.ofNat cn).toInt64).toInt32)), (.int (0 : Int32)), (.ref il)]))
 refine go _ _ (fun _ k => XS.imul X408h.here hx rfl (hb hby d4_104) rfl k) ?_
 show G (T408.setTop (mkF m 105 #[vR r0, vR za, vR q1, vR q2, vI 1, vI pos, .val (.long ((Int32.ofNat cn).toInt64)), .second, vI (((64 : Int32) - pos2) / (1 : Int32))] [(.int ((((Int32.ofNat cn).toInt64).toInt32) * (1 : Int32))), (.int (0 : Int32)), (.ref il)]))
 have f411 := (B397.other W408 n20)
 refine own_iastore go X408h hx hZ e408 0 rfl (by decide) (g := (mkF m 105 #[vR r0, vR za, vR q1, vR q2, vI 1, vI pos, .val (.long ((Int32.ofNat cn).toInt64)), .second, vI (((64 : Int32) - pos2) / (1 : Int32))] [(.int ((((Int32.ofNat cn).toInt64).toInt32) * (1 : Int32))), (.int (0 : Int32)), (.ref il)])) rfl f411 rfl (hb hby d4_105) ?_
 intro T412 h412 X412 e412 W412 A412
 have K413 : Keep h0 h412 [r0, il] := K409.wr W412 (Or.inl (List.mem_of_getElem? (i := 1) rfl))
 obtain ⟨lc412, X412h, N412h⟩ := own_hide X412 (Fr.snoc X412 N408h g_il)
 have Z414 : n0 ≤ h412.size := Nat.le_trans Z410 (Nat.le_of_eq W412.size.symm)
 have A412c := A412.cong (g := (fun i => .int ((upd t 0 (Int32.ofNat (cn * 1))) i))) (own_upd (own_val 1 rfl hcn (by decide)))
 show G (T412.setTop (mkF m 106 #[vR r0, vR za, vR q1, vR q2, vI 1, vI pos, .val (.long ((Int32.ofNat cn).toInt64)), .second, vI (((64 : Int32) - pos2) / (1 : Int32))] []))
 refine own_retV rt X412h hx hret (hb hby d4_106) (by decide) (by decide) ?_
 have f415 := ((Ee397.wr W408).wr W412)
 have f416 := ((Fp397.other W408 (Or.inr (slot_ne (Or.inl (wd hw 36 rfl)) (Or.inl (wd hw 51 rfl)) (by decide) (t := .int) (t' := .int) (by decide) (by decide)))).other W412 (Or.inl (Ne.symm n20)))
 have f417 := ((Fi397.other W408 (Or.inr (slot_ne (Or.inr (wd hw 14 rfl)) (Or.inl (wd hw 51 rfl)) (by decide) (t := (.array .byte)) (t' := .int) (by decide) (by decide)))).other W412 (Or.inl (Ne.symm n20)))
 have f418 := ((Fl397.other W408 (Or.inr (slot_ne (Or.inl (wd hw 12 rfl)) (Or.inl (wd hw 51 rfl)) (by decide) (t := (.array .int)) (t' := .int) (by decide) (by decide)))).other W412 (Or.inl (Ne.symm n20)))
 have f419 := (F408.other W412 (Or.inl (Ne.symm n20)))
 rw [e412]
 exact ⟨rfl, N412h, K413, _, _, _, hp2, own_add (i := 0) rfl (j := 1) rfl (by omega), upd_eq, f415, f416, f417, f418, f419, A412c⟩
theorem pn_3 : plainFor (⟨"com/example/brevidns/brevidns/CborReader", "openArray", "()V"⟩ : MethodName) = true := by first | (exact plainFor_of_name (show plainName "com/example/brevidns/brevidns/CborReader" = true by first | (simp [plainName, overriddenIn]; done) | decide +kernel)) | decide +kernel
theorem ef_rm_op4z (m : MethodId) (x0 : Addr) : entryFrame m #[(.ref x0)] 1 = mkF m 0 #[.val (.ref x0)] [] := by first | (simp [entryFrame, mkF, argsToLocals, Value.category]; done) | rfl
set_option maxRecDepth 65536 in
set_option maxHeartbeats 40000000 in
theorem rm_op4z (l : Launch) (Z : State) (a0 : Array Value) (hw : ∀ d ∈ tables_1, d.before a0 Z = true) (r0 r1 il zu za zm zt : Addr) (pos : Int32) (pn : Nat) (g t : Nat → Int32) (w cn : Nat) (h0 : Heap) (n0 : Nat) (Z0 : n0 ≤ h0.size) (g_r0 : n0 ≤ r0) (g_il : n0 ≤ il) (E0 : Exa Z h0 r0 "com/example/brevidns/brevidns/CborReader") (Fp : Fld Z h0 r0 "com/example/brevidns/brevidns/CborReader" "position" "I" (.int pos)) (Fi : Fld Z h0 r0 "com/example/brevidns/brevidns/CborReader" "input" "[B" (.ref r1)) (Fl : Fld Z h0 r0 "com/example/brevidns/brevidns/CborReader" "itemsLeft" "[I" (.ref il)) (Fd : Fld Z h0 r0 "com/example/brevidns/brevidns/CborReader" "depth" "I" (.int (0 : Int32))) (A : Ary Z h0 r1 .byte 64 (fun i => .int (g i))) (B : Ary Z h0 il .int 4 (fun i => .int (t i))) (n10 : r1 ≠ r0) (n20 : il ≠ r0) (n12 : r1 ≠ il) (hpos : pos.toInt = pn) (Szu : Sta Z h0 "com/example/brevidns/brevidns/CborReader$Kind" "UNSIGNED_INTEGER" "Lcom/example/brevidns/brevidns/CborReader$Kind;" (.ref zu)) (Sza : Sta Z h0 "com/example/brevidns/brevidns/CborReader$Kind" "ARRAY" "Lcom/example/brevidns/brevidns/CborReader$Kind;" (.ref za)) (Szm : Sta Z h0 "com/example/brevidns/brevidns/CborReader$Kind" "MAP" "Lcom/example/brevidns/brevidns/CborReader$Kind;" (.ref zm)) (Szt : Sta Z h0 "com/example/brevidns/brevidns/CborReader$Kind" "TAG" "Lcom/example/brevidns/brevidns/CborReader$Kind;" (.ref zt)) (nut : zu ≠ zt) (nat : za ≠ zt) (nmt : zm ≠ zt) (hd : Head g 4 pn w cn) (hpw : pn + w ≤ 63) (hrm : cn * 1 + (pn + w) ≤ 64) :
  ConW l Z (⟨"com/example/brevidns/brevidns/CborReader", "openArray", "()V"⟩ : MethodName) prog_3_method_5_code 1 none ({ frames := 4, cells := 4, slots := 64, locals := 66 } : Room) #[(.ref r0)] h0 (fun v h L => v = none ∧ Fr n0 L ∧ Keep h0 h [r0, il] ∧ ∃ (pos2 dp2 : Int32) (t2 : Nat → Int32), pos2.toInt = ((pn + w : Nat) : Int) ∧ dp2.toInt = ((0 + 1 : Nat) : Int) ∧ t2 0 = Int32.ofNat (cn * 1) ∧ Exa Z h r0 "com/example/brevidns/brevidns/CborReader" ∧ Fld Z h r0 "com/example/brevidns/brevidns/CborReader" "position" "I" (.int pos2) ∧ Fld Z h r0 "com/example/brevidns/brevidns/CborReader" "input" "[B" (.ref r1) ∧ Fld Z h r0 "com/example/brevidns/brevidns/CborReader" "itemsLeft" "[I" (.ref il) ∧ Fld Z h r0 "com/example/brevidns/brevidns/CborReader" "depth" "I" (.int dp2) ∧ Ary Z h il .int 4 (fun i => .int (t2 i))) := by
 refine own_bodyW pn_3 ?_
 intro p e s m below meth c s₁ hx hby hml hown hnm hret hZ e0 X0 G go kS rb Zk0
 have rt := own_rt rb
 have N0 := Fr.nil n0
 rw [ef_rm_op4z m r0]
 show G (s₁.setTop (mkF m 0 #[vR r0] []))
 refine go _ _ (fun _ k => XS.aloadN X0.here hx rfl (hb hby d3_0) rfl rfl  k) ?_
 show G (s₁.setTop (mkF m 1 #[vR r0] [(.ref r0)]))
 obtain ⟨T420, X420, e420, st420⟩ := getS X0 hx hZ hown (host := "") (wd hw 20 rfl) Via.refl e0 Sza (g := (mkF m 1 #[vR r0] [(.ref r0)])) rfl (hb hby d3_1)
 refine go _ _ st420 ?_
 show G (T420.setTop (mkF m 4 #[vR r0] [(.ref za), (.ref r0)]))
 refine own_ldcS go X420 hx hZ e420 hown (wd hw 23 rfl) (own_wS hw) rb Zk0 (g := (mkF m 4 #[vR r0] [(.ref za), (.ref r0)])) rfl (hb hby d3_4) 36 (by decide) (by decide) (by decide) (by decide) ?_
 intro s kS T421 h421 a421 hZ hown rb Y421 X421 e421 E421
 have rt := own_rt rb
 have Z422 : n0 ≤ h421.size := Nat.le_trans Z0 E421.1
 have K423 : Keep h0 h421 [r0, il] := (Keep.refl h0 [r0, il]).ext E421
 show G (T421.setTop (mkF m 6 #[vR r0] [(.ref a421), (.ref za), (.ref r0)]))
 refine own_ldcS go X421 hx hZ e421 hown (wd hw 30 rfl) (own_wS hw) rb Y421 (g := (mkF m 6 #[vR r0] [(.ref a421), (.ref za), (.ref r0)])) rfl (hb hby d3_6) 20 (by decide) (by decide) (by decide) (by decide) ?_
 intro s kS T424 h424 a424 hZ hown rb Y424 X424 e424 E424
 have rt := own_rt rb
 have Z425 : n0 ≤ h424.size := Nat.le_trans Z422 E424.1
 have K426 : Keep h0 h424 [r0, il] := K423.ext E424
 show G (T424.setTop (mkF m 8 #[vR r0] [(.ref a424), (.ref a421), (.ref za), (.ref r0)]))
 refine go _ _ (fun _ k => XS.iconst X424.here hx rfl (hb hby d3_8) k) ?_
 show G (T424.setTop (mkF m 9 #[vR r0] [(.int (1 : Int32)), (.ref a424), (.ref a421), (.ref za), (.ref r0)]))
 have f427 := ((E0.ext E421).ext E424)
 have f428 := ((Fp.ext E421).ext E424)
 have f429 := ((Fi.ext E421).ext E424)
 have f430 := ((Fl.ext E421).ext E424)
 have f431 := ((Fd.ext E421).ext E424)
 have f432 := ((A.ext E421).ext E424)
 have f433 := ((B.ext E421).ext E424)
 have f434 := ((Szu.ext E421).ext E424)
 have f435 := ((Sza.ext E421).ext E424)
 have f436 := ((Szm.ext E421).ext E424)
 have f437 := ((Szt.ext E421).ext E424)
 refine own_private go X424 hx hZ e424 hown (wd hw 31 rfl) (wd hw 32 rfl) (wd hw 18 rfl) rfl (wd hw 33 rfl) (wd hw 3 rfl) (wd hw 34 rfl) (by decide) (rm_en4z l Z a0 hw a421 a424 r0 r1 il zu za zm zt pos pn g t w cn h424 n0 Z425 g_r0 g_il f427 f428 f429 f430 f431 f432 f433 n10 n20 n12 hpos f434 f435 f436 f437 nut nat nmt hd hpw hrm) 0 (by decide) (by decide) (by decide) (by decide) f427 (g := (mkF m 9 #[vR r0] [(.int (1 : Int32)), (.ref a424), (.ref a421), (.ref za), (.ref r0)])) rfl (by rw [hml]; rfl) [(.ref za), (.ref a421), (.ref a424), (.int (1 : Int32))] [] rfl (lenOf pd_7 rfl) rfl (by show 2 * 0 + _ ≤ _; exact Nat.le_of_eq rfl) (hb hby d3_9) ?_
 intro T438 L438 v438 X438 q438
 obtain ⟨rfl, N438, K438, pos2, dp2, t2, hp2, hdp2, ht2, Ee, Fp2, Fi2, Fl2, Fd2, B2⟩ := q438
 have ns439 : ∀ w ∈ [r0, il], ∃ c : Cell, h424[w]? = some c ∧ c.vm.isStatics = false := (allS (own_exa_ns f427) (allS (own_ary_ns f433) all0))
 obtain ⟨lc438, X438h, N438h⟩ := own_hide X438 (Fr.app N0 N438)
 have K440 : Keep h0 T438.heap [r0, il] := K426.trans K438 (allS (Or.inl (List.mem_of_getElem? (i := 0) rfl)) (allS (Or.inl (List.mem_of_getElem? (i := 1) rfl)) all0))
 have Z441 : n0 ≤ T438.heap.size := Nat.le_trans Z425 K438.1
 have Y442 : kS ≤ T438.heap.size := Nat.le_trans Y424 K438.1
 show G (T438.setTop (mkF m 12 #[vR r0] []))
 refine own_retV rt X438h hx hret (hb hby d3_12) (by decide) (by decide) ?_
 refine ⟨Y442, ?_⟩
 exact ⟨rfl, N438h, K440, _, _, _, hp2, hdp2, ht2, Ee, Fp2, Fi2, Fl2, Fd2, B2⟩
theorem ef_rm_en4d (m : MethodId) (x0 : Addr) (x1 : Addr) (x2 : Addr) (x3 : Addr) (x4 : Int32) : entryFrame m #[(.ref x0), (.ref x1), (.ref x2), (.ref x3), (.int x4)] 9 = mkF m 0 #[.val (.ref x0), .val (.ref x1), .val (.ref x2), .val (.ref x3), .val (.int x4), .unset, .unset, .unset, .unset] [] := by first | (simp [entryFrame, mkF, argsToLocals, Value.category]; done) | rfl
set_option maxRecDepth 65536 in
set_option maxHeartbeats 40000000 in
theorem rm_en4d (l : Launch) (Z : State) (a0 : Array Value) (hw : ∀ d ∈ tables_1, d.before a0 Z = true) (q1 q2 r0 r1 il zu za zm zt : Addr) (pos dp : Int32) (pn dn : Nat) (g t : Nat → Int32) (w cn : Nat) (h0 : Heap) (n0 : Nat) (Z0 : n0 ≤ h0.size) (g_r0 : n0 ≤ r0) (g_il : n0 ≤ il) (E0 : Exa Z h0 r0 "com/example/brevidns/brevidns/CborReader") (Fp : Fld Z h0 r0 "com/example/brevidns/brevidns/CborReader" "position" "I" (.int pos)) (Fi : Fld Z h0 r0 "com/example/brevidns/brevidns/CborReader" "input" "[B" (.ref r1)) (Fl : Fld Z h0 r0 "com/example/brevidns/brevidns/CborReader" "itemsLeft" "[I" (.ref il)) (Fd : Fld Z h0 r0 "com/example/brevidns/brevidns/CborReader" "depth" "I" (.int dp)) (A : Ary Z h0 r1 .byte 64 (fun i => .int (g i))) (B : Ary Z h0 il .int 4 (fun i => .int (t i))) (n10 : r1 ≠ r0) (n20 : il ≠ r0) (n12 : r1 ≠ il) (hpos : pos.toInt = pn) (hdp : dp.toInt = dn) (Szu : Sta Z h0 "com/example/brevidns/brevidns/CborReader$Kind" "UNSIGNED_INTEGER" "Lcom/example/brevidns/brevidns/CborReader$Kind;" (.ref zu)) (Sza : Sta Z h0 "com/example/brevidns/brevidns/CborReader$Kind" "ARRAY" "Lcom/example/brevidns/brevidns/CborReader$Kind;" (.ref za)) (Szm : Sta Z h0 "com/example/brevidns/brevidns/CborReader$Kind" "MAP" "Lcom/example/brevidns/brevidns/CborReader$Kind;" (.ref zm)) (Szt : Sta Z h0 "com/example/brevidns/brevidns/CborReader$Kind" "TAG" "Lcom/example/brevidns/brevidns/CborReader$Kind;" (.ref zt)) (nut : zu ≠ zt) (nat : za ≠ zt) (nmt : zm ≠ zt) (hd : Head g 4 pn w cn) (hpw : pn + w ≤ 63) (hrm : cn * 1 + (pn + w) ≤ 64) (hd1 : 1 ≤ dn) (hd3 : dn ≤ 3) (ht : ¬ t (dn - 1) = 0) :
  Con l Z (⟨"com/example/brevidns/brevidns/CborReader", "enter", "(Lcom/example/brevidns/brevidns/CborReader$Kind;Ljava/lang/String;Ljava/lang/String;I)V"⟩ : MethodName) prog_3_method_7_code 9 none ({ frames := 3, cells := 0, slots := 0, locals := 46 } : Room) #[(.ref r0), (.ref za), (.ref q1), (.ref q2), (.int (1 : Int32))] h0 (fun v h L => v = none ∧ Fr n0 L ∧ Keep h0 h [r0, il] ∧ ∃ (pos2 dp2 : Int32) (t2 : Nat → Int32), pos2.toInt = ((pn + w : Nat) : Int) ∧ dp2.toInt = ((dn + 1 : Nat) : Int) ∧ t2 dn = Int32.ofNat (cn * 1) ∧ t2 (dn - 1) = t (dn - 1) - 1 ∧ Exa Z h r0 "com/example/brevidns/brevidns/CborReader" ∧ Fld Z h r0 "com/example/brevidns/brevidns/CborReader" "position" "I" (.int pos2) ∧ Fld Z h r0 "com/example/brevidns/brevidns/CborReader" "input" "[B" (.ref r1) ∧ Fld Z h r0 "com/example/brevidns/brevidns/CborReader" "itemsLeft" "[I" (.ref il) ∧ Fld Z h r0 "com/example/brevidns/brevidns/CborReader" "depth" "I" (.int dp2) ∧ Ary Z h il .int 4 (fun i => .int (t2 i))) := by
 refine own_body pn_4 ?_
 intro p e s m below meth c s₁ hx hby hml hown hnm hret hZ e0 X0 G go rt
 have N0 := Fr.nil n0
 rw [ef_rm_en4d m r0 za q1 q2 (1 : Int32)]
 have hww : w = 1 ∨ w = 2 := hd.ww
 have hcn := hd.cn
 show G (s₁.setTop (mkF m 0 #[vR r0, vR za, vR q1, vR q2, vI 1, .unset, .unset, .unset, .unset] []))
 refine go _ _ (fun _ k => XS.aloadN X0.here hx rfl (hb hby d4_0) rfl rfl  k) ?_
 show G (s₁.setTop (mkF m 1 #[vR r0, vR za, vR q1, vR q2, vI 1, .unset, .unset, .unset, .unset] [(.ref r0)]))
 obtain ⟨T443, X443, e443, st443⟩ := getF X0 hx hZ hown (host := "") (Or.inl (wd hw 35 rfl)) Via.refl e0 Fp (g := (mkF m 1 #[vR r0, vR za, vR q1, vR q2, vI 1, .unset, .unset, .unset, .unset] [(.ref r0)])) rfl rfl (hb hby d4_1)
 refine go _ _ st443 ?_
 show G (T443.setTop (mkF m 4 #[vR r0, vR za, vR q1, vR q2, vI 1, .unset, .unset, .unset, .unset] [(.int pos)]))
 refine go _ _ (fun _ k => XS.istore X443.here hx rfl (hb hby d4_4) rfl (l' := #[vR r0, vR za, vR q1, vR q2, vI 1, vI pos, .unset, .unset, .unset]) rfl k) ?_
 show G (T443.setTop (mkF m 6 #[vR r0, vR za, vR q1, vR q2, vI 1, vI pos, .unset, .unset, .unset] []))
 refine go _ _ (fun _ k => XS.aloadN X443.here hx rfl (hb hby d4_6) rfl rfl  k) ?_
 show G (T443.setTop (mkF m 7 #[vR r0, vR za, vR q1, vR q2, vI 1, vI pos, .unset, .unset, .unset] [(.ref r0)]))
 refine go _ _ (fun _ k => XS.aloadN X443.here hx rfl (hb hby d4_7) rfl rfl  k) ?_
 show G (T443.setTop (mkF m 8 #[vR r0, vR za, vR q1, vR q2, vI 1, vI pos, .unset, .unset, .unset] [(.ref za), (.ref r0)]))
 refine own_private go X443 hx hZ e443 hown (wd hw 37 rfl) (wd hw 38 rfl) (wd hw 18 rfl) rfl (wd hw 39 rfl) (wd hw 3 rfl) (wd hw 40 rfl) (by decide) (rm_rh4d l Z a0 hw r0 r1 il zu za zm zt pos dp pn dn 4 g t w cn h0 n0 Z0 g_r0 g_il E0 Fp Fi Fl Fd A B n10 n20 n12 hpos hdp Szu Sza Szm Szt nut nat nmt hd hpw hd1 (by omega) (by decide) ht) 0 (by decide) (by decide) (by decide) (by decide) E0 (g := (mkF m 8 #[vR r0, vR za, vR q1, vR q2, vI 1, vI pos, .unset, .unset, .unset] [(.ref za), (.ref r0)])) rfl (by rw [hml]; rfl) [(.ref za)] [] rfl (lenOf pd_6 rfl) rfl (by show 2 * 0 + _ ≤ _; exact Nat.le_of_eq rfl) (hb hby d4_8) ?_
 intro T444 L444 v444 X444 q444
 obtain ⟨rfl, N444, K444, pos2, hp2, Ee444, Fp444, Fi444, Fl444, Fd444, B444⟩ := q444
 have ns445 : ∀ w ∈ [r0, il], ∃ c : Cell, h0[w]? = some c ∧ c.vm.isStatics = false := (allS (own_exa_ns E0) (allS (own_ary_ns B) all0))
 obtain ⟨lc444, X444h, N444h⟩ := own_hide X444 (Fr.app N0 N444)
 have K446 : Keep h0 T444.heap [r0, il] := (Keep.refl h0 [r0, il]).trans K444 (allS (Or.inl (List.mem_of_getElem? (i := 0) rfl)) (allS (Or.inl (List.mem_of_getElem? (i := 1) rfl)) all0))
 have Z447 : n0 ≤ T444.heap.size := Nat.le_trans Z0 K444.1
 show G (T444.setTop (mkF m 11 #[vR r0, vR za, vR q1, vR q2, vI 1, vI pos, .unset, .unset, .unset] [(.long ((Int32.ofNat cn).toInt64))]))
 refine go _ _ (fun _ k => XS.lstore X444h.here hx rfl (hb hby d4_11) rfl (l' := #[vR r0, vR za, vR q1, vR q2, vI 1, vI pos, .val (.long ((Int32.ofNat cn).toInt64)), .second, .unset]) rfl k) ?_
 show G (T444.setTop (mkF m 13 #[vR r0, vR za, vR q1, vR q2, vI 1, vI pos, .val (.long ((Int32.ofNat cn).toInt64)), .second, .unset] []))
 refine go _ _ (fun _ k => XS.aloadN X444h.here hx rfl (hb hby d4_13) rfl rfl  k) ?_
 show G (T444.setTop (mkF m 14 #[vR r0, vR za, vR q1, vR q2, vI 1, vI pos, .val (.long ((Int32.ofNat cn).toInt64)), .second, .unset] [(.ref r0)]))
 have f448 := (A.keep K444 (ninS n10 (ninS n12 nin0)))
 refine own_private go X444h hx hZ rfl hown (wd hw 57 rfl) (wd hw 58 rfl) (wd hw 18 rfl) rfl (wd hw 59 rfl) (wd hw 3 rfl) (wd hw 60 rfl) (by decide) (rm_re l Z a0 hw r0 r1 pos2 g T444.heap n0 Z447 Fi444 Fp444 f448) 0 (by decide) (by decide) (by decide) (by decide) Ee444 (g := (mkF m 14 #[vR r0, vR za, vR q1, vR q2, vI 1, vI pos, .val (.long ((Int32.ofNat cn).toInt64)), .second, .unset] [(.ref r0)])) rfl (by rw [hml]; rfl) [] [] rfl (lenOf pd_3 rfl) rfl (by show 2 * 0 + _ ≤ _; exact Nat.le_of_eq rfl) (hb hby d4_14) ?_
 intro T449 L449 v449 X449 q449
 obtain ⟨rfl, N449, hh449⟩ := q449
 obtain ⟨lc449, X449h, N449h⟩ := own_hide X449 (Fr.app N444h N449)
 show G (T449.setTop (mkF m 17 #[vR r0, vR za, vR q1, vR q2, vI 1, vI pos, .val (.long ((Int32.ofNat cn).toInt64)), .second, .unset] [(.int ((64 : Int32) - pos2))]))
 refine go _ _ (fun _ k => XS.iload X449h.here hx rfl (hb hby d4_17) rfl  k) ?_
 show G (T449.setTop (mkF m 19 #[vR r0, vR za, vR q1, vR q2, vI 1, vI pos, .val (.long ((Int32.ofNat cn).toInt64)), .second, .unset] [(.int (1 : Int32)), (.int ((64 : Int32) - pos2))]))
 refine go _ _ (fun _ k => XS.idiv X449h.here hx rfl (hb hby d4_19) rfl (by decide) k) ?_
 show G (T449.setTop (mkF m 20 #[vR r0, vR za, vR q1, vR q2, vI 1, vI pos, .val (.long ((Int32.ofNat cn).toInt64)), .second, .unset] [(.int (((64 : Int32) - pos2) / (1 : Int32)))]))
 refine go _ _ (fun _ k => XS.istore X449h.here hx rfl (hb hby d4_20) rfl (l' := #[vR r0, vR za, vR q1, vR q2, vI 1, vI pos, .val (.long ((Int32.ofNat cn).toInt64)), .second, vI (((64 : Int32) - pos2) / (1 : Int32))]) rfl k) ?_
 show G (T449.setTop (mkF m 22 #[vR r0, vR za, vR q1, vR q2, vI 1, vI pos, .val (.long ((Int32.ofNat cn).toInt64)), .second, vI (((64 : Int32) - pos2) / (1 : Int32))] []))
 refine go _ _ (fun _ k => XS.lload X449h.here hx rfl (hb hby d4_22) rfl  k) ?_
 show G (T449.setTop (mkF m 24 #[vR r0, vR za, vR q1, vR q2, vI 1, vI pos, .val (.long ((Int32.ofNat cn).toInt64)), .second, vI (((64 : Int32) - pos2) / (1 : Int32))] [(.long ((Int32.ofNat cn).toInt64))]))
 refine go _ _ (fun _ k => XS.iload X449h.here hx rfl (hb hby d4_24) rfl  k) ?_
 show G (T449.setTop (mkF m 26 #[vR r0, vR za, vR q1, vR q2, vI 1, vI pos, .val (.long ((Int32.ofNat cn).toInt64)), .second, vI (((64 : Int32) - pos2) / (1 : Int32))] [(.int (((64 : Int32) - pos2) / (1 : Int32))), (.long ((Int32.ofNat cn).toInt64))]))
 refine go _ _ (fun _ k => XS.i2l X449h.here hx rfl (hb hby d4_26) rfl k) ?_
 show G (T449.setTop (mkF m 27 #[vR r0, vR za, vR q1, vR q2, vI 1, vI pos, .val (.long ((Int32.ofNat cn).toInt64)), .second, vI (((64 : Int32) - pos2) / (1 : Int32))] [(.long ((((64 : Int32) - pos2) / (1 : Int32)).toInt64)), (.long ((Int32.ofNat cn).toInt64))]))
 refine own_static go X449h hx hZ hh449 hown (wd hw 61 rfl) (wd hw 62 rfl) (wd hw 63 rfl) (wd hw 64 rfl) (by decide) (rm_cu l Z a0 hw ((Int32.ofNat cn).toInt64) ((((64 : Int32) - pos2) / (1 : Int32)).toInt64) T444.heap n0 Z447) 0 (by decide) (by decide) (by decide) (by decide) (g := (mkF m 27 #[vR r0, vR za, vR q1, vR q2, vI 1, vI pos, .val (.long ((Int32.ofNat cn).toInt64)), .second, vI (((64 : Int32) - pos2) / (1 : Int32))] [(.long ((((64 : Int32) - pos2) / (1 : Int32)).toInt64)), (.long ((Int32.ofNat cn).toInt64))])) rfl (by rw [hml]; rfl) [(.long ((Int32.ofNat cn).toInt64)), (.long ((((64 : Int32) - pos2) / (1 : Int32)).toInt64))] [] rfl (lenOf pd_4 rfl) rfl (by show 2 * 0 + _ ≤ _; exact Nat.le_of_eq rfl) (hb hby d4_27) ?_
 intro T450 L450 v450 X450 q450
 obtain ⟨rfl, N450, hh450⟩ := q450
 obtain ⟨lc450, X450h, N450h⟩ := own_hide X450 (Fr.app N449h N450)
 show G (T450.setTop (mkF m 30 #[vR r0, vR za, vR q1, vR q2, vI 1, vI pos, .val (.long ((Int32.ofNat cn).toInt64)), .second, vI (((64 : Int32) - pos2) / (1 : Int32))] [(.int (cmpJ (((Int32.ofNat cn).toInt64) + (-9223372036854775808 : Int64)) (((((64 : Int32) - pos2) / (1 : Int32)).toInt64) + (-9223372036854775808 : Int64))))]))
 refine go _ _ (fun _ k => XS.ifYes X450h.here hx rfl (pc0 := 30) (pc' := 55) rfl (hb hby d4_30) rfl (Free.XT.i0_le_t (own_cmpU 1 rfl (by decide) hcn hp2 hrm)) (by decide) (by decide) k) ?_
 show G (T450.setTop (mkF m 55 #[vR r0, vR za, vR q1, vR q2, vI 1, vI pos, .val (.long ((Int32.ofNat cn).toInt64)), .second, vI (((64 : Int32) - pos2) / (1 : Int32))] []))
 refine go _ _ (fun _ k => XS.aloadN X450h.here hx rfl (hb hby d4_55) rfl rfl  k) ?_
 show G (T450.setTop (mkF m 56 #[vR r0, vR za, vR q1, vR q2, vI 1, vI pos, .val (.long ((Int32.ofNat cn).toInt64)), .second, vI (((64 : Int32) - pos2) / (1 : Int32))] [(.ref r0)]))
 obtain ⟨T451, X451, e451, st451⟩ := getF X450h hx hZ hown (host := "") (Or.inl (wd hw 50 rfl)) Via.refl hh450 Fd444 (g := (mkF m 56 #[vR r0, vR za, vR q1, vR q2, vI 1, vI pos, .val (.long ((Int32.ofNat cn).toInt64)), .second, vI (((64 : Int32) - pos2) / (1 : Int32))] [(.ref r0)])) rfl rfl (hb hby d4_56)
 refine go _ _ st451 ?_
 show G (T451.setTop (mkF m 59 #[vR r0, vR za, vR q1, vR q2, vI 1, vI pos, .val (.long ((Int32.ofNat cn).toInt64)), .second, vI (((64 : Int32) - pos2) / (1 : Int32))] [(.int dp)]))
 refine go _ _ (fun _ k => XS.aloadN X451.here hx rfl (hb hby d4_59) rfl rfl  k) ?_
 show G (T451.setTop (mkF m 60 #[vR r0, vR za, vR q1, vR q2, vI 1, vI pos, .val (.long ((Int32.ofNat cn).toInt64)), .second, vI (((64 : Int32) - pos2) / (1 : Int32))] [(.ref r0), (.int dp)]))
 obtain ⟨T452, X452, e452, st452⟩ := getF X451 hx hZ hown (host := "") (Or.inl (wd hw 11 rfl)) Via.refl e451 Fl444 (g := (mkF m 60 #[vR r0, vR za, vR q1, vR q2, vI 1, vI pos, .val (.long ((Int32.ofNat cn).toInt64)), .second, vI (((64 : Int32) - pos2) / (1 : Int32))] [(.ref r0), (.int dp)])) rfl rfl (hb hby d4_60)
 refine go _ _ st452 ?_
 show G (T452.setTop (mkF m 63 #[vR r0, vR za, vR q1, vR q2, vI 1, vI pos, .val (.long ((Int32.ofNat cn).toInt64)), .second, vI (((64 : Int32) - pos2) / (1 : Int32))] [(.ref il), (.int dp)]))
 refine own_arrlen go X452 hx hZ e452 (g := (mkF m 63 #[vR r0, vR za, vR q1, vR q2, vI 1, vI pos, .val (.long ((Int32.ofNat cn).toInt64)), .second, vI (((64 : Int32) - pos2) / (1 : Int32))] [(.ref il), (.int dp)])) rfl B444 rfl (hb hby d4_63) ?_
 show G (T452.setTop (mkF m 64 #[vR r0, vR za, vR q1, vR q2, vI 1, vI pos, .val (.long ((Int32.ofNat cn).toInt64)), .second, vI (((64 : Int32) - pos2) / (1 : Int32))] [(.int (4 : Int32)), (.int dp)]))
 refine go _ _ (fun _ k => XS.icmpYes X452.here hx rfl (pc0 := 64) (pc' := 84) rfl (hb hby d4_64) rfl (Free.XT.ii_ne_t ((not_congr (own_lit 4 (kk := 4) rfl hdp)).mpr (by omega))) (by decide) (by decide) k) ?_
 show G (T452.setTop (mkF m 84 #[vR r0, vR za, vR q1, vR q2, vI 1, vI pos, .val (.long ((Int32.ofNat cn).toInt64)), .second, vI (((64 : Int32) - pos2) / (1 : Int32))] []))
 refine go _ _ (fun _ k => XS.aloadN X452.here hx rfl (hb hby d4_84) rfl rfl  k) ?_
 show G (T452.setTop (mkF m 85 #[vR r0, vR za, vR q1, vR q2, vI 1, vI pos, .val (.long ((Int32.ofNat cn).toInt64)), .second, vI (((64 : Int32) - pos2) / (1 : Int32))] [(.ref r0)]))
 obtain ⟨T453, X453, e453, st453⟩ := getF X452 hx hZ hown (host := "") (Or.inl (wd hw 11 rfl)) Via.refl e452 Fl444 (g := (mkF m 85 #[vR r0, vR za, vR q1, vR q2, vI 1, vI pos, .val (.long ((Int32.ofNat cn).toInt64)), .second, vI (((64 : Int32) - pos2) / (1 : Int32))] [(.ref r0)])) rfl rfl (hb hby d4_85)
 refine go _ _ st453 ?_
 show G (T453.setTop (mkF m 88 #[vR r0, vR za, vR q1, vR q2, vI 1, vI pos, .val (.long ((Int32.ofNat cn).toInt64)), .second, vI (((64 : Int32) - pos2) / (1 : Int32))] [(.ref il)]))
 refine go _ _ (fun _ k => XS.aloadN X453.here hx rfl (hb hby d4_88) rfl rfl  k) ?_
 show G (T453.setTop (mkF m 89 #[vR r0, vR za, vR q1, vR q2, vI 1, vI pos, .val (.long ((Int32.ofNat cn).toInt64)), .second, vI (((64 : Int32) - pos2) / (1 : Int32))] [(.ref r0), (.ref il)]))
 refine go _ _ (fun _ k => XS.dup X453.here hx rfl (hb hby d4_89) rfl rfl k) ?_
 show G (T453.setTop (mkF m 90 #[vR r0, vR za, vR q1, vR q2, vI 1, vI pos, .val (.long ((Int32.ofNat cn).toInt64)), .second, vI (((64 : Int32) - pos2) / (1 : Int32))] [(.ref r0), (.ref r0), (.ref il)]))
 obtain ⟨T454, X454, e454, st454⟩ := getF X453 hx hZ hown (host := "") (Or.inl (wd hw 50 rfl)) Via.refl e453 Fd444 (g := (mkF m 90 #[vR r0, vR za, vR q1, vR q2, vI 1, vI pos, .val (.long ((Int32.ofNat cn).toInt64)), .second, vI (((64 : Int32) - pos2) / (1 : Int32))] [(.ref r0), (.ref r0), (.ref il)])) rfl rfl (hb hby d4_90)
 refine go _ _ st454 ?_
 show G (T454.setTop (mkF m 93 #[vR r0, vR za, vR q1, vR q2, vI 1, vI pos, .val (.long ((Int32.ofNat cn).toInt64)), .second, vI (((64 : Int32) - pos2) / (1 : Int32))] [(.int dp), (.ref r0), (.ref il)]))
 refine go _ _ (fun _ k => XS.dupX1 X454.here hx rfl (hb hby d4_93) rfl rfl rfl k) ?_
 show G (T454.setTop (mkF m 94 #[vR r0, vR za, vR q1, vR q2, vI 1, vI pos, .val (.long ((Int32.ofNat cn).toInt64)), .second, vI (((64 : Int32) - pos2) / (1 : Int32))] [(.int dp), (.ref r0), (.int dp), (.ref il)]))
 refine go _ _ (fun _ k => XS.iconst X454.here hx rfl (hb hby d4_94) k) ?_
 show G (T454.setTop (mkF m 95 #[vR r0, vR za, vR q1, vR q2, vI 1, vI pos, .val (.long ((Int32.ofNat cn).toInt64)), .second, vI (((64 : Int32) - pos2) / (1 : Int32))] [(.int (1 : Int32)), (.int dp), (.ref r0), (.int dp), (.ref il)]))
 refine go _ _ (fun _ k => XS.iadd X454.here hx rfl (hb hby d4_95) rfl k) ?_
 show G (T454.setTop (mkF m 96 #[vR r0, vR za, vR q1, vR q2, vI 1, vI pos, .val (.long ((Int32.ofNat cn).toInt64)), .second, vI (((64 : Int32) - pos2) / (1 : Int32))] [(.int (dp + (1 : Int32))), (.ref r0), (.int dp), (.ref il)]))
 obtain ⟨T455, h455, X455, e455, W455, st455⟩ := putF X454 hx hZ hown (host := "") (Or.inl (wd hw 50 rfl)) Via.refl e454 Fd444 Ee444 (Or.inl (wd hw 51 rfl)) (wd hw 2 rfl) (ty := .int) (by decide) rfl rfl (g := (mkF m 96 #[vR r0, vR za, vR q1, vR q2, vI 1, vI pos, .val (.long ((Int32.ofNat cn).toInt64)), .second, vI (((64 : Int32) - pos2) / (1 : Int32))] [(.int (dp + (1 : Int32))), (.ref r0), (.int dp), (.ref il)])) rfl rfl (hb hby d4_96)
 have F455 := Fd444.same W455
 have K456 : Keep h0 h455 [r0, il] := K446.wr W455 (Or.inl (List.mem_of_getElem? (i := 0) rfl))
 obtain ⟨lc455, X455h, N455h⟩ := own_hide X455 (Fr.snoc X455 N450h g_r0)
 have Z457 : n0 ≤ h455.size := Nat.le_trans Z447 (Nat.le_of_eq W455.size.symm)
 refine go _ _ st455 ?_
 show G (T455.setTop (mkF m 99 #[vR r0, vR za, vR q1, vR q2, vI 1, vI pos, .val (.long ((Int32.ofNat cn).toInt64)), .second, vI (((64 : Int32) - pos2) / (1 : Int32))] [(.int dp), (.ref il)]))
 refine go _ _ (fun _ k => XS.lload X455h.here hx rfl (hb hby d4_99) rfl  k) ?_
 show G (T455.setTop (mkF m 101 #[vR r0, vR za, vR q1, vR q2, vI 1, vI pos, .val (.long ((Int32.ofNat cn).toInt64)), .second, vI (((64 : Int32) - pos2) / (1 : Int32))] [(.long ((Int32.ofNat cn).toInt64)), (.int dp), (.ref il)]))
 refine go _ _ (fun _ k => XS.l2i X455h.here hx rfl (hb hby d4_101) rfl k) ?_
 show G (T455.setTop (mkF m 102 #[vR r0, vR za, vR q1, vR q2, vI 1, vI pos, .val (.long ((Int32.ofNat cn).toInt64)), .second, vI (((64 : Int32) - pos2) / (1 : Int32))] [(.int (((Int32.ofNat cn).toInt64).toInt32)), (.int dp), (.ref il)]))
 refine go _ _ (fun _ k => XS.iload X455h.here hx rfl (hb hby d4_102) rfl  k) ?_
 show G (T455.setTop (mkF m 104 #[vR r0, vR za, vR q1, vR q2, vI 1, vI pos, .val (.long ((Int32.ofNat cn).toInt64)), .second, vI (((64 : Int32) - pos2) / (1 : Int32))] [(.int (1 : Int32)), (.int (((Int32.ofNat cn).toInt64).toInt32)), (.int dp), (.ref il)]))
 refine go _ _ (fun _ k => XS.imul X455h.here hx rfl (hb hby d4_104) rfl k) ?_
 show G (T455.setTop (mkF m 105 #[vR r0, vR za, vR q1, vR q2, vI 1, vI pos, .val (.long ((Int32.ofNat cn).toInt64)), .second, vI (((64 : Int32) - pos2) / (1 : Int32))] [(.int ((((Int32.ofNat cn).toInt64).toInt32) * (1 : Int32))), (.int dp), (.ref il)]))
 have f458 := (B444.other W455 n20)
 refine own_iastore go X455h hx hZ e455 dn hdp (by omega) (g := (mkF m 105 #[vR r0, vR za, vR q1, vR q2, vI 1, vI pos, .val (.long ((Int32.ofNat cn).toInt64)), .second, vI (((64 : Int32) - pos2) / (1 : Int32))] [(.int ((((Int32.ofNat cn).toInt64).toInt32) * (1 : Int32))), (.int dp), (.ref il)])) rfl f458 rfl (hb hby d4_105) ?_
 intro T459 h459 X459 e459 W459 A459
 have K460 : Keep h0 h459 [r0, il] := K456.wr W459 (Or.inl (List.mem_of_getElem? (i := 1) rfl))
 obtain ⟨lc459, X459h, N459h⟩ := own_hide X459 (Fr.snoc X459 N455h g_il)
 have Z461 : n0 ≤ h459.size := Nat.le_trans Z457 (Nat.le_of_eq W459.size.symm)
 have A459c := A459.cong (g := (fun i => .int ((upd (upd t (dn - 1) (t (dn - 1) - 1)) dn (Int32.ofNat (cn * 1))) i))) (own_upd (own_val 1 rfl hcn (by decide)))
 show G (T459.setTop (mkF m 106 #[vR r0, vR za, vR q1, vR q2, vI 1, vI pos, .val (.long ((Int32.ofNat cn).toInt64)), .second, vI (((64 : Int32) - pos2) / (1 : Int32))] []))
 refine own_retV rt X459h hx hret (hb hby d4_106) (by decide) (by decide) ?_
 have f462 := ((Ee444.wr W455).wr W459)
 have f463 := ((Fp444.other W455 (Or.inr (slot_ne (Or.inl (wd hw 36 rfl)) (Or.inl (wd hw 51 rfl)) (by decide) (t := .int) (t' := .int) (by decide) (by decide)))).other W459 (Or.inl (Ne.symm n20)))
 have f464 := ((Fi444.other W455 (Or.inr (slot_ne (Or.inr (wd hw 14 rfl)) (Or.inl (wd hw 51 rfl)) (by decide) (t := (.array .byte)) (t' := .int) (by decide) (by decide)))).other W459 (Or.inl (Ne.symm n20)))
 have f465 := ((Fl444.other W455 (Or.inr (slot_ne (Or.inl (wd hw 12 rfl)) (Or.inl (wd hw 51 rfl)) (by decide) (t := (.array .int)) (t' := .int) (by decide) (by decide)))).other W459 (Or.inl (Ne.symm n20)))
 have f466 := (F455.other W459 (Or.inl (Ne.symm n20)))
 rw [e459]
 exact ⟨rfl, N459h, K460, _, _, _, hp2, own_add hdp (j := 1) rfl (by omega), upd_eq, (by rw [upd_ne (by omega), upd_eq]), f462, f463, f464, f465, f466, A459c⟩
theorem ef_rm_op4d (m : MethodId) (x0 : Addr) : entryFrame m #[(.ref x0)] 1 = mkF m 0 #[.val (.ref x0)] [] := by first | (simp [entryFrame, mkF, argsToLocals, Value.category]; done) | rfl
set_option maxRecDepth 65536 in
set_option maxHeartbeats 40000000 in
theorem rm_op4d (l : Launch) (Z : State) (a0 : Array Value) (hw : ∀ d ∈ tables_1, d.before a0 Z = true) (r0 r1 il zu za zm zt : Addr) (pos dp : Int32) (pn dn : Nat) (g t : Nat → Int32) (w cn : Nat) (h0 : Heap) (n0 : Nat) (Z0 : n0 ≤ h0.size) (g_r0 : n0 ≤ r0) (g_il : n0 ≤ il) (E0 : Exa Z h0 r0 "com/example/brevidns/brevidns/CborReader") (Fp : Fld Z h0 r0 "com/example/brevidns/brevidns/CborReader" "position" "I" (.int pos)) (Fi : Fld Z h0 r0 "com/example/brevidns/brevidns/CborReader" "input" "[B" (.ref r1)) (Fl : Fld Z h0 r0 "com/example/brevidns/brevidns/CborReader" "itemsLeft" "[I" (.ref il)) (Fd : Fld Z h0 r0 "com/example/brevidns/brevidns/CborReader" "depth" "I" (.int dp)) (A : Ary Z h0 r1 .byte 64 (fun i => .int (g i))) (B : Ary Z h0 il .int 4 (fun i => .int (t i))) (n10 : r1 ≠ r0) (n20 : il ≠ r0) (n12 : r1 ≠ il) (hpos : pos.toInt = pn) (hdp : dp.toInt = dn) (Szu : Sta Z h0 "com/example/brevidns/brevidns/CborReader$Kind" "UNSIGNED_INTEGER" "Lcom/example/brevidns/brevidns/CborReader$Kind;" (.ref zu)) (Sza : Sta Z h0 "com/example/brevidns/brevidns/CborReader$Kind" "ARRAY" "Lcom/example/brevidns/brevidns/CborReader$Kind;" (.ref za)) (Szm : Sta Z h0 "com/example/brevidns/brevidns/CborReader$Kind" "MAP" "Lcom/example/brevidns/brevidns/CborReader$Kind;" (.ref zm)) (Szt : Sta Z h0 "com/example/brevidns/brevidns/CborReader$Kind" "TAG" "Lcom/example/brevidns/brevidns/CborReader$Kind;" (.ref zt)) (nut : zu ≠ zt) (nat : za ≠ zt) (nmt : zm ≠ zt) (hd : Head g 4 pn w cn) (hpw : pn + w ≤ 63) (hrm : cn * 1 + (pn + w) ≤ 64) (hd1 : 1 ≤ dn) (hd3 : dn ≤ 3) (ht : ¬ t (dn - 1) = 0) :
  ConW l Z (⟨"com/example/brevidns/brevidns/CborReader", "openArray", "()V"⟩ : MethodName) prog_3_method_5_code 1 none ({ frames := 4, cells := 4, slots := 64, locals := 66 } : Room) #[(.ref r0)] h0 (fun v h L => v = none ∧ Fr n0 L ∧ Keep h0 h [r0, il] ∧ ∃ (pos2 dp2 : Int32) (t2 : Nat → Int32), pos2.toInt = ((pn + w : Nat) : Int) ∧ dp2.toInt = ((dn + 1 : Nat) : Int) ∧ t2 dn = Int32.ofNat (cn * 1) ∧ t2 (dn - 1) = t (dn - 1) - 1 ∧ Exa Z h r0 "com/example/brevidns/brevidns/CborReader" ∧ Fld Z h r0 "com/example/brevidns/brevidns/CborReader" "position" "I" (.int pos2) ∧ Fld Z h r0 "com/example/brevidns/brevidns/CborReader" "input" "[B" (.ref r1) ∧ Fld Z h r0 "com/example/brevidns/brevidns/CborReader" "itemsLeft" "[I" (.ref il) ∧ Fld Z h r0 "com/example/brevidns/brevidns/CborReader" "depth" "I" (.int dp2) ∧ Ary Z h il .int 4 (fun i => .int (t2 i))) := by
 refine own_bodyW pn_3 ?_
 intro p e s m below meth c s₁ hx hby hml hown hnm hret hZ e0 X0 G go kS rb Zk0
 have rt := own_rt rb
 have N0 := Fr.nil n0
 rw [ef_rm_op4d m r0]
 show G (s₁.setTop (mkF m 0 #[vR r0] []))
 refine go _ _ (fun _ k => XS.aloadN X0.here hx rfl (hb hby d3_0) rfl rfl  k) ?_
 show G (s₁.setTop (mkF m 1 #[vR r0] [(.ref r0)]))
 obtain ⟨T467, X467, e467, st467⟩ := getS X0 hx hZ hown (host := "") (wd hw 20 rfl) Via.refl e0 Sza (g := (mkF m 1 #[vR r0] [(.ref r0)])) rfl (hb hby d3_1)
 refine go _ _ st467 ?_
 show G (T467.setTop (mkF m 4 #[vR r0] [(.ref za), (.ref r0)]))
 refine own_ldcS go X467 hx hZ e467 hown (wd hw 23 rfl) (own_wS hw) rb Zk0 (g := (mkF m 4 #[vR r0] [(.ref za), (.ref r0)])) rfl (hb hby d3_4) 36 (by decide) (by decide) (by decide) (by decide) ?_
 intro s kS T468 h468 a468 hZ hown rb Y468 X468 e468 E468
 have rt := own_rt rb
 have Z469 : n0 ≤ h468.size := Nat.le_trans Z0 E468.1
 have K470 : Keep h0 h468 [r0, il] := (Keep.refl h0 [r0, il]).ext E468
 show G (T468.setTop (mkF m 6 #[vR r0] [(.ref a468), (.ref za), (.ref r0)]))
 refine own_ldcS go X468 hx hZ e468 hown (wd hw 30 rfl) (own_wS hw) rb Y468 (g := (mkF m 6 #[vR r0] [(.ref a468), (.ref za), (.ref r0)])) rfl (hb hby d3_6) 20 (by decide) (by decide) (by decide) (by decide) ?_
 intro s kS T471 h471 a471 hZ hown rb Y471 X471 e471 E471
 have rt := own_rt rb
 have Z472 : n0 ≤ h471.size := Nat.le_trans Z469 E471.1
 have K473 : Keep h0 h471 [r0, il] := K470.ext E471
 show G (T471.setTop (mkF m 8 #[vR r0] [(.ref a471), (.ref a468), (.ref za), (.ref r0)]))
 refine go _ _ (fun _ k => XS.iconst X471.here hx rfl (hb hby d3_8) k) ?_
 show G (T471.setTop (mkF m 9 #[vR r0] [(.int (1 : Int32)), (.ref a471), (.ref a468), (.ref za), (.ref r0)]))
 have f474 := ((E0.ext E468).ext E471)
 have f475 := ((Fp.ext E468).ext E471)
 have f476 := ((Fi.ext E468).ext E471)
 have f477 := ((Fl.ext E468).ext E471)
 have f478 := ((Fd.ext E468).ext E471)
 have f479 := ((A.ext E468).ext E471)
 have f480 := ((B.ext E468).ext E471)
 have f481 := ((Szu.ext E468).ext E471)
 have f482 := ((Sza.ext E468).ext E471)
 have f483 := ((Szm.ext E468).ext E471)
 have f484 := ((Szt.ext E468).ext E471)
 refine own_private go X471 hx hZ e471 hown (wd hw 31 rfl) (wd hw 32 rfl) (wd hw 18 rfl) rfl (wd hw 33 rfl) (wd hw 3 rfl) (wd hw 34 rfl) (by decide) (rm_en4d l Z a0 hw a468 a471 r0 r1 il zu za zm zt pos dp pn dn g t w cn h471 n0 Z472 g_r0 g_il f474 f475 f476 f477 f478 f479 f480 n10 n20 n12 hpos hdp f481 f482 f483 f484 nut nat nmt hd hpw hrm hd1 hd3 ht) 0 (by decide) (by decide) (by decide) (by decide) f474 (g := (mkF m 9 #[vR r0] [(.int (1 : Int32)), (.ref a471), (.ref a468), (.ref za), (.ref r0)])) rfl (by rw [hml]; rfl) [(.ref za), (.ref a468), (.ref a471), (.int (1 : Int32))] [] rfl (lenOf pd_7 rfl) rfl (by show 2 * 0 + _ ≤ _; exact Nat.le_of_eq rfl) (hb hby d3_9) ?_
 intro T485 L485 v485 X485 q485
 obtain ⟨rfl, N485, K485, pos2, dp2, t2, hp2, hdp2, ht2, ht3, Ee, Fp2, Fi2, Fl2, Fd2, B2⟩ := q485
 have ns486 : ∀ w ∈ [r0, il], ∃ c : Cell, h471[w]? = some c ∧ c.vm.isStatics = false := (allS (own_exa_ns f474) (allS (own_ary_ns f480) all0))
 obtain ⟨lc485, X485h, N485h⟩ := own_hide X485 (Fr.app N0 N485)
 have K487 : Keep h0 T485.heap [r0, il] := K473.trans K485 (allS (Or.inl (List.mem_of_getElem? (i := 0) rfl)) (allS (Or.inl (List.mem_of_getElem? (i := 1) rfl)) all0))
 have Z488 : n0 ≤ T485.heap.size := Nat.le_trans Z472 K485.1
 have Y489 : kS ≤ T485.heap.size := Nat.le_trans Y471 K485.1
 show G (T485.setTop (mkF m 12 #[vR r0] []))
 refine own_retV rt X485h hx hret (hb hby d3_12) (by decide) (by decide) ?_
 refine ⟨Y489, ?_⟩
 exact ⟨rfl, N485h, K487, _, _, _, hp2, hdp2, ht2, ht3, Ee, Fp2, Fi2, Fl2, Fd2, B2⟩
theorem ef_rm_en4c (m : MethodId) (x0 : Addr) (x1 : Addr) (x2 : Addr) (x3 : Addr) (x4 : Int32) : entryFrame m #[(.ref x0), (.ref x1), (.ref x2), (.ref x3), (.int x4)] 9 = mkF m 0 #[.val (.ref x0), .val (.ref x1), .val (.ref x2), .val (.ref x3), .val (.int x4), .unset, .unset, .unset, .unset] [] := by first | (simp [entryFrame, mkF, argsToLocals, Value.category]; done) | rfl
set_option maxRecDepth 65536 in
set_option maxHeartbeats 40000000 in
theorem rm_en4c (l : Launch) (Z : State) (a0 : Array Value) (hw : ∀ d ∈ tables_1, d.before a0 Z = true) (q1 q2 r0 r1 il zu za zm zt : Addr) (pos : Int32) (pn : Nat) (g t : Nat → Int32) (w cn : Nat) (h0 : Heap) (n0 : Nat) (Z0 : n0 ≤ h0.size) (g_r0 : n0 ≤ r0) (g_il : n0 ≤ il) (E0 : Exa Z h0 r0 "com/example/brevidns/brevidns/CborReader") (Fp : Fld Z h0 r0 "com/example/brevidns/brevidns/CborReader" "position" "I" (.int pos)) (Fi : Fld Z h0 r0 "com/example/brevidns/brevidns/CborReader" "input" "[B" (.ref r1)) (Fl : Fld Z h0 r0 "com/example/brevidns/brevidns/CborReader" "itemsLeft" "[I" (.ref il)) (Fd : Fld Z h0 r0 "com/example/brevidns/brevidns/CborReader" "depth" "I" (.int (4 : Int32))) (A : Ary Z h0 r1 .byte 64 (fun i => .int (g i))) (B : Ary Z h0 il .int 4 (fun i => .int (t i))) (n10 : r1 ≠ r0) (n20 : il ≠ r0) (n12 : r1 ≠ il) (hpos : pos.toInt = pn) (Szu : Sta Z h0 "com/example/brevidns/brevidns/CborReader$Kind" "UNSIGNED_INTEGER" "Lcom/example/brevidns/brevidns/CborReader$Kind;" (.ref zu)) (Sza : Sta Z h0 "com/example/brevidns/brevidns/CborReader$Kind" "ARRAY" "Lcom/example/brevidns/brevidns/CborReader$Kind;" (.ref za)) (Szm : Sta Z h0 "com/example/brevidns/brevidns/CborReader$Kind" "MAP" "Lcom/example/brevidns/brevidns/CborReader$Kind;" (.ref zm)) (Szt : Sta Z h0 "com/example/brevidns/brevidns/CborReader$Kind" "TAG" "Lcom/example/brevidns/brevidns/CborReader$Kind;" (.ref zt)) (nut : zu ≠ zt) (nat : za ≠ zt) (nmt : zm ≠ zt) (hd : Head g 4 pn w cn) (hpw : pn + w ≤ 63) (hrm : cn * 1 + (pn + w) ≤ 64) (ht : ¬ t 3 = 0) :
  Con l Z (⟨"com/example/brevidns/brevidns/CborReader", "enter", "(Lcom/example/brevidns/brevidns/CborReader$Kind;Ljava/lang/String;Ljava/lang/String;I)V"⟩ : MethodName) prog_3_method_7_code 9 none ({ frames := 3, cells := 1, slots := 8, locals := 55 } : Room) #[(.ref r0), (.ref za), (.ref q1), (.ref q2), (.int (1 : Int32))] h0 (fun v h L => v = none ∧ Fr n0 L ∧ Keep h0 h [r0, il] ∧ ∃ (pos2 dp2 : Int32) (il2 : Addr) (t2 : Nat → Int32), pos2.toInt = ((pn + w : Nat) : Int) ∧ dp2.toInt = ((4 + 1 : Nat) : Int) ∧ t2 4 = Int32.ofNat (cn * 1) ∧ t2 (4 - 1) = t (4 - 1) - 1 ∧ n0 ≤ il2 ∧ h0.size ≤ il2 ∧ Exa Z h r0 "com/example/brevidns/brevidns/CborReader" ∧ Fld Z h r0 "com/example/brevidns/brevidns/CborReader" "position" "I" (.int pos2) ∧ Fld Z h r0 "com/example/brevidns/brevidns/CborReader" "input" "[B" (.ref r1) ∧ Fld Z h r0 "com/example/brevidns/brevidns/CborReader" "itemsLeft" "[I" (.ref il2) ∧ Fld Z h r0 "com/example/brevidns/brevidns/CborReader" "depth" "I" (.int dp2) ∧ Ary Z h il2 .int 8 (fun i => .int (t2 i))) := by
 refine own_body pn_4 ?_
 intro p e s m below meth c s₁ hx hby hml hown hnm hret hZ e0 X0 G go rt
 have N0 := Fr.nil n0
 rw [ef_rm_en4c m r0 za q1 q2 (1 : Int32)]
 have hww : w = 1 ∨ w = 2 := hd.ww
 have hcn := hd.cn
 show G (s₁.setTop (mkF m 0 #[vR r0, vR za, vR q1, vR q2, vI 1, .unset, .unset, .unset, .unset] []))
 refine go _ _ (fun _ k => XS.aloadN X0.here hx rfl (hb hby d4_0) rfl rfl  k) ?_
 show G (s₁.setTop (mkF m 1 #[vR r0, vR za, vR q1, vR q2, vI 1, .unset, .unset, .unset, .unset] [(.ref r0)]))
 obtain ⟨T490, X490, e490, st490⟩ := getF X0 hx hZ hown (host := "") (Or.inl (wd hw 35 rfl)) Via.refl e0 Fp (g := (mkF m 1 #[vR r0, vR za, vR q1, vR q2, vI 1, .unset, .unset, .unset, .unset] [(.ref r0)])) rfl rfl (hb hby d4_1)
 refine go _ _ st490 ?_
 show G (T490.setTop (mkF m 4 #[vR r0, vR za, vR q1, vR q2, vI 1, .unset, .unset, .unset, .unset] [(.int pos)]))
 refine go _ _ (fun _ k => XS.istore X490.here hx rfl (hb hby d4_4) rfl (l' := #[vR r0, vR za, vR q1, vR q2, vI 1, vI pos, .unset, .unset, .unset]) rfl k) ?_
 show G (T490.setTop (mkF m 6 #[vR r0, vR za, vR q1, vR q2, vI 1, vI pos, .unset, .unset, .unset] []))
 refine go _ _ (fun _ k => XS.aloadN X490.here hx rfl (hb hby d4_6) rfl rfl  k) ?_
 show G (T490.setTop (mkF m 7 #[vR r0, vR za, vR q1, vR q2, vI 1, vI pos, .unset, .unset, .unset] [(.ref r0)]))
 refine go _ _ (fun _ k => XS.aloadN X490.here hx rfl (hb hby d4_7) rfl rfl  k) ?_
 show G (T490.setTop (mkF m 8 #[vR r0, vR za, vR q1, vR q2, vI 1, vI pos, .unset, .unset, .unset] [(.ref za), (.ref r0)]))
 refine own_private go X490 hx hZ e490 hown (wd hw 37 rfl) (wd hw 38 rfl) (wd hw 18 rfl) rfl (wd hw 39 rfl) (wd hw 3 rfl) (wd hw 40 rfl) (by decide) (rm_rh4d l Z a0 hw r0 r1 il zu za zm zt pos (4 : Int32) pn 4 4 g t w cn h0 n0 Z0 g_r0 g_il E0 Fp Fi Fl Fd A B n10 n20 n12 hpos rfl Szu Sza Szm Szt nut nat nmt hd hpw (by decide) (by decide) (by decide) ht) 0 (by decide) (by decide) (by decide) (by decide) E0 (g := (mkF m 8 #[vR r0, vR za, vR q1, vR q2, vI 1, vI pos, .unset, .unset, .unset] [(.ref za), (.ref r0)])) rfl (by rw [hml]; rfl) [(.ref za)] [] rfl (lenOf pd_6 rfl) rfl (by show 2 * 0 + _ ≤ _; exact Nat.le_of_eq rfl) (hb hby d4_8) ?_
 intro T491 L491 v491 X491 q491
 obtain ⟨rfl, N491, K491, pos2, hp2, Ee491, Fp491, Fi491, Fl491, Fd491, B491⟩ := q491
 have ns492 : ∀ w ∈ [r0, il], ∃ c : Cell, h0[w]? = some c ∧ c.vm.isStatics = false := (allS (own_exa_ns E0) (allS (own_ary_ns B) all0))
 obtain ⟨lc491, X491h, N491h⟩ := own_hide X491 (Fr.app N0 N491)
 have K493 : Keep h0 T491.heap [r0, il] := (Keep.refl h0 [r0, il]).trans K491 (allS (Or.inl (List.mem_of_getElem? (i := 0) rfl)) (allS (Or.inl (List.mem_of_getElem? (i := 1) rfl)) all0))
 have Z494 : n0 ≤ T491.heap.size := Nat.le_trans Z0 K491.1
 show G (T491.setTop (mkF m 11 #[vR r0, vR za, vR q1, vR q2, vI 1, vI pos, .unset, .unset, .unset] [(.long ((Int32.ofNat cn).toInt64))]))
 refine go _ _ (fun _ k => XS.lstore X491h.here hx rfl (hb hby d4_11) rfl (l' := #[vR r0, vR za, vR q1, vR q2, vI 1, vI pos, .val (.long ((Int32.ofNat cn).toInt64)), .second, .unset]) rfl k) ?_
 show G (T491.setTop (mkF m 13 #[vR r0, vR za, vR q1, vR q2, vI 1, vI pos, .val (.long ((Int32.ofNat cn).toInt64)), .second, .unset] []))
 refine go _ _ (fun _ k => XS.aloadN X491h.here hx rfl (hb hby d4_13) rfl rfl  k) ?_
 show G (T491.setTop (mkF m 14 #[vR r0, vR za, vR q1, vR q2, vI 1, vI pos, .val (.long ((Int32.ofNat cn).toInt64)), .second, .unset] [(.ref r0)]))
 have f495 := (A.keep K491 (ninS n10 (ninS n12 nin0)))
 refine own_private go X491h hx hZ rfl hown (wd hw 57 rfl) (wd hw 58 rfl) (wd hw 18 rfl) rfl (wd hw 59 rfl) (wd hw 3 rfl) (wd hw 60 rfl) (by decide) (rm_re l Z a0 hw r0 r1 pos2 g T491.heap n0 Z494 Fi491 Fp491 f495) 0 (by decide) (by decide) (by decide) (by decide) Ee491 (g := (mkF m 14 #[vR r0, vR za, vR q1, vR q2, vI 1, vI pos, .val (.long ((Int32.ofNat cn).toInt64)), .second, .unset] [(.ref r0)])) rfl (by rw [hml]; rfl) [] [] rfl (lenOf pd_3 rfl) rfl (by show 2 * 0 + _ ≤ _; exact Nat.le_of_eq rfl) (hb hby d4_14) ?_
 intro T496 L496 v496 X496 q496
 obtain ⟨rfl, N496, hh496⟩ := q496
 obtain ⟨lc496, X496h, N496h⟩ := own_hide X496 (Fr.app N491h N496)
 show G (T496.setTop (mkF m 17 #[vR r0, vR za, vR q1, vR q2, vI 1, vI pos, .val (.long ((Int32.ofNat cn).toInt64)), .second, .unset] [(.int ((64 : Int32) - pos2))]))
 refine go _ _ (fun _ k => XS.iload X496h.here hx rfl (hb hby d4_17) rfl  k) ?_
 show G (T496.setTop (mkF m 19 #[vR r0, vR za, vR q1, vR q2, vI 1, vI pos, .val (.long ((Int32.ofNat cn).toInt64)), .second, .unset] [(.int (1 : Int32)), (.int ((64 : Int32) - pos2))]))
 refine go _ _ (fun _ k => XS.idiv X496h.here hx rfl (hb hby d4_19) rfl (by decide) k) ?_
 show G (T496.setTop (mkF m 20 #[vR r0, vR za, vR q1, vR q2, vI 1, vI pos, .val (.long ((Int32.ofNat cn).toInt64)), .second, .unset] [(.int (((64 : Int32) - pos2) / (1 : Int32)))]))
 refine go _ _ (fun _ k => XS.istore X496h.here hx rfl (hb hby d4_20) rfl (l' := #[vR r0, vR za, vR q1, vR q2, vI 1, vI pos, .val (.long ((Int32.ofNat cn).toInt64)), .second, vI (((64 : Int32) - pos2) / (1 : Int32))]) rfl k) ?_
 show G (T496.setTop (mkF m 22 #[vR r0, vR za, vR q1, vR q2, vI 1, vI pos, .val (.long ((Int32.ofNat cn).toInt64)), .second, vI (((64 : Int32) - pos2) / (1 : Int32))] []))
 refine go _ _ (fun _ k => XS.lload X496h.here hx rfl (hb hby d4_22) rfl  k) ?_
 show G (T496.setTop (mkF m 24 #[vR r0, vR za, vR q1, vR q2, vI 1, vI pos, .val (.long ((Int32.ofNat cn).toInt64)), .second, vI (((64 : Int32) - pos2) / (1 : Int32))] [(.long ((Int32.ofNat cn).toInt64))]))
 refine go _ _ (fun _ k => XS.iload X496h.here hx rfl (hb hby d4_24) rfl  k) ?_
 show G (T496.setTop (mkF m 26 #[vR r0, vR za, vR q1, vR q2, vI 1, vI pos, .val (.long ((Int32.ofNat cn).toInt64)), .second, vI (((64 : Int32) - pos2) / (1 : Int32))] [(.int (((64 : Int32) - pos2) / (1 : Int32))), (.long ((Int32.ofNat cn).toInt64))]))
 refine go _ _ (fun _ k => XS.i2l X496h.here hx rfl (hb hby d4_26) rfl k) ?_
 show G (T496.setTop (mkF m 27 #[vR r0, vR za, vR q1, vR q2, vI 1, vI pos, .val (.long ((Int32.ofNat cn).toInt64)), .second, vI (((64 : Int32) - pos2) / (1 : Int32))] [(.long ((((64 : Int32) - pos2) / (1 : Int32)).toInt64)), (.long ((Int32.ofNat cn).toInt64))]))
 refine own_static go X496h hx hZ hh496 hown (wd hw 61 rfl) (wd hw 62 rfl) (wd hw 63 rfl) (wd hw 64 rfl) (by decide) (rm_cu l Z a0 hw ((Int32.ofNat cn).toInt64) ((((64 : Int32) - pos2) / (1 : Int32)).toInt64) T491.heap n0 Z494) 0 (by decide) (by decide) (by decide) (by decide) (g := (mkF m 27 #[vR r0, vR za, vR q1, vR q2, vI 1, vI pos, .val (.long ((Int32.ofNat cn).toInt64)), .second, vI (((64 : Int32) - pos2) / (1 : Int32))] [(.long ((((64 : Int32) - pos2) / (1 : Int32)).toInt64)), (.long ((Int32.ofNat cn).toInt64))])) rfl (by rw [hml]; rfl) [(.long ((Int32.ofNat cn).toInt64)), (.long ((((64 : Int32) - pos2) / (1 : Int32)).toInt64))] [] rfl (lenOf pd_4 rfl) rfl (by show 2 * 0 + _ ≤ _; exact Nat.le_of_eq rfl) (hb hby d4_27) ?_
 intro T497 L497 v497 X497 q497
 obtain ⟨rfl, N497, hh497⟩ := q497
 obtain ⟨lc497, X497h, N497h⟩ := own_hide X497 (Fr.app N496h N497)
 show G (T497.setTop (mkF m 30 #[vR r0, vR za, vR q1, vR q2, vI 1, vI pos, .val (.long ((Int32.ofNat cn).toInt64)), .second, vI (((64 : Int32) - pos2) / (1 : Int32))] [(.int (cmpJ (((Int32.ofNat cn).toInt64) + (-9223372036854775808 : Int64)) (((((64 : Int32) - pos2) / (1 : Int32)).toInt64) + (-9223372036854775808 : Int64))))]))
 refine go _ _ (fun _ k => XS.ifYes X497h.here hx rfl (pc0 := 30) (pc' := 55) rfl (hb hby d4_30) rfl (Free.XT.i0_le_t (own_cmpU 1 rfl (by decide) hcn hp2 hrm)) (by decide) (by decide) k) ?_
 show G (T497.setTop (mkF m 55 #[vR r0, vR za, vR q1, vR q2, vI 1, vI pos, .val (.long ((Int32.ofNat cn).toInt64)), .second, vI (((64 : Int32) - pos2) / (1 : Int32))] []))
 refine go _ _ (fun _ k => XS.aloadN X497h.here hx rfl (hb hby d4_55) rfl rfl  k) ?_
 show G (T497.setTop (mkF m 56 #[vR r0, vR za, vR q1, vR q2, vI 1, vI pos, .val (.long ((Int32.ofNat cn).toInt64)), .second, vI (((64 : Int32) - pos2) / (1 : Int32))] [(.ref r0)]))
 obtain ⟨T498, X498, e498, st498⟩ := getF X497h hx hZ hown (host := "") (Or.inl (wd hw 50 rfl)) Via.refl hh497 Fd491 (g := (mkF m 56 #[vR r0, vR za, vR q1, vR q2, vI 1, vI pos, .val (.long ((Int32.ofNat cn).toInt64)), .second, vI (((64 : Int32) - pos2) / (1 : Int32))] [(.ref r0)])) rfl rfl (hb hby d4_56)
 refine go _ _ st498 ?_
 show G (T498.setTop (mkF m 59 #[vR r0, vR za, vR q1, vR q2, vI 1, vI pos, .val (.long ((Int32.ofNat cn).toInt64)), .second, vI (((64 : Int32) - pos2) / (1 : Int32))] [(.int (4 : Int32))]))
 refine go _ _ (fun _ k => XS.aloadN X498.here hx rfl (hb hby d4_59) rfl rfl  k) ?_
 show G (T498.setTop (mkF m 60 #[vR r0, vR za, vR q1, vR q2, vI 1, vI pos, .val (.long ((Int32.ofNat cn).toInt64)), .second, vI (((64 : Int32) - pos2) / (1 : Int32))] [(.ref r0), (.int (4 : Int32))]))
 obtain ⟨T499, X499, e499, st499⟩ := getF X498 hx hZ hown (host := "") (Or.inl (wd hw 11 rfl)) Via.refl e498 Fl491 (g := (mkF m 60 #[vR r0, vR za, vR q1, vR q2, vI 1, vI pos, .val (.long ((Int32.ofNat cn).toInt64)), .second, vI (((64 : Int32) - pos2) / (1 : Int32))] [(.ref r0), (.int (4 : Int32))])) rfl rfl (hb hby d4_60)
 refine go _ _ st499 ?_
 show G (T499.setTop (mkF m 63 #[vR r0, vR za, vR q1, vR q2, vI 1, vI pos, .val (.long ((Int32.ofNat cn).toInt64)), .second, vI (((64 : Int32) - pos2) / (1 : Int32))] [(.ref il), (.int (4 : Int32))]))
 refine own_arrlen go X499 hx hZ e499 (g := (mkF m 63 #[vR r0, vR za, vR q1, vR q2, vI 1, vI pos, .val (.long ((Int32.ofNat cn).toInt64)), .second, vI (((64 : Int32) - pos2) / (1 : Int32))] [(.ref il), (.int (4 : Int32))])) rfl B491 rfl (hb hby d4_63) ?_
 show G (T499.setTop (mkF m 64 #[vR r0, vR za, vR q1, vR q2, vI 1, vI pos, .val (.long ((Int32.ofNat cn).toInt64)), .second, vI (((64 : Int32) - pos2) / (1 : Int32))] [(.int (4 : Int32)), (.int (4 : Int32))]))
 refine go _ _ (fun _ k => XS.icmpNo X499.here hx rfl (hb hby d4_64) rfl (Free.XT.ii_ne_f (by decide)) k) ?_
 show G (T499.setTop (mkF m 67 #[vR r0, vR za, vR q1, vR q2, vI 1, vI pos, .val (.long ((Int32.ofNat cn).toInt64)), .second, vI (((64 : Int32) - pos2) / (1 : Int32))] []))
 refine go _ _ (fun _ k => XS.aloadN X499.here hx rfl (hb hby d4_67) rfl rfl  k) ?_
 show G (T499.setTop (mkF m 68 #[vR r0, vR za, vR q1, vR q2, vI 1, vI pos, .val (.long ((Int32.ofNat cn).toInt64)), .second, vI (((64 : Int32) - pos2) / (1 : Int32))] [(.ref r0)]))
 refine go _ _ (fun _ k => XS.aloadN X499.here hx rfl (hb hby d4_68) rfl rfl  k) ?_
 show G (T499.setTop (mkF m 69 #[vR r0, vR za, vR q1, vR q2, vI 1, vI pos, .val (.long ((Int32.ofNat cn).toInt64)), .second, vI (((64 : Int32) - pos2) / (1 : Int32))] [(.ref r0), (.ref r0)]))
 obtain ⟨T500, X500, e500, st500⟩ := getF X499 hx hZ hown (host := "") (Or.inl (wd hw 11 rfl)) Via.refl e499 Fl491 (g := (mkF m 69 #[vR r0, vR za, vR q1, vR q2, vI 1, vI pos, .val (.long ((Int32.ofNat cn).toInt64)), .second, vI (((64 : Int32) - pos2) / (1 : Int32))] [(.ref r0), (.ref r0)])) rfl rfl (hb hby d4_69)
 refine go _ _ st500 ?_
 show G (T500.setTop (mkF m 72 #[vR r0, vR za, vR q1, vR q2, vI 1, vI pos, .val (.long ((Int32.ofNat cn).toInt64)), .second, vI (((64 : Int32) - pos2) / (1 : Int32))] [(.ref il), (.ref r0)]))
 refine go _ _ (fun _ k => XS.iconst X500.here hx rfl (hb hby d4_72) k) ?_
 show G (T500.setTop (mkF m 73 #[vR r0, vR za, vR q1, vR q2, vI 1, vI pos, .val (.long ((Int32.ofNat cn).toInt64)), .second, vI (((64 : Int32) - pos2) / (1 : Int32))] [(.int (2 : Int32)), (.ref il), (.ref r0)]))
 refine go _ _ (fun _ k => XS.aloadN X500.here hx rfl (hb hby d4_73) rfl rfl  k) ?_
 show G (T500.setTop (mkF m 74 #[vR r0, vR za, vR q1, vR q2, vI 1, vI pos, .val (.long ((Int32.ofNat cn).toInt64)), .second, vI (((64 : Int32) - pos2) / (1 : Int32))] [(.ref r0), (.int (2 : Int32)), (.ref il), (.ref r0)]))
 obtain ⟨T501, X501, e501, st501⟩ := getF X500 hx hZ hown (host := "") (Or.inl (wd hw 50 rfl)) Via.refl e500 Fd491 (g := (mkF m 74 #[vR r0, vR za, vR q1, vR q2, vI 1, vI pos, .val (.long ((Int32.ofNat cn).toInt64)), .second, vI (((64 : Int32) - pos2) / (1 : Int32))] [(.ref r0), (.int (2 : Int32)), (.ref il), (.ref r0)])) rfl rfl (hb hby d4_74)
 refine go _ _ st501 ?_
 show G (T501.setTop (mkF m 77 #[vR r0, vR za, vR q1, vR q2, vI 1, vI pos, .val (.long ((Int32.ofNat cn).toInt64)), .second, vI (((64 : Int32) - pos2) / (1 : Int32))] [(.int (4 : Int32)), (.int (2 : Int32)), (.ref il), (.ref r0)]))
 refine go _ _ (fun _ k => XS.imul X501.here hx rfl (hb hby d4_77) rfl k) ?_
 show G (T501.setTop (mkF m 78 #[vR r0, vR za, vR q1, vR q2, vI 1, vI pos, .val (.long ((Int32.ofNat cn).toInt64)), .second, vI (((64 : Int32) - pos2) / (1 : Int32))] [(.int ((2 : Int32) * (4 : Int32))), (.ref il), (.ref r0)]))
 show G (T501.setTop (mkF m 78 #[vR r0, vR za, vR q1, vR q2, vI 1, vI pos, .val (.long ((Int32.ofNat cn).toInt64)), .second, vI (((64 : Int32) - pos2) / (1 : Int32))] [(.int (8 : Int32)), (.ref il), (.ref r0)]))
 refine own_static go X501 hx hZ e501 hown (wd hw 95 rfl) (wd hw 96 rfl) (wd hw 97 rfl) (wd hw 98 rfl) (by decide) (rm_cp l Z a0 hw il (upd t (4 - 1) (t (4 - 1) - 1)) T491.heap n0 Z494 B491) 1 (by decide) (by decide) (by decide) (by decide) (g := (mkF m 78 #[vR r0, vR za, vR q1, vR q2, vI 1, vI pos, .val (.long ((Int32.ofNat cn).toInt64)), .second, vI (((64 : Int32) - pos2) / (1 : Int32))] [(.int (8 : Int32)), (.ref il), (.ref r0)])) rfl (by rw [hml]; rfl) [(.ref il), (.int (8 : Int32))] [(.ref r0)] rfl (lenOf pd_8 rfl) rfl (by show 2 * 0 + _ ≤ _; exact Nat.le_of_eq rfl) (hb hby d4_78) ?_
 intro T502 L502 v502 X502 q502
 obtain ⟨il2, rfl, N502, K502, g_il2, szq, t2, B502, ht2⟩ := q502
 have nil2 : il2 ≠ r0 := Ne.symm (Nat.ne_of_lt (Nat.lt_of_lt_of_le Ee491.lt szq))
 have nr1 : r1 ≠ il2 := Nat.ne_of_lt (Nat.lt_of_lt_of_le f495.lt szq)
 have sz_il2 : h0.size ≤ il2 := Nat.le_trans K493.1 szq
 have ns503 : ∀ w ∈ [], ∃ c : Cell, T491.heap[w]? = some c ∧ c.vm.isStatics = false := all0
 obtain ⟨lc502, X502h, N502h⟩ := own_hide X502 (Fr.app N497h N502)
 have K504 : Keep h0 T502.heap [r0, il] := K493.trans K502 all0
 have Z505 : n0 ≤ T502.heap.size := Nat.le_trans Z494 K502.1
 show G (T502.setTop (mkF m 81 #[vR r0, vR za, vR q1, vR q2, vI 1, vI pos, .val (.long ((Int32.ofNat cn).toInt64)), .second, vI (((64 : Int32) - pos2) / (1 : Int32))] [(.ref il2), (.ref r0)]))
 have f506 := (Fl491.keep K502 nin0)
 have f507 := (Ee491.keep K502)
 obtain ⟨T508, h508, X508, e508, W508, st508⟩ := putF X502h hx hZ hown (host := "") (Or.inl (wd hw 11 rfl)) Via.refl rfl f506 f507 (Or.inl (wd hw 12 rfl)) (wd hw 2 rfl) (ty := (.array .int)) (by decide) rfl rfl (g := (mkF m 81 #[vR r0, vR za, vR q1, vR q2, vI 1, vI pos, .val (.long ((Int32.ofNat cn).toInt64)), .second, vI (((64 : Int32) - pos2) / (1 : Int32))] [(.ref il2), (.ref r0)])) rfl rfl (hb hby d4_81)
 have F508 := f506.same W508
 have K509 : Keep h0 h508 [r0, il] := K504.wr W508 (Or.inl (List.mem_of_getElem? (i := 0) rfl))
 obtain ⟨lc508, X508h, N508h⟩ := own_hide X508 (Fr.snoc X508 N502h g_r0)
 have Z510 : n0 ≤ h508.size := Nat.le_trans Z505 (Nat.le_of_eq W508.size.symm)
 refine go _ _ st508 ?_
 show G (T508.setTop (mkF m 84 #[vR r0, vR za, vR q1, vR q2, vI 1, vI pos, .val (.long ((Int32.ofNat cn).toInt64)), .second, vI (((64 : Int32) - pos2) / (1 : Int32))] []))
 refine go _ _ (fun _ k => XS.aloadN X508h.here hx rfl (hb hby d4_84) rfl rfl  k) ?_
 show G (T508.setTop (mkF m 85 #[vR r0, vR za, vR q1, vR q2, vI 1, vI pos, .val (.long ((Int32.ofNat cn).toInt64)), .second, vI (((64 : Int32) - pos2) / (1 : Int32))] [(.ref r0)]))
 obtain ⟨T511, X511, e511, st511⟩ := getF X508h hx hZ hown (host := "") (Or.inl (wd hw 11 rfl)) Via.refl e508 F508 (g := (mkF m 85 #[vR r0, vR za, vR q1, vR q2, vI 1, vI pos, .val (.long ((Int32.ofNat cn).toInt64)), .second, vI (((64 : Int32) - pos2) / (1 : Int32))] [(.ref r0)])) rfl rfl (hb hby d4_85)
 refine go _ _ st511 ?_
 show G (T511.setTop (mkF m 88 #[vR r0, vR za, vR q1, vR q2, vI 1, vI pos, .val (.long ((Int32.ofNat cn).toInt64)), .second, vI (((64 : Int32) - pos2) / (1 : Int32))] [(.ref il2)]))
 refine go _ _ (fun _ k => XS.aloadN X511.here hx rfl (hb hby d4_88) rfl rfl  k) ?_
 show G (T511.setTop (mkF m 89 #[vR r0, vR za, vR q1, vR q2, vI 1, vI pos, .val (.long ((Int32.ofNat cn).toInt64)), .second, vI (((64 : Int32) - pos2) / (1 : Int32))] [(.ref r0), (.ref il2)]))
 refine go _ _ (fun _ k => XS.dup X511.here hx rfl (hb hby d4_89) rfl rfl k) ?_
 show G (T511.setTop (mkF m 90 #[vR r0, vR za, vR q1, vR q2, vI 1, vI pos, .val (.long ((Int32.ofNat cn).toInt64)), .second, vI (((64 : Int32) - pos2) / (1 : Int32))] [(.ref r0), (.ref r0), (.ref il2)]))
 have f512 := ((Fd491.keep K502 nin0).other W508 (Or.inr (slot_ne (Or.inl (wd hw 51 rfl)) (Or.inl (wd hw 12 rfl)) (by decide) (t := .int) (t' := (.array .int)) (by decide) (by decide))))
 obtain ⟨T513, X513, e513, st513⟩ := getF X511 hx hZ hown (host := "") (Or.inl (wd hw 50 rfl)) Via.refl e511 f512 (g := (mkF m 90 #[vR r0, vR za, vR q1, vR q2, vI 1, vI pos, .val (.long ((Int32.ofNat cn).toInt64)), .second, vI (((64 : Int32) - pos2) / (1 : Int32))] [(.ref r0), (.ref r0), (.ref il2)])) rfl rfl (hb hby d4_90)
 refine go _ _ st513 ?_
 show G (T513.setTop (mkF m 93 #[vR r0, vR za, vR q1, vR q2, vI 1, vI pos, .val (.long ((Int32.ofNat cn).toInt64)), .second, vI (((64 : Int32) - pos2) / (1 : Int32))] [(.int (4 : Int32)), (.ref r0), (.ref il2)]))
 refine go _ _ (fun _ k => XS.dupX1 X513.here hx rfl (hb hby d4_93) rfl rfl rfl k) ?_
 show G (T513.setTop (mkF m 94 #[vR r0, vR za, vR q1, vR q2, vI 1, vI pos, .val (.long ((Int32.ofNat cn).toInt64)), .second, vI (((64 : Int32) - pos2) / (1 : Int32))] [(.int (4 : Int32)), (.ref r0), (.int (4 : Int32)), (.ref il2)]))
 refine go _ _ (fun _ k => XS.iconst X513.here hx rfl (hb hby d4_94) k) ?_
 show G (T513.setTop (mkF m 95 #[vR r0, vR za, vR q1, vR q2, vI 1, vI pos, .val (.long ((Int32.ofNat cn).toInt64)), .second, vI (((64 : Int32) - pos2) / (1 : Int32))] [(.int (1 : Int32)), (.int (4 : Int32)), (.ref r0), (.int (4 : Int32)), (.ref il2)]))
 refine go _ _ (fun _ k => XS.iadd X513.here hx rfl (hb hby d4_95) rfl k) ?_
 show G (T513.setTop (mkF m 96 #[vR r0, vR za, vR q1, vR q2, vI 1, vI pos, .val (.long ((Int32.ofNat cn).toInt64)), .second, vI (((64 : Int32) - pos2) / (1 : Int32))] [(.int ((4 : Int32) + (1 : Int32))), (.ref r0), (.int (4 : Int32)), (.ref il2)]))
 have f514 := (f507.wr W508)
 obtain ⟨T515, h515, X515, e515, W515, st515⟩ := putF X513 hx hZ hown (host := "") (Or.inl (wd hw 50 rfl)) Via.refl e513 f512 f514 (Or.inl (wd hw 51 rfl)) (wd hw 2 rfl) (ty := .int) (by decide) rfl rfl (g := (mkF m 96 #[vR r0, vR za, vR q1, vR q2, vI 1, vI pos, .val (.long ((Int32.ofNat cn).toInt64)), .second, vI (((64 : Int32) - pos2) / (1 : Int32))] [(.int ((4 : Int32) + (1 : Int32))), (.ref r0), (.int (4 : Int32)), (.ref il2)])) rfl rfl (hb hby d4_96)
 have F515 := f512.same W515
 have K516 : Keep h0 h515 [r0, il] := K509.wr W515 (Or.inl (List.mem_of_getElem? (i := 0) rfl))
 obtain ⟨lc515, X515h, N515h⟩ := own_hide X515 (Fr.snoc X515 N508h g_r0)
 have Z517 : n0 ≤ h515.size := Nat.le_trans Z510 (Nat.le_of_eq W515.size.symm)
 refine go _ _ st515 ?_
 show G (T515.setTop (mkF m 99 #[vR r0, vR za, vR q1, vR q2, vI 1, vI pos, .val (.long ((Int32.ofNat cn).toInt64)), .second, vI (((64 : Int32) - pos2) / (1 : Int32))] [(.int (4 : Int32)), (.ref il2)]))
 refine go _ _ (fun _ k => XS.lload X515h.here hx rfl (hb hby d4_99) rfl  k) ?_
 show G (T515.setTop (mkF m 101 #[vR r0, vR za, vR q1, vR q2, vI 1, vI pos, .val (.long ((Int32.ofNat cn).toInt64)), .second, vI (((64 : Int32) - pos2) / (1 : Int32))] [(.long ((Int32.ofNat cn).toInt64)), (.int (4 : Int32)), (.ref il2)]))
 refine go _ _ (fun _ k => XS.l2i X515h.here hx rfl (hb hby d4_101) rfl k) ?_
 show G (T515.setTop (mkF m 102 #[vR r0, vR za, vR q1, vR q2, vI 1, vI pos, .val (.long ((Int32.ofNat cn).toInt64)), .second, vI (((64 : Int32) - pos2) / (1 : Int32))] [(.int (((Int32.ofNat cn).toInt64).toInt32)), (.int (4 : Int32)), (.ref il2)]))
 refine go _ _ (fun _ k => XS.iload X515h.here hx rfl (hb hby d4_102) rfl  k) ?_
 show G (T515.setTop (mkF m 104 #[vR r0, vR za, vR q1, vR q2, vI 1, vI pos, .val (.long ((Int32.ofNat cn).toInt64)), .second, vI (((64 : Int32) - pos2) / (1 : Int32))] [(.int (1 : Int32)), (.int (((Int32.ofNat cn).toInt64).toInt32)), (.int (4 : Int32)), (.ref il2)]))
 refine go _ _ (fun _ k => XS.imul X515h.here hx rfl (hb hby d4_104) rfl k) ?_
 show G (T515.setTop (mkF m 105 #[vR r0, vR za, vR q1, vR q2, vI 1, vI pos, .val (.long ((Int32.ofNat cn).toInt64)), .second, vI (((64 : Int32) - pos2) / (1 : Int32))] [(.int ((((Int32.ofNat cn).toInt64).toInt32) * (1 : Int32))), (.int (4 : Int32)), (.ref il2)]))
 have f518 := ((B502.other W508 nil2).other W515 nil2)
 refine own_iastore go X515h hx hZ e515 4 rfl (by decide) (g := (mkF m 105 #[vR r0, vR za, vR q1, vR q2, vI 1, vI pos, .val (.long ((Int32.ofNat cn).toInt64)), .second, vI (((64 : Int32) - pos2) / (1 : Int32))] [(.int ((((Int32.ofNat cn).toInt64).toInt32) * (1 : Int32))), (.int (4 : Int32)), (.ref il2)])) rfl f518 rfl (hb hby d4_105) ?_
 intro T519 h519 X519 e519 W519 A519
 have K520 : Keep h0 h519 [r0, il] := K516.wr W519 (Or.inr sz_il2)
 obtain ⟨lc519, X519h, N519h⟩ := own_hide X519 (Fr.snoc X519 N515h g_il2)
 have Z521 : n0 ≤ h519.size := Nat.le_trans Z517 (Nat.le_of_eq W519.size.symm)
 have A519c := A519.cong (g := (fun i => .int ((upd t2 4 (Int32.ofNat (cn * 1))) i))) (own_upd (own_val 1 rfl hcn (by decide)))
 show G (T519.setTop (mkF m 106 #[vR r0, vR za, vR q1, vR q2, vI 1, vI pos, .val (.long ((Int32.ofNat cn).toInt64)), .second, vI (((64 : Int32) - pos2) / (1 : Int32))] []))
 refine own_retV rt X519h hx hret (hb hby d4_106) (by decide) (by decide) ?_
 have f522 := ((f514.wr W515).wr W519)
 have f523 := ((((Fp491.keep K502 nin0).other W508 (Or.inr (slot_ne (Or.inl (wd hw 36 rfl)) (Or.inl (wd hw 12 rfl)) (by decide) (t := .int) (t' := (.array .int)) (by decide) (by decide)))).other W515 (Or.inr (slot_ne (Or.inl (wd hw 36 rfl)) (Or.inl (wd hw 51 rfl)) (by decide) (t := .int) (t' := .int) (by decide) (by decide)))).other W519 (Or.inl (Ne.symm nil2)))
 have f524 := ((((Fi491.keep K502 nin0).other W508 (Or.inr (slot_ne (Or.inr (wd hw 14 rfl)) (Or.inl (wd hw 12 rfl)) (by decide) (t := (.array .byte)) (t' := (.array .int)) (by decide) (by decide)))).other W515 (Or.inr (slot_ne (Or.inr (wd hw 14 rfl)) (Or.inl (wd hw 51 rfl)) (by decide) (t := (.array .byte)) (t' := .int) (by decide) (by decide)))).other W519 (Or.inl (Ne.symm nil2)))
 have f525 := ((F508.other W515 (Or.inr (slot_ne (Or.inl (wd hw 12 rfl)) (Or.inl (wd hw 51 rfl)) (by decide) (t := (.array .int)) (t' := .int) (by decide) (by decide)))).other W519 (Or.inl (Ne.symm nil2)))
 have f526 := (F515.other W519 (Or.inl (Ne.symm nil2)))
 rw [e519]
 exact ⟨rfl, N519h, K520, _, _, _, _, hp2, own_add (i := 4) rfl (j := 1) rfl (by omega), upd_eq, (by rw [upd_ne (by decide), ht2 _ (by decide), upd_eq]), g_il2, sz_il2, f522, f523, f524, f525, f526, A519c⟩
theorem ef_rm_op4c (m : MethodId) (x0 : Addr) : entryFrame m #[(.ref x0)] 1 = mkF m 0 #[.val (.ref x0)] [] := by first | (simp [entryFrame, mkF, argsToLocals, Value.category]; done) | rfl
set_option maxRecDepth 65536 in
set_option maxHeartbeats 40000000 in
theorem rm_op4c (l : Launch) (Z : State) (a0 : Array Value) (hw : ∀ d ∈ tables_1, d.before a0 Z = true) (r0 r1 il zu za zm zt : Addr) (pos : Int32) (pn : Nat) (g t : Nat → Int32) (w cn : Nat) (h0 : Heap) (n0 : Nat) (Z0 : n0 ≤ h0.size) (g_r0 : n0 ≤ r0) (g_il : n0 ≤ il) (E0 : Exa Z h0 r0 "com/example/brevidns/brevidns/CborReader") (Fp : Fld Z h0 r0 "com/example/brevidns/brevidns/CborReader" "position" "I" (.int pos)) (Fi : Fld Z h0 r0 "com/example/brevidns/brevidns/CborReader" "input" "[B" (.ref r1)) (Fl : Fld Z h0 r0 "com/example/brevidns/brevidns/CborReader" "itemsLeft" "[I" (.ref il)) (Fd : Fld Z h0 r0 "com/example/brevidns/brevidns/CborReader" "depth" "I" (.int (4 : Int32))) (A : Ary Z h0 r1 .byte 64 (fun i => .int (g i))) (B : Ary Z h0 il .int 4 (fun i => .int (t i))) (n10 : r1 ≠ r0) (n20 : il ≠ r0) (n12 : r1 ≠ il) (hpos : pos.toInt = pn) (Szu : Sta Z h0 "com/example/brevidns/brevidns/CborReader$Kind" "UNSIGNED_INTEGER" "Lcom/example/brevidns/brevidns/CborReader$Kind;" (.ref zu)) (Sza : Sta Z h0 "com/example/brevidns/brevidns/CborReader$Kind" "ARRAY" "Lcom/example/brevidns/brevidns/CborReader$Kind;" (.ref za)) (Szm : Sta Z h0 "com/example/brevidns/brevidns/CborReader$Kind" "MAP" "Lcom/example/brevidns/brevidns/CborReader$Kind;" (.ref zm)) (Szt : Sta Z h0 "com/example/brevidns/brevidns/CborReader$Kind" "TAG" "Lcom/example/brevidns/brevidns/CborReader$Kind;" (.ref zt)) (nut : zu ≠ zt) (nat : za ≠ zt) (nmt : zm ≠ zt) (hd : Head g 4 pn w cn) (hpw : pn + w ≤ 63) (hrm : cn * 1 + (pn + w) ≤ 64) (ht : ¬ t 3 = 0) :
  ConW l Z (⟨"com/example/brevidns/brevidns/CborReader", "openArray", "()V"⟩ : MethodName) prog_3_method_5_code 1 none ({ frames := 4, cells := 5, slots := 72, locals := 75 } : Room) #[(.ref r0)] h0 (fun v h L => v = none ∧ Fr n0 L ∧ Keep h0 h [r0, il] ∧ ∃ (pos2 dp2 : Int32) (il2 : Addr) (t2 : Nat → Int32), pos2.toInt = ((pn + w : Nat) : Int) ∧ dp2.toInt = ((4 + 1 : Nat) : Int) ∧ t2 4 = Int32.ofNat (cn * 1) ∧ t2 (4 - 1) = t (4 - 1) - 1 ∧ n0 ≤ il2 ∧ h0.size ≤ il2 ∧ Exa Z h r0 "com/example/brevidns/brevidns/CborReader" ∧ Fld Z h r0 "com/example/brevidns/brevidns/CborReader" "position" "I" (.int pos2) ∧ Fld Z h r0 "com/example/brevidns/brevidns/CborReader" "input" "[B" (.ref r1) ∧ Fld Z h r0 "com/example/brevidns/brevidns/CborReader" "itemsLeft" "[I" (.ref il2) ∧ Fld Z h r0 "com/example/brevidns/brevidns/CborReader" "depth" "I" (.int dp2) ∧ Ary Z h il2 .int 8 (fun i => .int (t2 i))) := by
 refine own_bodyW pn_3 ?_
 intro p e s m below meth c s₁ hx hby hml hown hnm hret hZ e0 X0 G go kS rb Zk0
 have rt := own_rt rb
 have N0 := Fr.nil n0
 rw [ef_rm_op4c m r0]
 show G (s₁.setTop (mkF m 0 #[vR r0] []))
 refine go _ _ (fun _ k => XS.aloadN X0.here hx rfl (hb hby d3_0) rfl rfl  k) ?_
 show G (s₁.setTop (mkF m 1 #[vR r0] [(.ref r0)]))
 obtain ⟨T527, X527, e527, st527⟩ := getS X0 hx hZ hown (host := "") (wd hw 20 rfl) Via.refl e0 Sza (g := (mkF m 1 #[vR r0] [(.ref r0)])) rfl (hb hby d3_1)
 refine go _ _ st527 ?_
 show G (T527.setTop (mkF m 4 #[vR r0] [(.ref za), (.ref r0)]))
 refine own_ldcS go X527 hx hZ e527 hown (wd hw 23 rfl) (own_wS hw) rb Zk0 (g := (mkF m 4 #[vR r0] [(.ref za), (.ref r0)])) rfl (hb hby d3_4) 36 (by decide) (by decide) (by decide) (by decide) ?_
 intro s kS T528 h528 a528 hZ hown rb Y528 X528 e528 E528
 have rt := own_rt rb
 have Z529 : n0 ≤ h528.size := Nat.le_trans Z0 E528.1
 have K530 : Keep h0 h528 [r0, il] := (Keep.refl h0 [r0, il]).ext E528
 show G (T528.setTop (mkF m 6 #[vR r0] [(.ref a528), (.ref za), (.ref r0)]))
 refine own_ldcS go X528 hx hZ e528 hown (wd hw 30 rfl) (own_wS hw) rb Y528 (g := (mkF m 6 #[vR r0] [(.ref a528), (.ref za), (.ref r0)])) rfl (hb hby d3_6) 20 (by decide) (by decide) (by decide) (by decide) ?_
 intro s kS T531 h531 a531 hZ hown rb Y531 X531 e531 E531
 have rt := own_rt rb
 have Z532 : n0 ≤ h531.size := Nat.le_trans Z529 E531.1
 have K533 : Keep h0 h531 [r0, il] := K530.ext E531
 show G (T531.setTop (mkF m 8 #[vR r0] [(.ref a531), (.ref a528), (.ref za), (.ref r0)]))
 refine go _ _ (fun _ k => XS.iconst X531.here hx rfl (hb hby d3_8) k) ?_
 show G (T531.setTop (mkF m 9 #[vR r0] [(.int (1 : Int32)), (.ref a531), (.ref a528), (.ref za), (.ref r0)]))
 have f534 := ((E0.ext E528).ext E531)
 have f535 := ((Fp.ext E528).ext E531)
 have f536 := ((Fi.ext E528).ext E531)
 have f537 := ((Fl.ext E528).ext E531)
 have f538 := ((Fd.ext E528).ext E531)
 have f539 := ((A.ext E528).ext E531)
 have f540 := ((B.ext E528).ext E531)
 have f541 := ((Szu.ext E528).ext E531)
 have f542 := ((Sza.ext E528).ext E531)
 have f543 := ((Szm.ext E528).ext E531)
 have f544 := ((Szt.ext E528).ext E531)
 refine own_private go X531 hx hZ e531 hown (wd hw 31 rfl) (wd hw 32 rfl) (wd hw 18 rfl) rfl (wd hw 33 rfl) (wd hw 3 rfl) (wd hw 34 rfl) (by decide) (rm_en4c l Z a0 hw a528 a531 r0 r1 il zu za zm zt pos pn g t w cn h531 n0 Z532 g_r0 g_il f534 f535 f536 f537 f538 f539 f540 n10 n20 n12 hpos f541 f542 f543 f544 nut nat nmt hd hpw hrm ht) 0 (by decide) (by decide) (by decide) (by decide) f534 (g := (mkF m 9 #[vR r0] [(.int (1 : Int32)), (.ref a531), (.ref a528), (.ref za), (.ref r0)])) rfl (by rw [hml]; rfl) [(.ref za), (.ref a528), (.ref a531), (.int (1 : Int32))] [] rfl (lenOf pd_7 rfl) rfl (by show 2 * 0 + _ ≤ _; exact Nat.le_of_eq rfl) (hb hby d3_9) ?_
 intro T545 L545 v545 X545 q545
 obtain ⟨rfl, N545, K545, pos2, dp2, il2, t2, hp2, hdp2, ht2, ht3, g_il2, szq, Ee, Fp2, Fi2, Fl2, Fd2, B2⟩ := q545
 have sz_il2 : h0.size ≤ il2 := Nat.le_trans K533.1 szq
 have ns546 : ∀ w ∈ [r0, il], ∃ c : Cell, h531[w]? = some c ∧ c.vm.isStatics = false := (allS (own_exa_ns f534) (allS (own_ary_ns f540) all0))
 obtain ⟨lc545, X545h, N545h⟩ := own_hide X545 (Fr.app N0 N545)
 have K547 : Keep h0 T545.heap [r0, il] := K533.trans K545 (allS (Or.inl (List.mem_of_getElem? (i := 0) rfl)) (allS (Or.inl (List.mem_of_getElem? (i := 1) rfl)) all0))
 have Z548 : n0 ≤ T545.heap.size := Nat.le_trans Z532 K545.1
 have Y549 : kS ≤ T545.heap.size := Nat.le_trans Y531 K545.1
 show G (T545.setTop (mkF m 12 #[vR r0] []))
 refine own_retV rt X545h hx hret (hb hby d3_12) (by decide) (by decide) ?_
 refine ⟨Y549, ?_⟩
 exact ⟨rfl, N545h, K547, _, _, _, _, hp2, hdp2, ht2, ht3, g_il2, sz_il2, Ee, Fp2, Fi2, Fl2, Fd2, B2⟩
theorem ef_rm_en5z (m : MethodId) (x0 : Addr) (x1 : Addr) (x2 : Addr) (x3 : Addr) (x4 : Int32) : entryFrame m #[(.ref x0), (.ref x1), (.ref x2), (.ref x3), (.int x4)] 9 = mkF m 0 #[.val (.ref x0), .val (.ref x1), .val (.ref x2), .val (.ref x3), .val (.int x4), .unset, .unset, .unset, .unset] [] := by first | (simp [entryFrame, mkF, argsToLocals, Value.category]; done) | rfl
set_option maxRecDepth 65536 in
set_option maxHeartbeats 40000000 in
theorem rm_en5z (l : Launch) (Z : State) (a0 : Array Value) (hw : ∀ d ∈ tables_1, d.before a0 Z = true) (q1 q2 r0 r1 il zu za zm zt : Addr) (pos : Int32) (pn : Nat) (g t : Nat → Int32) (w cn : Nat) (h0 : Heap) (n0 : Nat) (Z0 : n0 ≤ h0.size) (g_r0 : n0 ≤ r0) (g_il : n0 ≤ il) (E0 : Exa Z h0 r0 "com/example/brevidns/brevidns/CborReader") (Fp : Fld Z h0 r0 "com/example/brevidns/brevidns/CborReader" "position" "I" (.int pos)) (Fi : Fld Z h0 r0 "com/example/brevidns/brevidns/CborReader" "input" "[B" (.ref r1)) (Fl : Fld Z h0 r0 "com/example/brevidns/brevidns/CborReader" "itemsLeft" "[I" (.ref il)) (Fd : Fld Z h0 r0 "com/example/brevidns/brevidns/CborReader" "depth" "I" (.int (0 : Int32))) (A : Ary Z h0 r1 .byte 64 (fun i => .int (g i))) (B : Ary Z h0 il .int 4 (fun i => .int (t i))) (n10 : r1 ≠ r0) (n20 : il ≠ r0) (n12 : r1 ≠ il) (hpos : pos.toInt = pn) (Szu : Sta Z h0 "com/example/brevidns/brevidns/CborReader$Kind" "UNSIGNED_INTEGER" "Lcom/example/brevidns/brevidns/CborReader$Kind;" (.ref zu)) (Sza : Sta Z h0 "com/example/brevidns/brevidns/CborReader$Kind" "ARRAY" "Lcom/example/brevidns/brevidns/CborReader$Kind;" (.ref za)) (Szm : Sta Z h0 "com/example/brevidns/brevidns/CborReader$Kind" "MAP" "Lcom/example/brevidns/brevidns/CborReader$Kind;" (.ref zm)) (Szt : Sta Z h0 "com/example/brevidns/brevidns/CborReader$Kind" "TAG" "Lcom/example/brevidns/brevidns/CborReader$Kind;" (.ref zt)) (nut : zu ≠ zt) (nat : za ≠ zt) (nmt : zm ≠ zt) (hd : Head g 5 pn w cn) (hpw : pn + w ≤ 63) (hrm : cn * 2 + (pn + w) ≤ 64) :
  Con l Z (⟨"com/example/brevidns/brevidns/CborReader", "enter", "(Lcom/example/brevidns/brevidns/CborReader$Kind;Ljava/lang/String;Ljava/lang/String;I)V"⟩ : MethodName) prog_3_method_7_code 9 none ({ frames := 3, cells := 0, slots := 0, locals := 46 } : Room) #[(.ref r0), (.ref zm), (.ref q1), (.ref q2), (.int (2 : Int32))] h0 (fun v h L => v = none ∧ Fr n0 L ∧ Keep h0 h [r0, il] ∧ ∃ (pos2 dp2 : Int32) (t2 : Nat → Int32), pos2.toInt = ((pn + w : Nat) : Int) ∧ dp2.toInt = ((0 + 1 : Nat) : Int) ∧ t2 0 = Int32.ofNat (cn * 2) ∧ Exa Z h r0 "com/example/brevidns/brevidns/CborReader" ∧ Fld Z h r0 "com/example/brevidns/brevidns/CborReader" "position" "I" (.int pos2) ∧ Fld Z h r0 "com/example/brevidns/brevidns/CborReader" "input" "[B" (.ref r1) ∧ Fld Z h r0 "com/example/brevidns/brevidns/CborReader" "itemsLeft" "[I" (.ref il) ∧ Fld Z h r0 "com/example/brevidns/brevidns/CborReader" "depth" "I" (.int dp2) ∧ Ary Z h il .int 4 (fun i => .int (t2 i))) := by
 refine own_body pn_4 ?_
 intro p e s m below meth c s₁ hx hby hml hown hnm hret hZ e0 X0 G go rt
 have N0 := Fr.nil n0
 rw [ef_rm_en5z m r0 zm q1 q2 (2 : Int32)]
 have hww : w = 1 ∨ w = 2 := hd.ww
 have hcn := hd.cn
 show G (s₁.setTop (mkF m 0 #[vR r0, vR zm, vR q1, vR q2, vI 2, .unset, .unset, .unset, .unset] []))
 refine go _ _ (fun _ k => XS.aloadN X0.here hx rfl (hb hby d4_0) rfl rfl  k) ?_
 show G (s₁.setTop (mkF m 1 #[vR r0, vR zm, vR q1, vR q2, vI 2, .unset, .unset, .unset, .unset] [(.ref r0)]))
 obtain ⟨T550, X550, e550, st550⟩ := getF X0 hx hZ hown (host := "") (Or.inl (wd hw 35 rfl)) Via.refl e0 Fp (g := (mkF m 1 #[vR r0, vR zm, vR q1, vR q2, vI 2, .unset, .unset, .unset, .unset] [(.ref r0)])) rfl rfl (hb hby d4_1)
 refine go _ _ st550 ?_
 show G (T550.setTop (mkF m 4 #[vR r0, vR zm, vR q1, vR q2, vI 2, .unset, .unset, .unset, .unset] [(.int pos)]))
 refine go _ _ (fun _ k => XS.istore X550.here hx rfl (hb hby d4_4) rfl (l' := #[vR r0, vR zm, vR q1, vR q2, vI 2, vI pos, .unset, .unset, .unset]) rfl k) ?_
 show G (T550.setTop (mkF m 6 #[vR r0, vR zm, vR q1, vR q2, vI 2, vI pos, .unset, .unset, .unset] []))
 refine go _ _ (fun _ k => XS.aloadN X550.here hx rfl (hb hby d4_6) rfl rfl  k) ?_
 show G (T550.setTop (mkF m 7 #[vR r0, vR zm, vR q1, vR q2, vI 2, vI pos, .unset, .unset, .unset] [(.ref r0)]))
 refine go _ _ (fun _ k => XS.aloadN X550.here hx rfl (hb hby d4_7) rfl rfl  k) ?_
 show G (T550.setTop (mkF m 8 #[vR r0, vR zm, vR q1, vR q2, vI 2, vI pos, .unset, .unset, .unset] [(.ref zm), (.ref r0)]))
 refine own_private go X550 hx hZ e550 hown (wd hw 37 rfl) (wd hw 38 rfl) (wd hw 18 rfl) rfl (wd hw 39 rfl) (wd hw 3 rfl) (wd hw 40 rfl) (by decide) (rm_rh5z l Z a0 hw r0 r1 il zu za zm zt pos pn 0 4 g t w cn h0 n0 Z0 g_r0 E0 Fp Fi Fl Fd A B n10 n20 n12 hpos rfl Szu Sza Szm Szt nut nat nmt hd hpw) 0 (by decide) (by decide) (by decide) (by decide) E0 (g := (mkF m 8 #[vR r0, vR zm, vR q1, vR q2, vI 2, vI pos, .unset, .unset, .unset] [(.ref zm), (.ref r0)])) rfl (by rw [hml]; rfl) [(.ref zm)] [] rfl (lenOf pd_6 rfl) rfl (by show 2 * 0 + _ ≤ _; exact Nat.le_of_eq rfl) (hb hby d4_8) ?_
 intro T551 L551 v551 X551 q551
 obtain ⟨rfl, N551, K551, pos2, hp2, Ee551, Fp551, Fi551, Fl551, Fd551, B551⟩ := q551
 have ns552 : ∀ w ∈ [r0], ∃ c : Cell, h0[w]? = some c ∧ c.vm.isStatics = false := (allS (own_exa_ns E0) all0)
 obtain ⟨lc551, X551h, N551h⟩ := own_hide X551 (Fr.app N0 N551)
 have K553 : Keep h0 T551.heap [r0, il] := (Keep.refl h0 [r0, il]).trans K551 (allS (Or.inl (List.mem_of_getElem? (i := 0) rfl)) all0)
 have Z554 : n0 ≤ T551.heap.size := Nat.le_trans Z0 K551.1
 show G (T551.setTop (mkF m 11 #[vR r0, vR zm, vR q1, vR q2, vI 2, vI pos, .unset, .unset, .unset] [(.long ((Int32.ofNat cn).toInt64))]))
 refine go _ _ (fun _ k => XS.lstore X551h.here hx rfl (hb hby d4_11) rfl (l' := #[vR r0, vR zm, vR q1, vR q2, vI 2, vI pos, .val (.long ((Int32.ofNat cn).toInt64)), .second, .unset]) rfl k) ?_
 show G (T551.setTop (mkF m 13 #[vR r0, vR zm, vR q1, vR q2, vI 2, vI pos, .val (.long ((Int32.ofNat cn).toInt64)), .second, .unset] []))
 refine go _ _ (fun _ k => XS.aloadN X551h.here hx rfl (hb hby d4_13) rfl rfl  k) ?_
 show G (T551.setTop (mkF m 14 #[vR r0, vR zm, vR q1, vR q2, vI 2, vI pos, .val (.long ((Int32.ofNat cn).toInt64)), .second, .unset] [(.ref r0)]))
 have f555 := (A.keep K551 (ninS n10 nin0))
 refine own_private go X551h hx hZ rfl hown (wd hw 57 rfl) (wd hw 58 rfl) (wd hw 18 rfl) rfl (wd hw 59 rfl) (wd hw 3 rfl) (wd hw 60 rfl) (by decide) (rm_re l Z a0 hw r0 r1 pos2 g T551.heap n0 Z554 Fi551 Fp551 f555) 0 (by decide) (by decide) (by decide) (by decide) Ee551 (g := (mkF m 14 #[vR r0, vR zm, vR q1, vR q2, vI 2, vI pos, .val (.long ((Int32.ofNat cn).toInt64)), .second, .unset] [(.ref r0)])) rfl (by rw [hml]; rfl) [] [] rfl (lenOf pd_3 rfl) rfl (by show 2 * 0 + _ ≤ _; exact Nat.le_of_eq rfl) (hb hby d4_14) ?_
 intro T556 L556 v556 X556 q556
 obtain ⟨rfl, N556, hh556⟩ := q556
 obtain ⟨lc556, X556h, N556h⟩ := own_hide X556 (Fr.app N551h N556)
 show G (T556.setTop (mkF m 17 #[vR r0, vR zm, vR q1, vR q2, vI 2, vI pos, .val (.long ((Int32.ofNat cn).toInt64)), .second, .unset] [(.int ((64 : Int32) - pos2))]))
 refine go _ _ (fun _ k => XS.iload X556h.here hx rfl (hb hby d4_17) rfl  k) ?_
 show G (T556.setTop (mkF m 19 #[vR r0, vR zm, vR q1, vR q2, vI 2, vI pos, .val (.long ((Int32.ofNat cn).toInt64)), .second, .unset] [(.int (2 : Int32)), (.int ((64 : Int32) - pos2))]))
 refine go _ _ (fun _ k => XS.idiv X556h.here hx rfl (hb hby d4_19) rfl (by decide) k) ?_
 show G (T556.setTop (mkF m 20 #[vR r0, vR zm, vR q1, vR q2, vI 2, vI pos, .val (.long ((Int32.ofNat cn).toInt64)), .second, .unset] [(.int (((64 : Int32) - pos2) / (2 : Int32)))]))
 refine go _ _ (fun _ k => XS.istore X556h.here hx rfl (hb hby d4_20) rfl (l' := #[vR r0, vR zm, vR q1, vR q2, vI 2, vI pos, .val (.long ((Int32.ofNat cn).toInt64)), .second, vI (((64 : Int32) - pos2) / (2 : Int32))]) rfl k) ?_
 show G (T556.setTop (mkF m 22 #[vR r0, vR zm, vR q1, vR q2, vI 2, vI pos, .val (.long ((Int32.ofNat cn).toInt64)), .second, vI (((64 : Int32) - pos2) / (2 : Int32))] []))
 refine go _ _ (fun _ k => XS.lload X556h.here hx rfl (hb hby d4_22) rfl  k) ?_
 show G (T556.setTop (mkF m 24 #[vR r0, vR zm, vR q1, vR q2, vI 2, vI pos, .val (.long ((Int32.ofNat cn).toInt64)), .second, vI (((64 : Int32) - pos2) / (2 : Int32))] [(.long ((Int32.ofNat cn).toInt64))]))
 refine go _ _ (fun _ k => XS.iload X556h.here hx rfl (hb hby d4_24) rfl  k) ?_
 show G (T556.setTop (mkF m 26 #[vR r0, vR zm, vR q1, vR q2, vI 2, vI pos, .val (.long ((Int32.ofNat cn).toInt64)), .second, vI (((64 : Int32) - pos2) / (2 : Int32))] [(.int (((64 : Int32) - pos2) / (2 : Int32))), (.long ((Int32.ofNat cn).toInt64))]))
 refine go _ _ (fun _ k => XS.i2l X556h.here hx rfl (hb hby d4_26) rfl k) ?_
 show G (T556.setTop (mkF m 27 #[vR r0, vR zm, vR q1, vR q2, vI 2, vI pos, .val (.long ((Int32.ofNat cn).toInt64)), .second, vI (((64 : Int32) - pos2) / (2 : Int32))] [(.long ((((64 : Int32) - pos2) / (2 : Int32)).toInt64)), (.long ((Int32.ofNat cn).toInt64))]))
 refine own_static go X556h hx hZ hh556 hown (wd hw 61 rfl) (wd hw 62 rfl) (wd hw 63 rfl) (wd hw 64 rfl) (by decide) (rm_cu l Z a0 hw ((Int32.ofNat cn).toInt64) ((((64 : Int32) - pos2) / (2 : Int32)).toInt64) T551.heap n0 Z554) 0 (by decide) (by decide) (by decide) (by decide) (g := (mkF m 27 #[vR r0, vR zm, vR q1, vR q2, vI 2, vI pos, .val (.long ((Int32.ofNat cn).toInt64)), .second, vI (((64 : Int32) - pos2) / (2 : Int32))] [(.long ((((64 : Int32) - pos2) / (2 : Int32)).toInt64)), (.long ((Int32.ofNat cn).toInt64))])) rfl (by rw [hml]; rfl) [(.long ((Int32.ofNat cn).toInt64)), (.long ((((64 : Int32) - pos2) / (2 : Int32)).toInt64))] [] rfl (lenOf pd_4 rfl) rfl (by show 2 * 0 + _ ≤ _; exact Nat.le_of_eq rfl) (hb hby d4_27) ?_
 intro T557 L557 v557 X557 q557
 obtain ⟨rfl, N557, hh557⟩ := q557
 obtain ⟨lc557, X557h, N557h⟩ := own_hide X557 (Fr.app N556h N557)
 show G (T557.setTop (mkF m 30 #[vR r0, vR zm, vR q1, vR q2, vI 2, vI pos, .val (.long ((Int32.ofNat cn).toInt64)), .second, vI (((64 : Int32) - pos2) / (2 : Int32))] [(.int (cmpJ (((Int32.ofNat cn).toInt64) + (-9223372036854775808 : Int64)) (((((64 : Int32) - pos2) / (2 : Int32)).toInt64) + (-9223372036854775808 : Int64))))]))
 refine go _ _ (fun _ k => XS.ifYes X557h.here hx rfl (pc0 := 30) (pc' := 55) rfl (hb hby d4_30) rfl (Free.XT.i0_le_t (own_cmpU 2 rfl (by decide) hcn hp2 hrm)) (by decide) (by decide) k) ?_
 show G (T557.setTop (mkF m 55 #[vR r0, vR zm, vR q1, vR q2, vI 2, vI pos, .val (.long ((Int32.ofNat cn).toInt64)), .second, vI (((64 : Int32) - pos2) / (2 : Int32))] []))
 refine go _ _ (fun _ k => XS.aloadN X557h.here hx rfl (hb hby d4_55) rfl rfl  k) ?_
 show G (T557.setTop (mkF m 56 #[vR r0, vR zm, vR q1, vR q2, vI 2, vI pos, .val (.long ((Int32.ofNat cn).toInt64)), .second, vI (((64 : Int32) - pos2) / (2 : Int32))] [(.ref r0)]))
 obtain ⟨T558, X558, e558, st558⟩ := getF X557h hx hZ hown (host := "") (Or.inl (wd hw 50 rfl)) Via.refl hh557 Fd551 (g := (mkF m 56 #[vR r0, vR zm, vR q1, vR q2, vI 2, vI pos, .val (.long ((Int32.ofNat cn).toInt64)), .second, vI (((64 : Int32) - pos2) / (2 : Int32))] [(.ref r0)])) rfl rfl (hb hby d4_56)
 refine go _ _ st558 ?_
 show G (T558.setTop (mkF m 59 #[vR r0, vR zm, vR q1, vR q2, vI 2, vI pos, .val (.long ((Int32.ofNat cn).toInt64)), .second, vI (((64 : Int32) - pos2) / (2 : Int32))] [(.int (0 : Int32))]))
 refine go _ _ (fun _ k => XS.aloadN X558.here hx rfl (hb hby d4_59) rfl rfl  k) ?_
 show G (T558.setTop (mkF m 60 #[vR r0, vR zm, vR q1, vR q2, vI 2, vI pos, .val (.long ((Int32.ofNat cn).toInt64)), .second, vI (((64 : Int32) - pos2) / (2 : Int32))] [(.ref r0), (.int (0 : Int32))]))
 obtain ⟨T559, X559, e559, st559⟩ := getF X558 hx hZ hown (host := "") (Or.inl (wd hw 11 rfl)) Via.refl e558 Fl551 (g := (mkF m 60 #[vR r0, vR zm, vR q1, vR q2, vI 2, vI pos, .val (.long ((Int32.ofNat cn).toInt64)), .second, vI (((64 : Int32) - pos2) / (2 : Int32))] [(.ref r0), (.int (0 : Int32))])) rfl rfl (hb hby d4_60)
 refine go _ _ st559 ?_
 show G (T559.setTop (mkF m 63 #[vR r0, vR zm, vR q1, vR q2, vI 2, vI pos, .val (.long ((Int32.ofNat cn).toInt64)), .second, vI (((64 : Int32) - pos2) / (2 : Int32))] [(.ref il), (.int (0 : Int32))]))
 refine own_arrlen go X559 hx hZ e559 (g := (mkF m 63 #[vR r0, vR zm, vR q1, vR q2, vI 2, vI pos, .val (.long ((Int32.ofNat cn).toInt64)), .second, vI (((64 : Int32) - pos2) / (2 : Int32))] [(.ref il), (.int (0 : Int32))])) rfl B551 rfl (hb hby d4_63) ?_
 show G (T559.setTop (mkF m 64 #[vR r0, vR zm, vR q1, vR q2, vI 2, vI pos, .val (.long ((Int32.ofNat cn).toInt64)), .second, vI (((64 : Int32) - pos2) / (2 : Int32))] [(.int (4 : Int32)), (.int (0 : Int32))]))
 refine go _ _ (fun _ k => XS.icmpYes X559.here hx rfl (pc0 := 64) (pc' := 84) rfl (hb hby d4_64) rfl (Free.XT.ii_ne_t (by decide)) (by decide) (by decide) k) ?_
 show G (T559.setTop (mkF m 84 #[vR r0, vR zm, vR q1, vR q2, vI 2, vI pos, .val (.long ((Int32.ofNat cn).toInt64)), .second, vI (((64 : Int32) - pos2) / (2 : Int32))] []))
 refine go _ _ (fun _ k => XS.aloadN X559.here hx rfl (hb hby d4_84) rfl rfl  k) ?_
 show G (T559.setTop (mkF m 85 #[vR r0, vR zm, vR q1, vR q2, vI 2, vI pos, .val (.long ((Int32.ofNat cn).toInt64)), .second, vI (((64 : Int32) - pos2) / (2 : Int32))] [(.ref r0)]))
 obtain ⟨T560, X560, e560, st560⟩ := getF X559 hx hZ hown (host := "") (Or.inl (wd hw 11 rfl)) Via.refl e559 Fl551 (g := (mkF m 85 #[vR r0, vR zm, vR q1, vR q2, vI 2, vI pos, .val (.long ((Int32.ofNat cn).toInt64)), .second, vI (((64 : Int32) - pos2) / (2 : Int32))] [(.ref r0)])) rfl rfl (hb hby d4_85)
 refine go _ _ st560 ?_
 show G (T560.setTop (mkF m 88 #[vR r0, vR zm, vR q1, vR q2, vI 2, vI pos, .val (.long ((Int32.ofNat cn).toInt64)), .second, vI (((64 : Int32) - pos2) / (2 : Int32))] [(.ref il)]))
 refine go _ _ (fun _ k => XS.aloadN X560.here hx rfl (hb hby d4_88) rfl rfl  k) ?_
 show G (T560.setTop (mkF m 89 #[vR r0, vR zm, vR q1, vR q2, vI 2, vI pos, .val (.long ((Int32.ofNat cn).toInt64)), .second, vI (((64 : Int32) - pos2) / (2 : Int32))] [(.ref r0), (.ref il)]))
 refine go _ _ (fun _ k => XS.dup X560.here hx rfl (hb hby d4_89) rfl rfl k) ?_
 show G (T560.setTop (mkF m 90 #[vR r0, vR zm, vR q1, vR q2, vI 2, vI pos, .val (.long ((Int32.ofNat cn).toInt64)), .second, vI (((64 : Int32) - pos2) / (2 : Int32))] [(.ref r0), (.ref r0), (.ref il)]))
 obtain ⟨T561, X561, e561, st561⟩ := getF X560 hx hZ hown (host := "") (Or.inl (wd hw 50 rfl)) Via.refl e560 Fd551 (g := (mkF m 90 #[vR r0, vR zm, vR q1, vR q2, vI 2, vI pos, .val (.long ((Int32.ofNat cn).toInt64)), .second, vI (((64 : Int32) - pos2) / (2 : Int32))] [(.ref r0), (.ref r0), (.ref il)])) rfl rfl (hb hby d4_90)
 refine go _ _ st561 ?_
 show G (T561.setTop (mkF m 93 #[vR r0, vR zm, vR q1, vR q2, vI 2, vI pos, .val (.long ((Int32.ofNat cn).toInt64)), .second, vI (((64 : Int32) - pos2) / (2 : Int32))] [(.int (0 : Int32)), (.ref r0), (.ref il)]))
 refine go _ _ (fun _ k => XS.dupX1 X561.here hx rfl (hb hby d4_93) rfl rfl rfl k) ?_
 show G (T561.setTop (mkF m 94 #[vR r0, vR zm, vR q1, vR q2, vI 2, vI pos, .val (.long ((Int32.ofNat cn).toInt64)), .second, vI (((64 : Int32) - pos2) / (2 : Int32))] [(.int (0 : Int32)), (.ref r0), (.int (0 : Int32)), (.ref il)]))
 refine go _ _ (fun _ k => XS.iconst X561.here hx rfl (hb hby d4_94) k) ?_
 show G (T561.setTop (mkF m 95 #[vR r0, vR zm, vR q1, vR q2, vI 2, vI pos, .val (.long ((Int32.ofNat cn).toInt64)), .second, vI (((64 : Int32) - pos2) / (2 : Int32))] [(.int (1 : Int32)), (.int (0 : Int32)), (.ref r0), (.int (0 : Int32)), (.ref il)]))
 refine go _ _ (fun _ k => XS.iadd X561.here hx rfl (hb hby d4_95) rfl k) ?_
 show G (T561.setTop (mkF m 96 #[vR r0, vR zm, vR q1, vR q2, vI 2, vI pos, .val (.long ((Int32.ofNat cn).toInt64)), .second, vI (((64 : Int32) - pos2) / (2 : Int32))] [(.int ((0 : Int32) + (1 : Int32))), (.ref r0), (.int (0 : Int32)), (.ref il)]))
 obtain ⟨T562, h562, X562, e562, W562, st562⟩ := putF X561 hx hZ hown (host := "") (Or.inl (wd hw 50 rfl)) Via.refl e561 Fd551 Ee551 (Or.inl (wd hw 51 rfl)) (wd hw 2 rfl) (ty := .int) (by decide) rfl rfl (g := (mkF m 96 #[vR r0, vR zm, vR q1, vR q2, vI 2, vI pos, .val (.long ((Int32.ofNat cn).toInt64)), .second, vI (((64 : Int32) - pos2) / (2 : Int32))] [(.int ((0 : Int32) + (1 : Int32))), (.ref r0), (.int (0 : Int32)), (.ref il)])) rfl rfl (hb hby d4_96)
 have F562 := Fd551.same W562
 have K563 : Keep h0 h562 [r0, il] := K553.wr W562 (Or.inl (List.mem_of_getElem? (i := 0) rfl))
 obtain ⟨lc562, X562h, N562h⟩ := own_hide X562 (Fr.snoc X562 N557h g_r0)
 have Z564 : n0 ≤ h562.size := Nat.le_trans Z554 (Nat.le_of_eq W562.size.symm)
 refine go _ _ st562 ?_
 show G (T562.setTop (mkF m 99 #[vR r0, vR zm, vR q1, vR q2, vI 2, vI pos, .val (.long ((Int32.ofNat cn).toInt64)), .second, vI (((64 : Int32) - pos2) / (2 : Int32))] [(.int (0 : Int32)), (.ref il)]))
 refine go _ _ (fun _ k => XS.lload X562h.here hx rfl (hb hby d4_99) rfl  k) ?_
 show G (T562.setTop (mkF m 101 #[vR r0, vR zm, vR q1, vR q2, vI 2, vI pos, .val (.long ((Int32.ofNat cn).toInt64)), .second, vI (((64 : Int32) - pos2) / (2 : Int32))] [(.long ((Int32.ofNat cn).toInt64)), (.int (0 : Int32)), (.ref il)]))
 refine go _ _ (fun _ k => XS.l2i X562h.here hx rfl (hb hby d4_101) rfl k) ?_
 show G (T562.setTop (mkF m 102 #[vR r0, vR zm, vR q1, vR q2, vI 2, vI pos, .val (.long ((Int32.ofNat cn).toInt64)), .second, vI (((64 : Int32) - pos2) / (2 : Int32))] [(.int (((Int32.ofNat cn).toInt64).toInt32)), (.int (0 : Int32)), (.ref il)]))
 refine go _ _ (fun _ k => XS.iload X562h.here hx rfl (hb hby d4_102) rfl  k) ?_
 show G (T562.setTop (mkF m 104 #[vR r0, vR zm, vR q1, vR q2, vI 2, vI pos, .val (.long ((Int32.ofNat cn).toInt64)), .second, vI (((64 : Int32) - pos2) / (2 : Int32))] [(.int (2 : Int32)), (.int (((Int32.ofNat cn).toInt64).toInt32)), (.int (0 : Int32)), (.ref il)]))
 refine go _ _ (fun _ k => XS.imul X562h.here hx rfl (hb hby d4_104) rfl k) ?_
 show G (T562.setTop (mkF m 105 #[vR r0, vR zm, vR q1, vR q2, vI 2, vI pos, .val (.long ((Int32.ofNat cn).toInt64)), .second, vI (((64 : Int32) - pos2) / (2 : Int32))] [(.int ((((Int32.ofNat cn).toInt64).toInt32) * (2 : Int32))), (.int (0 : Int32)), (.ref il)]))
 have f565 := (B551.other W562 n20)
 refine own_iastore go X562h hx hZ e562 0 rfl (by decide) (g := (mkF m 105 #[vR r0, vR zm, vR q1, vR q2, vI 2, vI pos, .val (.long ((Int32.ofNat cn).toInt64)), .second, vI (((64 : Int32) - pos2) / (2 : Int32))] [(.int ((((Int32.ofNat cn).toInt64).toInt32) * (2 : Int32))), (.int (0 : Int32)), (.ref il)])) rfl f565 rfl (hb hby d4_105) ?_
 intro T566 h566 X566 e566 W566 A566
 have K567 : Keep h0 h566 [r0, il] := K563.wr W566 (Or.inl (List.mem_of_getElem? (i := 1) rfl))
 obtain ⟨lc566, X566h, N566h⟩ := own_hide X566 (Fr.snoc X566 N562h g_il)
 have Z568 : n0 ≤ h566.size := Nat.le_trans Z564 (Nat.le_of_eq W566.size.symm)
 have A566c := A566.cong (g := (fun i => .int ((upd t 0 (Int32.ofNat (cn * 2))) i))) (own_upd (own_val 2 rfl hcn (by decide)))
 show G (T566.setTop (mkF m 106 #[vR r0, vR zm, vR q1, vR q2, vI 2, vI pos, .val (.long ((Int32.ofNat cn).toInt64)), .second, vI (((64 : Int32) - pos2) / (2 : Int32))] []))
 refine own_retV rt X566h hx hret (hb hby d4_106) (by decide) (by decide) ?_
 have f569 := ((Ee551.wr W562).wr W566)
 have f570 := ((Fp551.other W562 (Or.inr (slot_ne (Or.inl (wd hw 36 rfl)) (Or.inl (wd hw 51 rfl)) (by decide) (t := .int) (t' := .int) (by decide) (by decide)))).other W566 (Or.inl (Ne.symm n20)))
 have f571 := ((Fi551.other W562 (Or.inr (slot_ne (Or.inr (wd hw 14 rfl)) (Or.inl (wd hw 51 rfl)) (by decide) (t := (.array .byte)) (t' := .int) (by decide) (by decide)))).other W566 (Or.inl (Ne.symm n20)))
 have f572 := ((Fl551.other W562 (Or.inr (slot_ne (Or.inl (wd hw 12 rfl)) (Or.inl (wd hw 51 rfl)) (by decide) (t := (.array .int)) (t' := .int) (by decide) (by decide)))).other W566 (Or.inl (Ne.symm n20)))
 have f573 := (F562.other W566 (Or.inl (Ne.symm n20)))
 rw [e566]
 exact ⟨rfl, N566h, K567, _, _, _, hp2, own_add (i := 0) rfl (j := 1) rfl (by omega), upd_eq, f569, f570, f571, f572, f573, A566c⟩
theorem pn_13 : plainFor (⟨"com/example/brevidns/brevidns/CborReader", "openMap", "()V"⟩ : MethodName) = true := by first | (exact plainFor_of_name (show plainName "com/example/brevidns/brevidns/CborReader" = true by first | (simp [plainName, overriddenIn]; done) | decide +kernel)) | decide +kernel
theorem ef_rm_op5z (m : MethodId) (x0 : Addr) : entryFrame m #[(.ref x0)] 1 = mkF m 0 #[.val (.ref x0)] [] := by first | (simp [entryFrame, mkF, argsToLocals, Value.category]; done) | rfl
set_option maxRecDepth 65536 in
set_option maxHeartbeats 40000000 in
theorem rm_op5z (l : Launch) (Z : State) (a0 : Array Value) (hw : ∀ d ∈ tables_1, d.before a0 Z = true) (r0 r1 il zu za zm zt : Addr) (pos : Int32) (pn : Nat) (g t : Nat → Int32) (w cn : Nat) (h0 : Heap) (n0 : Nat) (Z0 : n0 ≤ h0.size) (g_r0 : n0 ≤ r0) (g_il : n0 ≤ il) (E0 : Exa Z h0 r0 "com/example/brevidns/brevidns/CborReader") (Fp : Fld Z h0 r0 "com/example/brevidns/brevidns/CborReader" "position" "I" (.int pos)) (Fi : Fld Z h0 r0 "com/example/brevidns/brevidns/CborReader" "input" "[B" (.ref r1)) (Fl : Fld Z h0 r0 "com/example/brevidns/brevidns/CborReader" "itemsLeft" "[I" (.ref il)) (Fd : Fld Z h0 r0 "com/example/brevidns/brevidns/CborReader" "depth" "I" (.int (0 : Int32))) (A : Ary Z h0 r1 .byte 64 (fun i => .int (g i))) (B : Ary Z h0 il .int 4 (fun i => .int (t i))) (n10 : r1 ≠ r0) (n20 : il ≠ r0) (n12 : r1 ≠ il) (hpos : pos.toInt = pn) (Szu : Sta Z h0 "com/example/brevidns/brevidns/CborReader$Kind" "UNSIGNED_INTEGER" "Lcom/example/brevidns/brevidns/CborReader$Kind;" (.ref zu)) (Sza : Sta Z h0 "com/example/brevidns/brevidns/CborReader$Kind" "ARRAY" "Lcom/example/brevidns/brevidns/CborReader$Kind;" (.ref za)) (Szm : Sta Z h0 "com/example/brevidns/brevidns/CborReader$Kind" "MAP" "Lcom/example/brevidns/brevidns/CborReader$Kind;" (.ref zm)) (Szt : Sta Z h0 "com/example/brevidns/brevidns/CborReader$Kind" "TAG" "Lcom/example/brevidns/brevidns/CborReader$Kind;" (.ref zt)) (nut : zu ≠ zt) (nat : za ≠ zt) (nmt : zm ≠ zt) (hd : Head g 5 pn w cn) (hpw : pn + w ≤ 63) (hrm : cn * 2 + (pn + w) ≤ 64) :
  ConW l Z (⟨"com/example/brevidns/brevidns/CborReader", "openMap", "()V"⟩ : MethodName) prog_3_method_6_code 1 none ({ frames := 4, cells := 4, slots := 56, locals := 66 } : Room) #[(.ref r0)] h0 (fun v h L => v = none ∧ Fr n0 L ∧ Keep h0 h [r0, il] ∧ ∃ (pos2 dp2 : Int32) (t2 : Nat → Int32), pos2.toInt = ((pn + w : Nat) : Int) ∧ dp2.toInt = ((0 + 1 : Nat) : Int) ∧ t2 0 = Int32.ofNat (cn * 2) ∧ Exa Z h r0 "com/example/brevidns/brevidns/CborReader" ∧ Fld Z h r0 "com/example/brevidns/brevidns/CborReader" "position" "I" (.int pos2) ∧ Fld Z h r0 "com/example/brevidns/brevidns/CborReader" "input" "[B" (.ref r1) ∧ Fld Z h r0 "com/example/brevidns/brevidns/CborReader" "itemsLeft" "[I" (.ref il) ∧ Fld Z h r0 "com/example/brevidns/brevidns/CborReader" "depth" "I" (.int dp2) ∧ Ary Z h il .int 4 (fun i => .int (t2 i))) := by
 refine own_bodyW pn_13 ?_
 intro p e s m below meth c s₁ hx hby hml hown hnm hret hZ e0 X0 G go kS rb Zk0
 have rt := own_rt rb
 have N0 := Fr.nil n0
 rw [ef_rm_op5z m r0]
 show G (s₁.setTop (mkF m 0 #[vR r0] []))
 refine go _ _ (fun _ k => XS.aloadN X0.here hx rfl (hb hby d13_0) rfl rfl  k) ?_
 show G (s₁.setTop (mkF m 1 #[vR r0] [(.ref r0)]))
 obtain ⟨T574, X574, e574, st574⟩ := getS X0 hx hZ hown (host := "") (wd hw 81 rfl) Via.refl e0 Szm (g := (mkF m 1 #[vR r0] [(.ref r0)])) rfl (hb hby d13_1)
 refine go _ _ st574 ?_
 show G (T574.setTop (mkF m 4 #[vR r0] [(.ref zm), (.ref r0)]))
 refine own_ldcS go X574 hx hZ e574 hown (wd hw 83 rfl) (own_wS hw) rb Zk0 (g := (mkF m 4 #[vR r0] [(.ref zm), (.ref r0)])) rfl (hb hby d13_4) 28 (by decide) (by decide) (by decide) (by decide) ?_
 intro s kS T575 h575 a575 hZ hown rb Y575 X575 e575 E575
 have rt := own_rt rb
 have Z576 : n0 ≤ h575.size := Nat.le_trans Z0 E575.1
 have K577 : Keep h0 h575 [r0, il] := (Keep.refl h0 [r0, il]).ext E575
 show G (T575.setTop (mkF m 6 #[vR r0] [(.ref a575), (.ref zm), (.ref r0)]))
 refine own_ldcS go X575 hx hZ e575 hown (wd hw 84 rfl) (own_wS hw) rb Y575 (g := (mkF m 6 #[vR r0] [(.ref a575), (.ref zm), (.ref r0)])) rfl (hb hby d13_6) 20 (by decide) (by decide) (by decide) (by decide) ?_
 intro s kS T578 h578 a578 hZ hown rb Y578 X578 e578 E578
 have rt := own_rt rb
 have Z579 : n0 ≤ h578.size := Nat.le_trans Z576 E578.1
 have K580 : Keep h0 h578 [r0, il] := K577.ext E578
 show G (T578.setTop (mkF m 8 #[vR r0] [(.ref a578), (.ref a575), (.ref zm), (.ref r0)]))
 refine go _ _ (fun _ k => XS.iconst X578.here hx rfl (hb hby d13_8) k) ?_
 show G (T578.setTop (mkF m 9 #[vR r0] [(.int (2 : Int32)), (.ref a578), (.ref a575), (.ref zm), (.ref r0)]))
 have f581 := ((E0.ext E575).ext E578)
 have f582 := ((Fp.ext E575).ext E578)
 have f583 := ((Fi.ext E575).ext E578)
 have f584 := ((Fl.ext E575).ext E578)
 have f585 := ((Fd.ext E575).ext E578)
 have f586 := ((A.ext E575).ext E578)
 have f587 := ((B.ext E575).ext E578)
 have f588 := ((Szu.ext E575).ext E578)
 have f589 := ((Sza.ext E575).ext E578)
 have f590 := ((Szm.ext E575).ext E578)
 have f591 := ((Szt.ext E575).ext E578)
 refine own_private go X578 hx hZ e578 hown (wd hw 31 rfl) (wd hw 32 rfl) (wd hw 18 rfl) rfl (wd hw 33 rfl) (wd hw 3 rfl) (wd hw 34 rfl) (by decide) (rm_en5z l Z a0 hw a575 a578 r0 r1 il zu za zm zt pos pn g t w cn h578 n0 Z579 g_r0 g_il f581 f582 f583 f584 f585 f586 f587 n10 n20 n12 hpos f588 f589 f590 f591 nut nat nmt hd hpw hrm) 0 (by decide) (by decide) (by decide) (by decide) f581 (g := (mkF m 9 #[vR r0] [(.int (2 : Int32)), (.ref a578), (.ref a575), (.ref zm), (.ref r0)])) rfl (by rw [hml]; rfl) [(.ref zm), (.ref a575), (.ref a578), (.int (2 : Int32))] [] rfl (lenOf pd_7 rfl) rfl (by show 2 * 0 + _ ≤ _; exact Nat.le_of_eq rfl) (hb hby d13_9) ?_
 intro T592 L592 v592 X592 q592
 obtain ⟨rfl, N592, K592, pos2, dp2, t2, hp2, hdp2, ht2, Ee, Fp2, Fi2, Fl2, Fd2, B2⟩ := q592
 have ns593 : ∀ w ∈ [r0, il], ∃ c : Cell, h578[w]? = some c ∧ c.vm.isStatics = false := (allS (own_exa_ns f581) (allS (own_ary_ns f587) all0))
 obtain ⟨lc592, X592h, N592h⟩ := own_hide X592 (Fr.app N0 N592)
 have K594 : Keep h0 T592.heap [r0, il] := K580.trans K592 (allS (Or.inl (List.mem_of_getElem? (i := 0) rfl)) (allS (Or.inl (List.mem_of_getElem? (i := 1) rfl)) all0))
 have Z595 : n0 ≤ T592.heap.size := Nat.le_trans Z579 K592.1
 have Y596 : kS ≤ T592.heap.size := Nat.le_trans Y578 K592.1
 show G (T592.setTop (mkF m 12 #[vR r0] []))
 refine own_retV rt X592h hx hret (hb hby d13_12) (by decide) (by decide) ?_
 refine ⟨Y596, ?_⟩
 exact ⟨rfl, N592h, K594, _, _, _, hp2, hdp2, ht2, Ee, Fp2, Fi2, Fl2, Fd2, B2⟩
theorem ef_rm_en5d (m : MethodId) (x0 : Addr) (x1 : Addr) (x2 : Addr) (x3 : Addr) (x4 : Int32) : entryFrame m #[(.ref x0), (.ref x1), (.ref x2), (.ref x3), (.int x4)] 9 = mkF m 0 #[.val (.ref x0), .val (.ref x1), .val (.ref x2), .val (.ref x3), .val (.int x4), .unset, .unset, .unset, .unset] [] := by first | (simp [entryFrame, mkF, argsToLocals, Value.category]; done) | rfl
set_option maxRecDepth 65536 in
set_option maxHeartbeats 40000000 in
theorem rm_en5d (l : Launch) (Z : State) (a0 : Array Value) (hw : ∀ d ∈ tables_1, d.before a0 Z = true) (q1 q2 r0 r1 il zu za zm zt : Addr) (pos dp : Int32) (pn dn : Nat) (g t : Nat → Int32) (w cn : Nat) (h0 : Heap) (n0 : Nat) (Z0 : n0 ≤ h0.size) (g_r0 : n0 ≤ r0) (g_il : n0 ≤ il) (E0 : Exa Z h0 r0 "com/example/brevidns/brevidns/CborReader") (Fp : Fld Z h0 r0 "com/example/brevidns/brevidns/CborReader" "position" "I" (.int pos)) (Fi : Fld Z h0 r0 "com/example/brevidns/brevidns/CborReader" "input" "[B" (.ref r1)) (Fl : Fld Z h0 r0 "com/example/brevidns/brevidns/CborReader" "itemsLeft" "[I" (.ref il)) (Fd : Fld Z h0 r0 "com/example/brevidns/brevidns/CborReader" "depth" "I" (.int dp)) (A : Ary Z h0 r1 .byte 64 (fun i => .int (g i))) (B : Ary Z h0 il .int 4 (fun i => .int (t i))) (n10 : r1 ≠ r0) (n20 : il ≠ r0) (n12 : r1 ≠ il) (hpos : pos.toInt = pn) (hdp : dp.toInt = dn) (Szu : Sta Z h0 "com/example/brevidns/brevidns/CborReader$Kind" "UNSIGNED_INTEGER" "Lcom/example/brevidns/brevidns/CborReader$Kind;" (.ref zu)) (Sza : Sta Z h0 "com/example/brevidns/brevidns/CborReader$Kind" "ARRAY" "Lcom/example/brevidns/brevidns/CborReader$Kind;" (.ref za)) (Szm : Sta Z h0 "com/example/brevidns/brevidns/CborReader$Kind" "MAP" "Lcom/example/brevidns/brevidns/CborReader$Kind;" (.ref zm)) (Szt : Sta Z h0 "com/example/brevidns/brevidns/CborReader$Kind" "TAG" "Lcom/example/brevidns/brevidns/CborReader$Kind;" (.ref zt)) (nut : zu ≠ zt) (nat : za ≠ zt) (nmt : zm ≠ zt) (hd : Head g 5 pn w cn) (hpw : pn + w ≤ 63) (hrm : cn * 2 + (pn + w) ≤ 64) (hd1 : 1 ≤ dn) (hd3 : dn ≤ 3) (ht : ¬ t (dn - 1) = 0) :
  Con l Z (⟨"com/example/brevidns/brevidns/CborReader", "enter", "(Lcom/example/brevidns/brevidns/CborReader$Kind;Ljava/lang/String;Ljava/lang/String;I)V"⟩ : MethodName) prog_3_method_7_code 9 none ({ frames := 3, cells := 0, slots := 0, locals := 46 } : Room) #[(.ref r0), (.ref zm), (.ref q1), (.ref q2), (.int (2 : Int32))] h0 (fun v h L => v = none ∧ Fr n0 L ∧ Keep h0 h [r0, il] ∧ ∃ (pos2 dp2 : Int32) (t2 : Nat → Int32), pos2.toInt = ((pn + w : Nat) : Int) ∧ dp2.toInt = ((dn + 1 : Nat) : Int) ∧ t2 dn = Int32.ofNat (cn * 2) ∧ t2 (dn - 1) = t (dn - 1) - 1 ∧ Exa Z h r0 "com/example/brevidns/brevidns/CborReader" ∧ Fld Z h r0 "com/example/brevidns/brevidns/CborReader" "position" "I" (.int pos2) ∧ Fld Z h r0 "com/example/brevidns/brevidns/CborReader" "input" "[B" (.ref r1) ∧ Fld Z h r0 "com/example/brevidns/brevidns/CborReader" "itemsLeft" "[I" (.ref il) ∧ Fld Z h r0 "com/example/brevidns/brevidns/CborReader" "depth" "I" (.int dp2) ∧ Ary Z h il .int 4 (fun i => .int (t2 i))) := by
 refine own_body pn_4 ?_
 intro p e s m below meth c s₁ hx hby hml hown hnm hret hZ e0 X0 G go rt
 have N0 := Fr.nil n0
 rw [ef_rm_en5d m r0 zm q1 q2 (2 : Int32)]
 have hww : w = 1 ∨ w = 2 := hd.ww
 have hcn := hd.cn
 show G (s₁.setTop (mkF m 0 #[vR r0, vR zm, vR q1, vR q2, vI 2, .unset, .unset, .unset, .unset] []))
 refine go _ _ (fun _ k => XS.aloadN X0.here hx rfl (hb hby d4_0) rfl rfl  k) ?_
 show G (s₁.setTop (mkF m 1 #[vR r0, vR zm, vR q1, vR q2, vI 2, .unset, .unset, .unset, .unset] [(.ref r0)]))
 obtain ⟨T597, X597, e597, st597⟩ := getF X0 hx hZ hown (host := "") (Or.inl (wd hw 35 rfl)) Via.refl e0 Fp (g := (mkF m 1 #[vR r0, vR zm, vR q1, vR q2, vI 2, .unset, .unset, .unset, .unset] [(.ref r0)])) rfl rfl (hb hby d4_1)
 refine go _ _ st597 ?_
 show G (T597.setTop (mkF m 4 #[vR r0, vR zm, vR q1, vR q2, vI 2, .unset, .unset, .unset, .unset] [(.int pos)]))
 refine go _ _ (fun _ k => XS.istore X597.here hx rfl (hb hby d4_4) rfl (l' := #[vR r0, vR zm, vR q1, vR q2, vI 2, vI pos, .unset, .unset, .unset]) rfl k) ?_
 show G (T597.setTop (mkF m 6 #[vR r0, vR zm, vR q1, vR q2, vI 2, vI pos, .unset, .unset, .unset] []))
 refine go _ _ (fun _ k => XS.aloadN X597.here hx rfl (hb hby d4_6) rfl rfl  k) ?_
 show G (T597.setTop (mkF m 7 #[vR r0, vR zm, vR q1, vR q2, vI 2, vI pos, .unset, .unset, .unset] [(.ref r0)]))
 refine go _ _ (fun _ k => XS.aloadN X597.here hx rfl (hb hby d4_7) rfl rfl  k) ?_
 show G (T597.setTop (mkF m 8 #[vR r0, vR zm, vR q1, vR q2, vI 2, vI pos, .unset, .unset, .unset] [(.ref zm), (.ref r0)]))
 refine own_private go X597 hx hZ e597 hown (wd hw 37 rfl) (wd hw 38 rfl) (wd hw 18 rfl) rfl (wd hw 39 rfl) (wd hw 3 rfl) (wd hw 40 rfl) (by decide) (rm_rh5d l Z a0 hw r0 r1 il zu za zm zt pos dp pn dn 4 g t w cn h0 n0 Z0 g_r0 g_il E0 Fp Fi Fl Fd A B n10 n20 n12 hpos hdp Szu Sza Szm Szt nut nat nmt hd hpw hd1 (by omega) (by decide) ht) 0 (by decide) (by decide) (by decide) (by decide) E0 (g := (mkF m 8 #[vR r0, vR zm, vR q1, vR q2, vI 2, vI pos, .unset, .unset, .unset] [(.ref zm), (.ref r0)])) rfl (by rw [hml]; rfl) [(.ref zm)] [] rfl (lenOf pd_6 rfl) rfl (by show 2 * 0 + _ ≤ _; exact Nat.le_of_eq rfl) (hb hby d4_8) ?_
 intro T598 L598 v598 X598 q598
 obtain ⟨rfl, N598, K598, pos2, hp2, Ee598, Fp598, Fi598, Fl598, Fd598, B598⟩ := q598
 have ns599 : ∀ w ∈ [r0, il], ∃ c : Cell, h0[w]? = some c ∧ c.vm.isStatics = false := (allS (own_exa_ns E0) (allS (own_ary_ns B) all0))
 obtain ⟨lc598, X598h, N598h⟩ := own_hide X598 (Fr.app N0 N598)
 have K600 : Keep h0 T598.heap [r0, il] := (Keep.refl h0 [r0, il]).trans K598 (allS (Or.inl (List.mem_of_getElem? (i := 0) rfl)) (allS (Or.inl (List.mem_of_getElem? (i := 1) rfl)) all0))
 have Z601 : n0 ≤ T598.heap.size := Nat.le_trans Z0 K598.1
 show G (T598.setTop (mkF m 11 #[vR r0, vR zm, vR q1, vR q2, vI 2, vI pos, .unset, .unset, .unset] [(.long ((Int32.ofNat cn).toInt64))]))
 refine go _ _ (fun _ k => XS.lstore X598h.here hx rfl (hb hby d4_11) rfl (l' := #[vR r0, vR zm, vR q1, vR q2, vI 2, vI pos, .val (.long ((Int32.ofNat cn).toInt64)), .second, .unset]) rfl k) ?_
 show G (T598.setTop (mkF m 13 #[vR r0, vR zm, vR q1, vR q2, vI 2, vI pos, .val (.long ((Int32.ofNat cn).toInt64)), .second, .unset] []))
 refine go _ _ (fun _ k => XS.aloadN X598h.here hx rfl (hb hby d4_13) rfl rfl  k) ?_
 show G (T598.setTop (mkF m 14 #[vR r0, vR zm, vR q1, vR q2, vI 2, vI pos, .val (.long ((Int32.ofNat cn).toInt64)), .second, .unset] [(.ref r0)]))
 have f602 := (A.keep K598 (ninS n10 (ninS n12 nin0)))
 refine own_private go X598h hx hZ rfl hown (wd hw 57 rfl) (wd hw 58 rfl) (wd hw 18 rfl) rfl (wd hw 59 rfl) (wd hw 3 rfl) (wd hw 60 rfl) (by decide) (rm_re l Z a0 hw r0 r1 pos2 g T598.heap n0 Z601 Fi598 Fp598 f602) 0 (by decide) (by decide) (by decide) (by decide) Ee598 (g := (mkF m 14 #[vR r0, vR zm, vR q1, vR q2, vI 2, vI pos, .val (.long ((Int32.ofNat cn).toInt64)), .second, .unset] [(.ref r0)])) rfl (by rw [hml]; rfl) [] [] rfl (lenOf pd_3 rfl) rfl (by show 2 * 0 + _ ≤ _; exact Nat.le_of_eq rfl) (hb hby d4_14) ?_
 intro T603 L603 v603 X603 q603
 obtain ⟨rfl, N603, hh603⟩ := q603
 obtain ⟨lc603, X603h, N603h⟩ := own_hide X603 (Fr.app N598h N603)
 show G (T603.setTop (mkF m 17 #[vR r0, vR zm, vR q1, vR q2, vI 2, vI pos, .val (.long ((Int32.ofNat cn).toInt64)), .second, .unset] [(.int ((64 : Int32) - pos2))]))
 refine go _ _ (fun _ k => XS.iload X603h.here hx rfl (hb hby d4_17) rfl  k) ?_
 show G (T603.setTop (mkF m 19 #[vR r0, vR zm, vR q1, vR q2, vI 2, vI pos, .val (.long ((Int32.ofNat cn).toInt64)), .second, .unset] [(.int (2 : Int32)), (.int ((64 : Int32) - pos2))]))
 refine go _ _ (fun _ k => XS.idiv X603h.here hx rfl (hb hby d4_19) rfl (by decide) k) ?_
 show G (T603.setTop (mkF m 20 #[vR r0, vR zm, vR q1, vR q2, vI 2, vI pos, .val (.long ((Int32.ofNat cn).toInt64)), .second, .unset] [(.int (((64 : Int32) - pos2) / (2 : Int32)))]))
 refine go _ _ (fun _ k => XS.istore X603h.here hx rfl (hb hby d4_20) rfl (l' := #[vR r0, vR zm, vR q1, vR q2, vI 2, vI pos, .val (.long ((Int32.ofNat cn).toInt64)), .second, vI (((64 : Int32) - pos2) / (2 : Int32))]) rfl k) ?_
 show G (T603.setTop (mkF m 22 #[vR r0, vR zm, vR q1, vR q2, vI 2, vI pos, .val (.long ((Int32.ofNat cn).toInt64)), .second, vI (((64 : Int32) - pos2) / (2 : Int32))] []))
 refine go _ _ (fun _ k => XS.lload X603h.here hx rfl (hb hby d4_22) rfl  k) ?_
 show G (T603.setTop (mkF m 24 #[vR r0, vR zm, vR q1, vR q2, vI 2, vI pos, .val (.long ((Int32.ofNat cn).toInt64)), .second, vI (((64 : Int32) - pos2) / (2 : Int32))] [(.long ((Int32.ofNat cn).toInt64))]))
 refine go _ _ (fun _ k => XS.iload X603h.here hx rfl (hb hby d4_24) rfl  k) ?_
 show G (T603.setTop (mkF m 26 #[vR r0, vR zm, vR q1, vR q2, vI 2, vI pos, .val (.long ((Int32.ofNat cn).toInt64)), .second, vI (((64 : Int32) - pos2) / (2 : Int32))] [(.int (((64 : Int32) - pos2) / (2 : Int32))), (.long ((Int32.ofNat cn).toInt64))]))
 refine go _ _ (fun _ k => XS.i2l X603h.here hx rfl (hb hby d4_26) rfl k) ?_
 show G (T603.setTop (mkF m 27 #[vR r0, vR zm, vR q1, vR q2, vI 2, vI pos, .val (.long ((Int32.ofNat cn).toInt64)), .second, vI (((64 : Int32) - pos2) / (2 : Int32))] [(.long ((((64 : Int32) - pos2) / (2 : Int32)).toInt64)), (.long ((Int32.ofNat cn).toInt64))]))
 refine own_static go X603h hx hZ hh603 hown (wd hw 61 rfl) (wd hw 62 rfl) (wd hw 63 rfl) (wd hw 64 rfl) (by decide) (rm_cu l Z a0 hw ((Int32.ofNat cn).toInt64) ((((64 : Int32) - pos2) / (2 : Int32)).toInt64) T598.heap n0 Z601) 0 (by decide) (by decide) (by decide) (by decide) (g := (mkF m 27 #[vR r0, vR zm, vR q1, vR q2, vI 2, vI pos, .val (.long ((Int32.ofNat cn).toInt64)), .second, vI (((64 : Int32) - pos2) / (2 : Int32))] [(.long ((((64 : Int32) - pos2) / (2 : Int32)).toInt64)), (.long ((Int32.ofNat cn).toInt64))])) rfl (by rw [hml]; rfl) [(.long ((Int32.ofNat cn).toInt64)), (.long ((((64 : Int32) - pos2) / (2 : Int32)).toInt64))] [] rfl (lenOf pd_4 rfl) rfl (by show 2 * 0 + _ ≤ _; exact Nat.le_of_eq rfl) (hb hby d4_27) ?_
 intro T604 L604 v604 X604 q604
 obtain ⟨rfl, N604, hh604⟩ := q604
 obtain ⟨lc604, X604h, N604h⟩ := own_hide X604 (Fr.app N603h N604)
 show G (T604.setTop (mkF m 30 #[vR r0, vR zm, vR q1, vR q2, vI 2, vI pos, .val (.long ((Int32.ofNat cn).toInt64)), .second, vI (((64 : Int32) - pos2) / (2 : Int32))] [(.int (cmpJ (((Int32.ofNat cn).toInt64) + (-9223372036854775808 : Int64)) (((((64 : Int32) - pos2) / (2 : Int32)).toInt64) + (-9223372036854775808 : Int64))))]))
 refine go _ _ (fun _ k => XS.ifYes X604h.here hx rfl (pc0 := 30) (pc' := 55) rfl (hb hby d4_30) rfl (Free.XT.i0_le_t (own_cmpU 2 rfl (by decide) hcn hp2 hrm)) (by decide) (by decide) k) ?_
 show G (T604.setTop (mkF m 55 #[vR r0, vR zm, vR q1, vR q2, vI 2, vI pos, .val (.long ((Int32.ofNat cn).toInt64)), .second, vI (((64 : Int32) - pos2) / (2 : Int32))] []))
 refine go _ _ (fun _ k => XS.aloadN X604h.here hx rfl (hb hby d4_55) rfl rfl  k) ?_
 show G (T604.setTop (mkF m 56 #[vR r0, vR zm, vR q1, vR q2, vI 2, vI pos, .val (.long ((Int32.ofNat cn).toInt64)), .second, vI (((64 : Int32) - pos2) / (2 : Int32))] [(.ref r0)]))
 obtain ⟨T605, X605, e605, st605⟩ := getF X604h hx hZ hown (host := "") (Or.inl (wd hw 50 rfl)) Via.refl hh604 Fd598 (g := (mkF m 56 #[vR r0, vR zm, vR q1, vR q2, vI 2, vI pos, .val (.long ((Int32.ofNat cn).toInt64)), .second, vI (((64 : Int32) - pos2) / (2 : Int32))] [(.ref r0)])) rfl rfl (hb hby d4_56)
 refine go _ _ st605 ?_
 show G (T605.setTop (mkF m 59 #[vR r0, vR zm, vR q1, vR q2, vI 2, vI pos, .val (.long ((Int32.ofNat cn).toInt64)), .second, vI (((64 : Int32) - pos2) / (2 : Int32))] [(.int dp)]))
 refine go _ _ (fun _ k => XS.aloadN X605.here hx rfl (hb hby d4_59) rfl rfl  k) ?_
 show G (T605.setTop (mkF m 60 #[vR r0, vR zm, vR q1, vR q2, vI 2, vI pos, .val (.long ((Int32.ofNat cn).toInt64)), .second, vI (((64 : Int32) - pos2) / (2 : Int32))] [(.ref r0), (.int dp)]))
 obtain ⟨T606, X606, e606, st606⟩ := getF X605 hx hZ hown (host := "") (Or.inl (wd hw 11 rfl)) Via.refl e605 Fl598 (g := (mkF m 60 #[vR r0, vR zm, vR q1, vR q2, vI 2, vI pos, .val (.long ((Int32.ofNat cn).toInt64)), .second, vI (((64 : Int32) - pos2) / (2 : Int32))] [(.ref r0), (.int dp)])) rfl rfl (hb hby d4_60)
 refine go _ _ st606 ?_
 show G (T606.setTop (mkF m 63 #[vR r0, vR zm, vR q1, vR q2, vI 2, vI pos, .val (.long ((Int32.ofNat cn).toInt64)), .second, vI (((64 : Int32) - pos2) / (2 : Int32))] [(.ref il), (.int dp)]))
 refine own_arrlen go X606 hx hZ e606 (g := (mkF m 63 #[vR r0, vR zm, vR q1, vR q2, vI 2, vI pos, .val (.long ((Int32.ofNat cn).toInt64)), .second, vI (((64 : Int32) - pos2) / (2 : Int32))] [(.ref il), (.int dp)])) rfl B598 rfl (hb hby d4_63) ?_
 show G (T606.setTop (mkF m 64 #[vR r0, vR zm, vR q1, vR q2, vI 2, vI pos, .val (.long ((Int32.ofNat cn).toInt64)), .second, vI (((64 : Int32) - pos2) / (2 : Int32))] [(.int (4 : Int32)), (.int dp)]))
 refine go _ _ (fun _ k => XS.icmpYes X606.here hx rfl (pc0 := 64) (pc' := 84) rfl (hb hby d4_64) rfl (Free.XT.ii_ne_t ((not_congr (own_lit 4 (kk := 4) rfl hdp)).mpr (by omega))) (by decide) (by decide) k) ?_
 show G (T606.setTop (mkF m 84 #[vR r0, vR zm, vR q1, vR q2, vI 2, vI pos, .val (.long ((Int32.ofNat cn).toInt64)), .second, vI (((64 : Int32) - pos2) / (2 : Int32))] []))
 refine go _ _ (fun _ k => XS.aloadN X606.here hx rfl (hb hby d4_84) rfl rfl  k) ?_
 show G (T606.setTop (mkF m 85 #[vR r0, vR zm, vR q1, vR q2, vI 2, vI pos, .val (.long ((Int32.ofNat cn).toInt64)), .second, vI (((64 : Int32) - pos2) / (2 : Int32))] [(.ref r0)]))
 obtain ⟨T607, X607, e607, st607⟩ := getF X606 hx hZ hown (host := "") (Or.inl (wd hw 11 rfl)) Via.refl e606 Fl598 (g := (mkF m 85 #[vR r0, vR zm, vR q1, vR q2, vI 2, vI pos, .val (.long ((Int32.ofNat cn).toInt64)), .second, vI (((64 : Int32) - pos2) / (2 : Int32))] [(.ref r0)])) rfl rfl (hb hby d4_85)
 refine go _ _ st607 ?_
 show G (T607.setTop (mkF m 88 #[vR r0, vR zm, vR q1, vR q2, vI 2, vI pos, .val (.long ((Int32.ofNat cn).toInt64)), .second, vI (((64 : Int32) - pos2) / (2 : Int32))] [(.ref il)]))
 refine go _ _ (fun _ k => XS.aloadN X607.here hx rfl (hb hby d4_88) rfl rfl  k) ?_
 show G (T607.setTop (mkF m 89 #[vR r0, vR zm, vR q1, vR q2, vI 2, vI pos, .val (.long ((Int32.ofNat cn).toInt64)), .second, vI (((64 : Int32) - pos2) / (2 : Int32))] [(.ref r0), (.ref il)]))
 refine go _ _ (fun _ k => XS.dup X607.here hx rfl (hb hby d4_89) rfl rfl k) ?_
 show G (T607.setTop (mkF m 90 #[vR r0, vR zm, vR q1, vR q2, vI 2, vI pos, .val (.long ((Int32.ofNat cn).toInt64)), .second, vI (((64 : Int32) - pos2) / (2 : Int32))] [(.ref r0), (.ref r0), (.ref il)]))
 obtain ⟨T608, X608, e608, st608⟩ := getF X607 hx hZ hown (host := "") (Or.inl (wd hw 50 rfl)) Via.refl e607 Fd598 (g := (mkF m 90 #[vR r0, vR zm, vR q1, vR q2, vI 2, vI pos, .val (.long ((Int32.ofNat cn).toInt64)), .second, vI (((64 : Int32) - pos2) / (2 : Int32))] [(.ref r0), (.ref r0), (.ref il)])) rfl rfl (hb hby d4_90)
 refine go _ _ st608 ?_
 show G (T608.setTop (mkF m 93 #[vR r0, vR zm, vR q1, vR q2, vI 2, vI pos, .val (.long ((Int32.ofNat cn).toInt64)), .second, vI (((64 : Int32) - pos2) / (2 : Int32))] [(.int dp), (.ref r0), (.ref il)]))
 refine go _ _ (fun _ k => XS.dupX1 X608.here hx rfl (hb hby d4_93) rfl rfl rfl k) ?_
 show G (T608.setTop (mkF m 94 #[vR r0, vR zm, vR q1, vR q2, vI 2, vI pos, .val (.long ((Int32.ofNat cn).toInt64)), .second, vI (((64 : Int32) - pos2) / (2 : Int32))] [(.int dp), (.ref r0), (.int dp), (.ref il)]))
 refine go _ _ (fun _ k => XS.iconst X608.here hx rfl (hb hby d4_94) k) ?_
 show G (T608.setTop (mkF m 95 #[vR r0, vR zm, vR q1, vR q2, vI 2, vI pos, .val (.long ((Int32.ofNat cn).toInt64)), .second, vI (((64 : Int32) - pos2) / (2 : Int32))] [(.int (1 : Int32)), (.int dp), (.ref r0), (.int dp), (.ref il)]))
 refine go _ _ (fun _ k => XS.iadd X608.here hx rfl (hb hby d4_95) rfl k) ?_
 show G (T608.setTop (mkF m 96 #[vR r0, vR zm, vR q1, vR q2, vI 2, vI pos, .val (.long ((Int32.ofNat cn).toInt64)), .second, vI (((64 : Int32) - pos2) / (2 : Int32))] [(.int (dp + (1 : Int32))), (.ref r0), (.int dp), (.ref il)]))
 obtain ⟨T609, h609, X609, e609, W609, st609⟩ := putF X608 hx hZ hown (host := "") (Or.inl (wd hw 50 rfl)) Via.refl e608 Fd598 Ee598 (Or.inl (wd hw 51 rfl)) (wd hw 2 rfl) (ty := .int) (by decide) rfl rfl (g := (mkF m 96 #[vR r0, vR zm, vR q1, vR q2, vI 2, vI pos, .val (.long ((Int32.ofNat cn).toInt64)), .second, vI (((64 : Int32) - pos2) / (2 : Int32))] [(.int (dp + (1 : Int32))), (.ref r0), (.int dp), (.ref il)])) rfl rfl (hb hby d4_96)
 have F609 := Fd598.same W609
 have K610 : Keep h0 h609 [r0, il] := K600.wr W609 (Or.inl (List.mem_of_getElem? (i := 0) rfl))
 obtain ⟨lc609, X609h, N609h⟩ := own_hide X609 (Fr.snoc X609 N604h g_r0)
 have Z611 : n0 ≤ h609.size := Nat.le_trans Z601 (Nat.le_of_eq W609.size.symm)
 refine go _ _ st609 ?_
 show G (T609.setTop (mkF m 99 #[vR r0, vR zm, vR q1, vR q2, vI 2, vI pos, .val (.long ((Int32.ofNat cn).toInt64)), .second, vI (((64 : Int32) - pos2) / (2 : Int32))] [(.int dp), (.ref il)]))
 refine go _ _ (fun _ k => XS.lload X609h.here hx rfl (hb hby d4_99) rfl  k) ?_
 show G (T609.setTop (mkF m 101 #[vR r0, vR zm, vR q1, vR q2, vI 2, vI pos, .val (.long ((Int32.ofNat cn).toInt64)), .second, vI (((64 : Int32) - pos2) / (2 : Int32))] [(.long ((Int32.ofNat cn).toInt64)), (.int dp), (.ref il)]))
 refine go _ _ (fun _ k => XS.l2i X609h.here hx rfl (hb hby d4_101) rfl k) ?_
 show G (T609.setTop (mkF m 102 #[vR r0, vR zm, vR q1, vR q2, vI 2, vI pos, .val (.long ((Int32.ofNat cn).toInt64)), .second, vI (((64 : Int32) - pos2) / (2 : Int32))] [(.int (((Int32.ofNat cn).toInt64).toInt32)), (.int dp), (.ref il)]))
 refine go _ _ (fun _ k => XS.iload X609h.here hx rfl (hb hby d4_102) rfl  k) ?_
 show G (T609.setTop (mkF m 104 #[vR r0, vR zm, vR q1, vR q2, vI 2, vI pos, .val (.long ((Int32.ofNat cn).toInt64)), .second, vI (((64 : Int32) - pos2) / (2 : Int32))] [(.int (2 : Int32)), (.int (((Int32.ofNat cn).toInt64).toInt32)), (.int dp), (.ref il)]))
 refine go _ _ (fun _ k => XS.imul X609h.here hx rfl (hb hby d4_104) rfl k) ?_
 show G (T609.setTop (mkF m 105 #[vR r0, vR zm, vR q1, vR q2, vI 2, vI pos, .val (.long ((Int32.ofNat cn).toInt64)), .second, vI (((64 : Int32) - pos2) / (2 : Int32))] [(.int ((((Int32.ofNat cn).toInt64).toInt32) * (2 : Int32))), (.int dp), (.ref il)]))
 have f612 := (B598.other W609 n20)
 refine own_iastore go X609h hx hZ e609 dn hdp (by omega) (g := (mkF m 105 #[vR r0, vR zm, vR q1, vR q2, vI 2, vI pos, .val (.long ((Int32.ofNat cn).toInt64)), .second, vI (((64 : Int32) - pos2) / (2 : Int32))] [(.int ((((Int32.ofNat cn).toInt64).toInt32) * (2 : Int32))), (.int dp), (.ref il)])) rfl f612 rfl (hb hby d4_105) ?_
 intro T613 h613 X613 e613 W613 A613
 have K614 : Keep h0 h613 [r0, il] := K610.wr W613 (Or.inl (List.mem_of_getElem? (i := 1) rfl))
 obtain ⟨lc613, X613h, N613h⟩ := own_hide X613 (Fr.snoc X613 N609h g_il)
 have Z615 : n0 ≤ h613.size := Nat.le_trans Z611 (Nat.le_of_eq W613.size.symm)
 have A613c := A613.cong (g := (fun i => .int ((upd (upd t (dn - 1) (t (dn - 1) - 1)) dn (Int32.ofNat (cn * 2))) i))) (own_upd (own_val 2 rfl hcn (by decide)))
 show G (T613.setTop (mkF m 106 #[vR r0, vR zm, vR q1, vR q2, vI 2, vI pos, .val (.long ((Int32.ofNat cn).toInt64)), .second, vI (((64 : Int32) - pos2) / (2 : Int32))] []))
 refine own_retV rt X613h hx hret (hb hby d4_106) (by decide) (by decide) ?_
 have f616 := ((Ee598.wr W609).wr W613)
 have f617 := ((Fp598.other W609 (Or.inr (slot_ne (Or.inl (wd hw 36 rfl)) (Or.inl (wd hw 51 rfl)) (by decide) (t := .int) (t' := .int) (by decide) (by decide)))).other W613 (Or.inl (Ne.symm n20)))
 have f618 := ((Fi598.other W609 (Or.inr (slot_ne (Or.inr (wd hw 14 rfl)) (Or.inl (wd hw 51 rfl)) (by decide) (t := (.array .byte)) (t' := .int) (by decide) (by decide)))).other W613 (Or.inl (Ne.symm n20)))
 have f619 := ((Fl598.other W609 (Or.inr (slot_ne (Or.inl (wd hw 12 rfl)) (Or.inl (wd hw 51 rfl)) (by decide) (t := (.array .int)) (t' := .int) (by decide) (by decide)))).other W613 (Or.inl (Ne.symm n20)))
 have f620 := (F609.other W613 (Or.inl (Ne.symm n20)))
 rw [e613]
 exact ⟨rfl, N613h, K614, _, _, _, hp2, own_add hdp (j := 1) rfl (by omega), upd_eq, (by rw [upd_ne (by omega), upd_eq]), f616, f617, f618, f619, f620, A613c⟩
theorem ef_rm_op5d (m : MethodId) (x0 : Addr) : entryFrame m #[(.ref x0)] 1 = mkF m 0 #[.val (.ref x0)] [] := by first | (simp [entryFrame, mkF, argsToLocals, Value.category]; done) | rfl
set_option maxRecDepth 65536 in
set_option maxHeartbeats 40000000 in
theorem rm_op5d (l : Launch) (Z : State) (a0 : Array Value) (hw : ∀ d ∈ tables_1, d.before a0 Z = true) (r0 r1 il zu za zm zt : Addr) (pos dp : Int32) (pn dn : Nat) (g t : Nat → Int32) (w cn : Nat) (h0 : Heap) (n0 : Nat) (Z0 : n0 ≤ h0.size) (g_r0 : n0 ≤ r0) (g_il : n0 ≤ il) (E0 : Exa Z h0 r0 "com/example/brevidns/brevidns/CborReader") (Fp : Fld Z h0 r0 "com/example/brevidns/brevidns/CborReader" "position" "I" (.int pos)) (Fi : Fld Z h0 r0 "com/example/brevidns/brevidns/CborReader" "input" "[B" (.ref r1)) (Fl : Fld Z h0 r0 "com/example/brevidns/brevidns/CborReader" "itemsLeft" "[I" (.ref il)) (Fd : Fld Z h0 r0 "com/example/brevidns/brevidns/CborReader" "depth" "I" (.int dp)) (A : Ary Z h0 r1 .byte 64 (fun i => .int (g i))) (B : Ary Z h0 il .int 4 (fun i => .int (t i))) (n10 : r1 ≠ r0) (n20 : il ≠ r0) (n12 : r1 ≠ il) (hpos : pos.toInt = pn) (hdp : dp.toInt = dn) (Szu : Sta Z h0 "com/example/brevidns/brevidns/CborReader$Kind" "UNSIGNED_INTEGER" "Lcom/example/brevidns/brevidns/CborReader$Kind;" (.ref zu)) (Sza : Sta Z h0 "com/example/brevidns/brevidns/CborReader$Kind" "ARRAY" "Lcom/example/brevidns/brevidns/CborReader$Kind;" (.ref za)) (Szm : Sta Z h0 "com/example/brevidns/brevidns/CborReader$Kind" "MAP" "Lcom/example/brevidns/brevidns/CborReader$Kind;" (.ref zm)) (Szt : Sta Z h0 "com/example/brevidns/brevidns/CborReader$Kind" "TAG" "Lcom/example/brevidns/brevidns/CborReader$Kind;" (.ref zt)) (nut : zu ≠ zt) (nat : za ≠ zt) (nmt : zm ≠ zt) (hd : Head g 5 pn w cn) (hpw : pn + w ≤ 63) (hrm : cn * 2 + (pn + w) ≤ 64) (hd1 : 1 ≤ dn) (hd3 : dn ≤ 3) (ht : ¬ t (dn - 1) = 0) :
  ConW l Z (⟨"com/example/brevidns/brevidns/CborReader", "openMap", "()V"⟩ : MethodName) prog_3_method_6_code 1 none ({ frames := 4, cells := 4, slots := 56, locals := 66 } : Room) #[(.ref r0)] h0 (fun v h L => v = none ∧ Fr n0 L ∧ Keep h0 h [r0, il] ∧ ∃ (pos2 dp2 : Int32) (t2 : Nat → Int32), pos2.toInt = ((pn + w : Nat) : Int) ∧ dp2.toInt = ((dn + 1 : Nat) : Int) ∧ t2 dn = Int32.ofNat (cn * 2) ∧ t2 (dn - 1) = t (dn - 1) - 1 ∧ Exa Z h r0 "com/example/brevidns/brevidns/CborReader" ∧ Fld Z h r0 "com/example/brevidns/brevidns/CborReader" "position" "I" (.int pos2) ∧ Fld Z h r0 "com/example/brevidns/brevidns/CborReader" "input" "[B" (.ref r1) ∧ Fld Z h r0 "com/example/brevidns/brevidns/CborReader" "itemsLeft" "[I" (.ref il) ∧ Fld Z h r0 "com/example/brevidns/brevidns/CborReader" "depth" "I" (.int dp2) ∧ Ary Z h il .int 4 (fun i => .int (t2 i))) := by
 refine own_bodyW pn_13 ?_
 intro p e s m below meth c s₁ hx hby hml hown hnm hret hZ e0 X0 G go kS rb Zk0
 have rt := own_rt rb
 have N0 := Fr.nil n0
 rw [ef_rm_op5d m r0]
 show G (s₁.setTop (mkF m 0 #[vR r0] []))
 refine go _ _ (fun _ k => XS.aloadN X0.here hx rfl (hb hby d13_0) rfl rfl  k) ?_
 show G (s₁.setTop (mkF m 1 #[vR r0] [(.ref r0)]))
 obtain ⟨T621, X621, e621, st621⟩ := getS X0 hx hZ hown (host := "") (wd hw 81 rfl) Via.refl e0 Szm (g := (mkF m 1 #[vR r0] [(.ref r0)])) rfl (hb hby d13_1)
 refine go _ _ st621 ?_
 show G (T621.setTop (mkF m 4 #[vR r0] [(.ref zm), (.ref r0)]))
 refine own_ldcS go X621 hx hZ e621 hown (wd hw 83 rfl) (own_wS hw) rb Zk0 (g := (mkF m 4 #[vR r0] [(.ref zm), (.ref r0)])) rfl (hb hby d13_4) 28 (by decide) (by decide) (by decide) (by decide) ?_
 intro s kS T622 h622 a622 hZ hown rb Y622 X622 e622 E622
 have rt := own_rt rb
 have Z623 : n0 ≤ h622.size := Nat.le_trans Z0 E622.1
 have K624 : Keep h0 h622 [r0, il] := (Keep.refl h0 [r0, il]).ext E622
 show G (T622.setTop (mkF m 6 #[vR r0] [(.ref a622), (.ref zm), (.ref r0)]))
 refine own_ldcS go X622 hx hZ e622 hown (wd hw 84 rfl) (own_wS hw) rb Y622 (g := (mkF m 6 #[vR r0] [(.ref a622), (.ref zm), (.ref r0)])) rfl (hb hby d13_6) 20 (by decide) (by decide) (by decide) (by decide) ?_
 intro s kS T625 h625 a625 hZ hown rb Y625 X625 e625 E625
 have rt := own_rt rb
 have Z626 : n0 ≤ h625.size := Nat.le_trans Z623 E625.1
 have K627 : Keep h0 h625 [r0, il] := K624.ext E625
 show G (T625.setTop (mkF m 8 #[vR r0] [(.ref a625), (.ref a622), (.ref zm), (.ref r0)]))
 refine go _ _ (fun _ k => XS.iconst X625.here hx rfl (hb hby d13_8) k) ?_
 show G (T625.setTop (mkF m 9 #[vR r0] [(.int (2 : Int32)), (.ref a625), (.ref a622), (.ref zm), (.ref r0)]))
 have f628 := ((E0.ext E622).ext E625)
 have f629 := ((Fp.ext E622).ext E625)
 have f630 := ((Fi.ext E622).ext E625)
 have f631 := ((Fl.ext E622).ext E625)
 have f632 := ((Fd.ext E622).ext E625)
 have f633 := ((A.ext E622).ext E625)
 have f634 := ((B.ext E622).ext E625)
 have f635 := ((Szu.ext E622).ext E625)
 have f636 := ((Sza.ext E622).ext E625)
 have f637 := ((Szm.ext E622).ext E625)
 have f638 := ((Szt.ext E622).ext E625)
 refine own_private go X625 hx hZ e625 hown (wd hw 31 rfl) (wd hw 32 rfl) (wd hw 18 rfl) rfl (wd hw 33 rfl) (wd hw 3 rfl) (wd hw 34 rfl) (by decide) (rm_en5d l Z a0 hw a622 a625 r0 r1 il zu za zm zt pos dp pn dn g t w cn h625 n0 Z626 g_r0 g_il f628 f629 f630 f631 f632 f633 f634 n10 n20 n12 hpos hdp f635 f636 f637 f638 nut nat nmt hd hpw hrm hd1 hd3 ht) 0 (by decide) (by decide) (by decide) (by decide) f628 (g := (mkF m 9 #[vR r0] [(.int (2 : Int32)), (.ref a625), (.ref a622), (.ref zm), (.ref r0)])) rfl (by rw [hml]; rfl) [(.ref zm), (.ref a622), (.ref a625), (.int (2 : Int32))] [] rfl (lenOf pd_7 rfl) rfl (by show 2 * 0 + _ ≤ _; exact Nat.le_of_eq rfl) (hb hby d13_9) ?_
 intro T639 L639 v639 X639 q639
 obtain ⟨rfl, N639, K639, pos2, dp2, t2, hp2, hdp2, ht2, ht3, Ee, Fp2, Fi2, Fl2, Fd2, B2⟩ := q639
 have ns640 : ∀ w ∈ [r0, il], ∃ c : Cell, h625[w]? = some c ∧ c.vm.isStatics = false := (allS (own_exa_ns f628) (allS (own_ary_ns f634) all0))
 obtain ⟨lc639, X639h, N639h⟩ := own_hide X639 (Fr.app N0 N639)
 have K641 : Keep h0 T639.heap [r0, il] := K627.trans K639 (allS (Or.inl (List.mem_of_getElem? (i := 0) rfl)) (allS (Or.inl (List.mem_of_getElem? (i := 1) rfl)) all0))
 have Z642 : n0 ≤ T639.heap.size := Nat.le_trans Z626 K639.1
 have Y643 : kS ≤ T639.heap.size := Nat.le_trans Y625 K639.1
 show G (T639.setTop (mkF m 12 #[vR r0] []))
 refine own_retV rt X639h hx hret (hb hby d13_12) (by decide) (by decide) ?_
 refine ⟨Y643, ?_⟩
 exact ⟨rfl, N639h, K641, _, _, _, hp2, hdp2, ht2, ht3, Ee, Fp2, Fi2, Fl2, Fd2, B2⟩
theorem ef_rm_en5c (m : MethodId) (x0 : Addr) (x1 : Addr) (x2 : Addr) (x3 : Addr) (x4 : Int32) : entryFrame m #[(.ref x0), (.ref x1), (.ref x2), (.ref x3), (.int x4)] 9 = mkF m 0 #[.val (.ref x0), .val (.ref x1), .val (.ref x2), .val (.ref x3), .val (.int x4), .unset, .unset, .unset, .unset] [] := by first | (simp [entryFrame, mkF, argsToLocals, Value.category]; done) | rfl
set_option maxRecDepth 65536 in
set_option maxHeartbeats 40000000 in
theorem rm_en5c (l : Launch) (Z : State) (a0 : Array Value) (hw : ∀ d ∈ tables_1, d.before a0 Z = true) (q1 q2 r0 r1 il zu za zm zt : Addr) (pos : Int32) (pn : Nat) (g t : Nat → Int32) (w cn : Nat) (h0 : Heap) (n0 : Nat) (Z0 : n0 ≤ h0.size) (g_r0 : n0 ≤ r0) (g_il : n0 ≤ il) (E0 : Exa Z h0 r0 "com/example/brevidns/brevidns/CborReader") (Fp : Fld Z h0 r0 "com/example/brevidns/brevidns/CborReader" "position" "I" (.int pos)) (Fi : Fld Z h0 r0 "com/example/brevidns/brevidns/CborReader" "input" "[B" (.ref r1)) (Fl : Fld Z h0 r0 "com/example/brevidns/brevidns/CborReader" "itemsLeft" "[I" (.ref il)) (Fd : Fld Z h0 r0 "com/example/brevidns/brevidns/CborReader" "depth" "I" (.int (4 : Int32))) (A : Ary Z h0 r1 .byte 64 (fun i => .int (g i))) (B : Ary Z h0 il .int 4 (fun i => .int (t i))) (n10 : r1 ≠ r0) (n20 : il ≠ r0) (n12 : r1 ≠ il) (hpos : pos.toInt = pn) (Szu : Sta Z h0 "com/example/brevidns/brevidns/CborReader$Kind" "UNSIGNED_INTEGER" "Lcom/example/brevidns/brevidns/CborReader$Kind;" (.ref zu)) (Sza : Sta Z h0 "com/example/brevidns/brevidns/CborReader$Kind" "ARRAY" "Lcom/example/brevidns/brevidns/CborReader$Kind;" (.ref za)) (Szm : Sta Z h0 "com/example/brevidns/brevidns/CborReader$Kind" "MAP" "Lcom/example/brevidns/brevidns/CborReader$Kind;" (.ref zm)) (Szt : Sta Z h0 "com/example/brevidns/brevidns/CborReader$Kind" "TAG" "Lcom/example/brevidns/brevidns/CborReader$Kind;" (.ref zt)) (nut : zu ≠ zt) (nat : za ≠ zt) (nmt : zm ≠ zt) (hd : Head g 5 pn w cn) (hpw : pn + w ≤ 63) (hrm : cn * 2 + (pn + w) ≤ 64) (ht : ¬ t 3 = 0) :
  Con l Z (⟨"com/example/brevidns/brevidns/CborReader", "enter", "(Lcom/example/brevidns/brevidns/CborReader$Kind;Ljava/lang/String;Ljava/lang/String;I)V"⟩ : MethodName) prog_3_method_7_code 9 none ({ frames := 3, cells := 1, slots := 8, locals := 55 } : Room) #[(.ref r0), (.ref zm), (.ref q1), (.ref q2), (.int (2 : Int32))] h0 (fun v h L => v = none ∧ Fr n0 L ∧ Keep h0 h [r0, il] ∧ ∃ (pos2 dp2 : Int32) (il2 : Addr) (t2 : Nat → Int32), pos2.toInt = ((pn + w : Nat) : Int) ∧ dp2.toInt = ((4 + 1 : Nat) : Int) ∧ t2 4 = Int32.ofNat (cn * 2) ∧ t2 (4 - 1) = t (4 - 1) - 1 ∧ n0 ≤ il2 ∧ h0.size ≤ il2 ∧ Exa Z h r0 "com/example/brevidns/brevidns/CborReader" ∧ Fld Z h r0 "com/example/brevidns/brevidns/CborReader" "position" "I" (.int pos2) ∧ Fld Z h r0 "com/example/brevidns/brevidns/CborReader" "input" "[B" (.ref r1) ∧ Fld Z h r0 "com/example/brevidns/brevidns/CborReader" "itemsLeft" "[I" (.ref il2) ∧ Fld Z h r0 "com/example/brevidns/brevidns/CborReader" "depth" "I" (.int dp2) ∧ Ary Z h il2 .int 8 (fun i => .int (t2 i))) := by
 refine own_body pn_4 ?_
 intro p e s m below meth c s₁ hx hby hml hown hnm hret hZ e0 X0 G go rt
 have N0 := Fr.nil n0
 rw [ef_rm_en5c m r0 zm q1 q2 (2 : Int32)]
 have hww : w = 1 ∨ w = 2 := hd.ww
 have hcn := hd.cn
 show G (s₁.setTop (mkF m 0 #[vR r0, vR zm, vR q1, vR q2, vI 2, .unset, .unset, .unset, .unset] []))
 refine go _ _ (fun _ k => XS.aloadN X0.here hx rfl (hb hby d4_0) rfl rfl  k) ?_
 show G (s₁.setTop (mkF m 1 #[vR r0, vR zm, vR q1, vR q2, vI 2, .unset, .unset, .unset, .unset] [(.ref r0)]))
 obtain ⟨T644, X644, e644, st644⟩ := getF X0 hx hZ hown (host := "") (Or.inl (wd hw 35 rfl)) Via.refl e0 Fp (g := (mkF m 1 #[vR r0, vR zm, vR q1, vR q2, vI 2, .unset, .unset, .unset, .unset] [(.ref r0)])) rfl rfl (hb hby d4_1)
 refine go _ _ st644 ?_
 show G (T644.setTop (mkF m 4 #[vR r0, vR zm, vR q1, vR q2, vI 2, .unset, .unset, .unset, .unset] [(.int pos)]))
 refine go _ _ (fun _ k => XS.istore X644.here hx rfl (hb hby d4_4) rfl (l' := #[vR r0, vR zm, vR q1, vR q2, vI 2, vI pos, .unset, .unset, .unset]) rfl k) ?_
 show G (T644.setTop (mkF m 6 #[vR r0, vR zm, vR q1, vR q2, vI 2, vI pos, .unset, .unset, .unset] []))
 refine go _ _ (fun _ k => XS.aloadN X644.here hx rfl (hb hby d4_6) rfl rfl  k) ?_
 show G (T644.setTop (mkF m 7 #[vR r0, vR zm, vR q1, vR q2, vI 2, vI pos, .unset, .unset, .unset] [(.ref r0)]))
 refine go _ _ (fun _ k => XS.aloadN X644.here hx rfl (hb hby d4_7) rfl rfl  k) ?_
 show G (T644.setTop (mkF m 8 #[vR r0, vR zm, vR q1, vR q2, vI 2, vI pos, .unset, .unset, .unset] [(.ref zm), (.ref r0)]))
 refine own_private go X644 hx hZ e644 hown (wd hw 37 rfl) (wd hw 38 rfl) (wd hw 18 rfl) rfl (wd hw 39 rfl) (wd hw 3 rfl) (wd hw 40 rfl) (by decide) (rm_rh5d l Z a0 hw r0 r1 il zu za zm zt pos (4 : Int32) pn 4 4 g t w cn h0 n0 Z0 g_r0 g_il E0 Fp Fi Fl Fd A B n10 n20 n12 hpos rfl Szu Sza Szm Szt nut nat nmt hd hpw (by decide) (by decide) (by decide) ht) 0 (by decide) (by decide) (by decide) (by decide) E0 (g := (mkF m 8 #[vR r0, vR zm, vR q1, vR q2, vI 2, vI pos, .unset, .unset, .unset] [(.ref zm), (.ref r0)])) rfl (by rw [hml]; rfl) [(.ref zm)] [] rfl (lenOf pd_6 rfl) rfl (by show 2 * 0 + _ ≤ _; exact Nat.le_of_eq rfl) (hb hby d4_8) ?_
 intro T645 L645 v645 X645 q645
 obtain ⟨rfl, N645, K645, pos2, hp2, Ee645, Fp645, Fi645, Fl645, Fd645, B645⟩ := q645
 have ns646 : ∀ w ∈ [r0, il], ∃ c : Cell, h0[w]? = some c ∧ c.vm.isStatics = false := (allS (own_exa_ns E0) (allS (own_ary_ns B) all0))
 obtain ⟨lc645, X645h, N645h⟩ := own_hide X645 (Fr.app N0 N645)
 have K647 : Keep h0 T645.heap [r0, il] := (Keep.refl h0 [r0, il]).trans K645 (allS (Or.inl (List.mem_of_getElem? (i := 0) rfl)) (allS (Or.inl (List.mem_of_getElem? (i := 1) rfl)) all0))
 have Z648 : n0 ≤ T645.heap.size := Nat.le_trans Z0 K645.1
 show G (T645.setTop (mkF m 11 #[vR r0, vR zm, vR q1, vR q2, vI 2, vI pos, .unset, .unset, .unset] [(.long ((Int32.ofNat cn).toInt64))]))
 refine go _ _ (fun _ k => XS.lstore X645h.here hx rfl (hb hby d4_11) rfl (l' := #[vR r0, vR zm, vR q1, vR q2, vI 2, vI pos, .val (.long ((Int32.ofNat cn).toInt64)), .second, .unset]) rfl k) ?_
 show G (T645.setTop (mkF m 13 #[vR r0, vR zm, vR q1, vR q2, vI 2, vI pos, .val (.long ((Int32.ofNat cn).toInt64)), .second, .unset] []))
 refine go _ _ (fun _ k => XS.aloadN X645h.here hx rfl (hb hby d4_13) rfl rfl  k) ?_
 show G (T645.setTop (mkF m 14 #[vR r0, vR zm, vR q1, vR q2, vI 2, vI pos, .val (.long ((Int32.ofNat cn).toInt64)), .second, .unset] [(.ref r0)]))
 have f649 := (A.keep K645 (ninS n10 (ninS n12 nin0)))
 refine own_private go X645h hx hZ rfl hown (wd hw 57 rfl) (wd hw 58 rfl) (wd hw 18 rfl) rfl (wd hw 59 rfl) (wd hw 3 rfl) (wd hw 60 rfl) (by decide) (rm_re l Z a0 hw r0 r1 pos2 g T645.heap n0 Z648 Fi645 Fp645 f649) 0 (by decide) (by decide) (by decide) (by decide) Ee645 (g := (mkF m 14 #[vR r0, vR zm, vR q1, vR q2, vI 2, vI pos, .val (.long ((Int32.ofNat cn).toInt64)), .second, .unset] [(.ref r0)])) rfl (by rw [hml]; rfl) [] [] rfl (lenOf pd_3 rfl) rfl (by show 2 * 0 + _ ≤ _; exact Nat.le_of_eq rfl) (hb hby d4_14) ?_
 intro T650 L650 v650 X650 q650
 obtain ⟨rfl, N650, hh650⟩ := q650
 obtain ⟨lc650, X650h, N650h⟩ := own_hide X650 (Fr.app N645h N650)
 show G (T650.setTop (mkF m 17 #[vR r0, vR zm, vR q1, vR q2, vI 2, vI pos, .val (.long ((Int32.ofNat cn).toInt64)), .second, .unset] [(.int ((64 : Int32) - pos2))]))
 refine go _ _ (fun _ k => XS.iload X650h.here hx rfl (hb hby d4_17) rfl  k) ?_
 show G (T650.setTop (mkF m 19 #[vR r0, vR zm, vR q1, vR q2, vI 2, vI pos, .val (.long ((Int32.ofNat cn).toInt64)), .second, .unset] [(.int (2 : Int32)), (.int ((64 : Int32) - pos2))]))
 refine go _ _ (fun _ k => XS.idiv X650h.here hx rfl (hb hby d4_19) rfl (by decide) k) ?_
 show G (T650.setTop (mkF m 20 #[vR r0, vR zm, vR q1, vR q2, vI 2, vI pos, .val (.long ((Int32.ofNat cn).toInt64)), .second, .unset] [(.int (((64 : Int32) - pos2) / (2 : Int32)))]))
 refine go _ _ (fun _ k => XS.istore X650h.here hx rfl (hb hby d4_20) rfl (l' := #[vR r0, vR zm, vR q1, vR q2, vI 2, vI pos, .val (.long ((Int32.ofNat cn).toInt64)), .second, vI (((64 : Int32) - pos2) / (2 : Int32))]) rfl k) ?_
 show G (T650.setTop (mkF m 22 #[vR r0, vR zm, vR q1, vR q2, vI 2, vI pos, .val (.long ((Int32.ofNat cn).toInt64)), .second, vI (((64 : Int32) - pos2) / (2 : Int32))] []))
 refine go _ _ (fun _ k => XS.lload X650h.here hx rfl (hb hby d4_22) rfl  k) ?_
 show G (T650.setTop (mkF m 24 #[vR r0, vR zm, vR q1, vR q2, vI 2, vI pos, .val (.long ((Int32.ofNat cn).toInt64)), .second, vI (((64 : Int32) - pos2) / (2 : Int32))] [(.long ((Int32.ofNat cn).toInt64))]))
 refine go _ _ (fun _ k => XS.iload X650h.here hx rfl (hb hby d4_24) rfl  k) ?_
 show G (T650.setTop (mkF m 26 #[vR r0, vR zm, vR q1, vR q2, vI 2, vI pos, .val (.long ((Int32.ofNat cn).toInt64)), .second, vI (((64 : Int32) - pos2) / (2 : Int32))] [(.int (((64 : Int32) - pos2) / (2 : Int32))), (.long ((Int32.ofNat cn).toInt64))]))
 refine go _ _ (fun _ k => XS.i2l X650h.here hx rfl (hb hby d4_26) rfl k) ?_
 show G (T650.setTop (mkF m 27 #[vR r0, vR zm, vR q1, vR q2, vI 2, vI pos, .val (.long ((Int32.ofNat cn).toInt64)), .second, vI (((64 : Int32) - pos2) / (2 : Int32))] [(.long ((((64 : Int32) - pos2) / (2 : Int32)).toInt64)), (.long ((Int32.ofNat cn).toInt64))]))
 refine own_static go X650h hx hZ hh650 hown (wd hw 61 rfl) (wd hw 62 rfl) (wd hw 63 rfl) (wd hw 64 rfl) (by decide) (rm_cu l Z a0 hw ((Int32.ofNat cn).toInt64) ((((64 : Int32) - pos2) / (2 : Int32)).toInt64) T645.heap n0 Z648) 0 (by decide) (by decide) (by decide) (by decide) (g := (mkF m 27 #[vR r0, vR zm, vR q1, vR q2, vI 2, vI pos, .val (.long ((Int32.ofNat cn).toInt64)), .second, vI (((64 : Int32) - pos2) / (2 : Int32))] [(.long ((((64 : Int32) - pos2) / (2 : Int32)).toInt64)), (.long ((Int32.ofNat cn).toInt64))])) rfl (by rw [hml]; rfl) [(.long ((Int32.ofNat cn).toInt64)), (.long ((((64 : Int32) - pos2) / (2 : Int32)).toInt64))] [] rfl (lenOf pd_4 rfl) rfl (by show 2 * 0 + _ ≤ _; exact Nat.le_of_eq rfl) (hb hby d4_27) ?_
 intro T651 L651 v651 X651 q651
 obtain ⟨rfl, N651, hh651⟩ := q651
 obtain ⟨lc651, X651h, N651h⟩ := own_hide X651 (Fr.app N650h N651)
 show G (T651.setTop (mkF m 30 #[vR r0, vR zm, vR q1, vR q2, vI 2, vI pos, .val (.long ((Int32.ofNat cn).toInt64)), .second, vI (((64 : Int32) - pos2) / (2 : Int32))] [(.int (cmpJ (((Int32.ofNat cn).toInt64) + (-9223372036854775808 : Int64)) (((((64 : Int32) - pos2) / (2 : Int32)).toInt64) + (-9223372036854775808 : Int64))))]))
 refine go _ _ (fun _ k => XS.ifYes X651h.here hx rfl (pc0 := 30) (pc' := 55) rfl (hb hby d4_30) rfl (Free.XT.i0_le_t (own_cmpU 2 rfl (by decide) hcn hp2 hrm)) (by decide) (by decide) k) ?_
 show G (T651.setTop (mkF m 55 #[vR r0, vR zm, vR q1, vR q2, vI 2, vI pos, .val (.long ((Int32.ofNat cn).toInt64)), .second, vI (((64 : Int32) - pos2) / (2 : Int32))] []))
 refine go _ _ (fun _ k => XS.aloadN X651h.here hx rfl (hb hby d4_55) rfl rfl  k) ?_
 show G (T651.setTop (mkF m 56 #[vR r0, vR zm, vR q1, vR q2, vI 2, vI pos, .val (.long ((Int32.ofNat cn).toInt64)), .second, vI (((64 : Int32) - pos2) / (2 : Int32))] [(.ref r0)]))
 obtain ⟨T652, X652, e652, st652⟩ := getF X651h hx hZ hown (host := "") (Or.inl (wd hw 50 rfl)) Via.refl hh651 Fd645 (g := (mkF m 56 #[vR r0, vR zm, vR q1, vR q2, vI 2, vI pos, .val (.long ((Int32.ofNat cn).toInt64)), .second, vI (((64 : Int32) - pos2) / (2 : Int32))] [(.ref r0)])) rfl rfl (hb hby d4_56)
 refine go _ _ st652 ?_
 show G (T652.setTop (mkF m 59 #[vR r0, vR zm, vR q1, vR q2, vI 2, vI pos, .val (.long ((Int32.ofNat cn).toInt64)), .second, vI (((64 : Int32) - pos2) / (2 : Int32))] [(.int (4 : Int32))]))
 refine go _ _ (fun _ k => XS.aloadN X652.here hx rfl (hb hby d4_59) rfl rfl  k) ?_
 show G (T652.setTop (mkF m 60 #[vR r0, vR zm, vR q1, vR q2, vI 2, vI pos, .val (.long ((Int32.ofNat cn).toInt64)), .second, vI (((64 : Int32) - pos2) / (2 : Int32))] [(.ref r0), (.int (4 : Int32))]))
 obtain ⟨T653, X653, e653, st653⟩ := getF X652 hx hZ hown (host := "") (Or.inl (wd hw 11 rfl)) Via.refl e652 Fl645 (g := (mkF m 60 #[vR r0, vR zm, vR q1, vR q2, vI 2, vI pos, .val (.long ((Int32.ofNat cn).toInt64)), .second, vI (((64 : Int32) - pos2) / (2 : Int32))] [(.ref r0), (.int (4 : Int32))])) rfl rfl (hb hby d4_60)
 refine go _ _ st653 ?_
 show G (T653.setTop (mkF m 63 #[vR r0, vR zm, vR q1, vR q2, vI 2, vI pos, .val (.long ((Int32.ofNat cn).toInt64)), .second, vI (((64 : Int32) - pos2) / (2 : Int32))] [(.ref il), (.int (4 : Int32))]))
 refine own_arrlen go X653 hx hZ e653 (g := (mkF m 63 #[vR r0, vR zm, vR q1, vR q2, vI 2, vI pos, .val (.long ((Int32.ofNat cn).toInt64)), .second, vI (((64 : Int32) - pos2) / (2 : Int32))] [(.ref il), (.int (4 : Int32))])) rfl B645 rfl (hb hby d4_63) ?_
 show G (T653.setTop (mkF m 64 #[vR r0, vR zm, vR q1, vR q2, vI 2, vI pos, .val (.long ((Int32.ofNat cn).toInt64)), .second, vI (((64 : Int32) - pos2) / (2 : Int32))] [(.int (4 : Int32)), (.int (4 : Int32))]))
 refine go _ _ (fun _ k => XS.icmpNo X653.here hx rfl (hb hby d4_64) rfl (Free.XT.ii_ne_f (by decide)) k) ?_
 show G (T653.setTop (mkF m 67 #[vR r0, vR zm, vR q1, vR q2, vI 2, vI pos, .val (.long ((Int32.ofNat cn).toInt64)), .second, vI (((64 : Int32) - pos2) / (2 : Int32))] []))
 refine go _ _ (fun _ k => XS.aloadN X653.here hx rfl (hb hby d4_67) rfl rfl  k) ?_
 show G (T653.setTop (mkF m 68 #[vR r0, vR zm, vR q1, vR q2, vI 2, vI pos, .val (.long ((Int32.ofNat cn).toInt64)), .second, vI (((64 : Int32) - pos2) / (2 : Int32))] [(.ref r0)]))
 refine go _ _ (fun _ k => XS.aloadN X653.here hx rfl (hb hby d4_68) rfl rfl  k) ?_
 show G (T653.setTop (mkF m 69 #[vR r0, vR zm, vR q1, vR q2, vI 2, vI pos, .val (.long ((Int32.ofNat cn).toInt64)), .second, vI (((64 : Int32) - pos2) / (2 : Int32))] [(.ref r0), (.ref r0)]))
 obtain ⟨T654, X654, e654, st654⟩ := getF X653 hx hZ hown (host := "") (Or.inl (wd hw 11 rfl)) Via.refl e653 Fl645 (g := (mkF m 69 #[vR r0, vR zm, vR q1, vR q2, vI 2, vI pos, .val (.long ((Int32.ofNat cn).toInt64)), .second, vI (((64 : Int32) - pos2) / (2 : Int32))] [(.ref r0), (.ref r0)])) rfl rfl (hb hby d4_69)
 refine go _ _ st654 ?_
 show G (T654.setTop (mkF m 72 #[vR r0, vR zm, vR q1, vR q2, vI 2, vI pos, .val (.long ((Int32.ofNat cn).toInt64)), .second, vI (((64 : Int32) - pos2) / (2 : Int32))] [(.ref il), (.ref r0)]))
 refine go _ _ (fun _ k => XS.iconst X654.here hx rfl (hb hby d4_72) k) ?_
 show G (T654.setTop (mkF m 73 #[vR r0, vR zm, vR q1, vR q2, vI 2, vI pos, .val (.long ((Int32.ofNat cn).toInt64)), .second, vI (((64 : Int32) - pos2) / (2 : Int32))] [(.int (2 : Int32)), (.ref il), (.ref r0)]))
 refine go _ _ (fun _ k => XS.aloadN X654.here hx rfl (hb hby d4_73) rfl rfl  k) ?_
 show G (T654.setTop (mkF m 74 #[vR r0, vR zm, vR q1, vR q2, vI 2, vI pos, .val (.long ((Int32.ofNat cn).toInt64)), .second, vI (((64 : Int32) - pos2) / (2 : Int32))] [(.ref r0), (.int (2 : Int32)), (.ref il), (.ref r0)]))
 obtain ⟨T655, X655, e655, st655⟩ := getF X654 hx hZ hown (host := "") (Or.inl (wd hw 50 rfl)) Via.refl e654 Fd645 (g := (mkF m 74 #[vR r0, vR zm, vR q1, vR q2, vI 2, vI pos, .val (.long ((Int32.ofNat cn).toInt64)), .second, vI (((64 : Int32) - pos2) / (2 : Int32))] [(.ref r0), (.int (2 : Int32)), (.ref il), (.ref r0)])) rfl rfl (hb hby d4_74)
 refine go _ _ st655 ?_
 show G (T655.setTop (mkF m 77 #[vR r0, vR zm, vR q1, vR q2, vI 2, vI pos, .val (.long ((Int32.ofNat cn).toInt64)), .second, vI (((64 : Int32) - pos2) / (2 : Int32))] [(.int (4 : Int32)), (.int (2 : Int32)), (.ref il), (.ref r0)]))
 refine go _ _ (fun _ k => XS.imul X655.here hx rfl (hb hby d4_77) rfl k) ?_
 show G (T655.setTop (mkF m 78 #[vR r0, vR zm, vR q1, vR q2, vI 2, vI pos, .val (.long ((Int32.ofNat cn).toInt64)), .second, vI (((64 : Int32) - pos2) / (2 : Int32))] [(.int ((2 : Int32) * (4 : Int32))), (.ref il), (.ref r0)]))
 show G (T655.setTop (mkF m 78 #[vR r0, vR zm, vR q1, vR q2, vI 2, vI pos, .val (.long ((Int32.ofNat cn).toInt64)), .second, vI (((64 : Int32) - pos2) / (2 : Int32))] [(.int (8 : Int32)), (.ref il), (.ref r0)]))
 refine own_static go X655 hx hZ e655 hown (wd hw 95 rfl) (wd hw 96 rfl) (wd hw 97 rfl) (wd hw 98 rfl) (by decide) (rm_cp l Z a0 hw il (upd t (4 - 1) (t (4 - 1) - 1)) T645.heap n0 Z648 B645) 1 (by decide) (by decide) (by decide) (by decide) (g := (mkF m 78 #[vR r0, vR zm, vR q1, vR q2, vI 2, vI pos, .val (.long ((Int32.ofNat cn).toInt64)), .second, vI (((64 : Int32) - pos2) / (2 : Int32))] [(.int (8 : Int32)), (.ref il), (.ref r0)])) rfl (by rw [hml]; rfl) [(.ref il), (.int (8 : Int32))] [(.ref r0)] rfl (lenOf pd_8 rfl) rfl (by show 2 * 0 + _ ≤ _; exact Nat.le_of_eq rfl) (hb hby d4_78) ?_
 intro T656 L656 v656 X656 q656
 obtain ⟨il2, rfl, N656, K656, g_il2, szq, t2, B656, ht2⟩ := q656
 have nil2 : il2 ≠ r0 := Ne.symm (Nat.ne_of_lt (Nat.lt_of_lt_of_le Ee645.lt szq))
 have nr1 : r1 ≠ il2 := Nat.ne_of_lt (Nat.lt_of_lt_of_le f649.lt szq)
 have sz_il2 : h0.size ≤ il2 := Nat.le_trans K647.1 szq
 have ns657 : ∀ w ∈ [], ∃ c : Cell, T645.heap[w]? = some c ∧ c.vm.isStatics = false := all0
 obtain ⟨lc656, X656h, N656h⟩ := own_hide X656 (Fr.app N651h N656)
 have K658 : Keep h0 T656.heap [r0, il] := K647.trans K656 all0
 have Z659 : n0 ≤ T656.heap.size := Nat.le_trans Z648 K656.1
 show G (T656.setTop (mkF m 81 #[vR r0, vR zm, vR q1, vR q2, vI 2, vI pos, .val (.long ((Int32.ofNat cn).toInt64)), .second, vI (((64 : Int32) - pos2) / (2 : Int32))] [(.ref il2), (.ref r0)]))
 have f660 := (Fl645.keep K656 nin0)
 have f661 := (Ee645.keep K656)
 obtain ⟨T662, h662, X662, e662, W662, st662⟩ := putF X656h hx hZ hown (host := "") (Or.inl (wd hw 11 rfl)) Via.refl rfl f660 f661 (Or.inl (wd hw 12 rfl)) (wd hw 2 rfl) (ty := (.array .int)) (by decide) rfl rfl (g := (mkF m 81 #[vR r0, vR zm, vR q1, vR q2, vI 2, vI pos, .val (.long ((Int32.ofNat cn).toInt64)), .second, vI (((64 : Int32) - pos2) / (2 : Int32))] [(.ref il2), (.ref r0)])) rfl rfl (hb hby d4_81)
 have F662 := f660.same W662
 have K663 : Keep h0 h662 [r0, il] := K658.wr W662 (Or.inl (List.mem_of_getElem? (i := 0) rfl))
 obtain ⟨lc662, X662h, N662h⟩ := own_hide X662 (Fr.snoc X662 N656h g_r0)
 have Z664 : n0 ≤ h662.size := Nat.le_trans Z659 (Nat.le_of_eq W662.size.symm)
 refine go _ _ st662 ?_
 show G (T662.setTop (mkF m 84 #[vR r0, vR zm, vR q1, vR q2, vI 2, vI pos, .val (.long ((Int32.ofNat cn).toInt64)), .second, vI (((64 : Int32) - pos2) / (2 : Int32))] []))
 refine go _ _ (fun _ k => XS.aloadN X662h.here hx rfl (hb hby d4_84) rfl rfl  k) ?_
 show G (T662.setTop (mkF m 85 #[vR r0, vR zm, vR q1, vR q2, vI 2, vI pos, .val (.long ((Int32.ofNat cn).toInt64)), .second, vI (((64 : Int32) - pos2) / (2 : Int32))] [(.ref r0)]))
 obtain ⟨T665, X665, e665, st665⟩ := getF X662h hx hZ hown (host := "") (Or.inl (wd hw 11 rfl)) Via.refl e662 F662 (g := (mkF m 85 #[vR r0, vR zm, vR q1, vR q2, vI 2, vI pos, .val (.long ((Int32.ofNat cn).toInt64)), .second, vI (((64 : Int32) - pos2) / (2 : Int32))] [(.ref r0)])) rfl rfl (hb hby d4_85)
 refine go _ _ st665 ?_
 show G (T665.setTop (mkF m 88 #[vR r0, vR zm, vR q1, vR q2, vI 2, vI pos, .val (.long ((Int32.ofNat cn).toInt64)), .second, vI (((64 : Int32) - pos2) / (2 : Int32))] [(.ref il2)]))
 refine go _ _ (fun _ k => XS.aloadN X665.here hx rfl (hb hby d4_88) rfl rfl  k) ?_
 show G (T665.setTop (mkF m 89 #[vR r0, vR zm, vR q1, vR q2, vI 2, vI pos, .val (.long ((Int32.ofNat cn).toInt64)), .second, vI (((64 : Int32) - pos2) / (2 : Int32))] [(.ref r0), (.ref il2)]))
 refine go _ _ (fun _ k => XS.dup X665.here hx rfl (hb hby d4_89) rfl rfl k) ?_
 show G (T665.setTop (mkF m 90 #[vR r0, vR zm, vR q1, vR q2, vI 2, vI pos, .val (.long ((Int32.ofNat cn).toInt64)), .second, vI (((64 : Int32) - pos2) / (2 : Int32))] [(.ref r0), (.ref r0), (.ref il2)]))
 have f666 := ((Fd645.keep K656 nin0).other W662 (Or.inr (slot_ne (Or.inl (wd hw 51 rfl)) (Or.inl (wd hw 12 rfl)) (by decide) (t := .int) (t' := (.array .int)) (by decide) (by decide))))
 obtain ⟨T667, X667, e667, st667⟩ := getF X665 hx hZ hown (host := "") (Or.inl (wd hw 50 rfl)) Via.refl e665 f666 (g := (mkF m 90 #[vR r0, vR zm, vR q1, vR q2, vI 2, vI pos, .val (.long ((Int32.ofNat cn).toInt64)), .second, vI (((64 : Int32) - pos2) / (2 : Int32))] [(.ref r0), (.ref r0), (.ref il2)])) rfl rfl (hb hby d4_90)
 refine go _ _ st667 ?_
 show G (T667.setTop (mkF m 93 #[vR r0, vR zm, vR q1, vR q2, vI 2, vI pos, .val (.long ((Int32.ofNat cn).toInt64)), .second, vI (((64 : Int32) - pos2) / (2 : Int32))] [(.int (4 : Int32)), (.ref r0), (.ref il2)]))
 refine go _ _ (fun _ k => XS.dupX1 X667.here hx rfl (hb hby d4_93) rfl rfl rfl k) ?_
 show G (T667.setTop (mkF m 94 #[vR r0, vR zm, vR q1, vR q2, vI 2, vI pos, .val (.long ((Int32.ofNat cn).toInt64)), .second, vI (((64 : Int32) - pos2) / (2 : Int32))] [(.int (4 : Int32)), (.ref r0), (.int (4 : Int32)), (.ref il2)]))
 refine go _ _ (fun _ k => XS.iconst X667.here hx rfl (hb hby d4_94) k) ?_
 show G (T667.setTop (mkF m 95 #[vR r0, vR zm, vR q1, vR q2, vI 2, vI pos, .val (.long ((Int32.ofNat cn).toInt64)), .second, vI (((64 : Int32) - pos2) / (2 : Int32))] [(.int (1 : Int32)), (.int (4 : Int32)), (.ref r0), (.int (4 : Int32)), (.ref il2)]))
 refine go _ _ (fun _ k => XS.iadd X667.here hx rfl (hb hby d4_95) rfl k) ?_
 show G (T667.setTop (mkF m 96 #[vR r0, vR zm, vR q1, vR q2, vI 2, vI pos, .val (.long ((Int32.ofNat cn).toInt64)), .second, vI (((64 : Int32) - pos2) / (2 : Int32))] [(.int ((4 : Int32) + (1 : Int32))), (.ref r0), (.int (4 : Int32)), (.ref il2)]))
 have f668 := (f661.wr W662)
 obtain ⟨T669, h669, X669, e669, W669, st669⟩ := putF X667 hx hZ hown (host := "") (Or.inl (wd hw 50 rfl)) Via.refl e667 f666 f668 (Or.inl (wd hw 51 rfl)) (wd hw 2 rfl) (ty := .int) (by decide) rfl rfl (g := (mkF m 96 #[vR r0, vR zm, vR q1, vR q2, vI 2, vI pos, .val (.long ((Int32.ofNat cn).toInt64)), .second, vI (((64 : Int32) - pos2) / (2 : Int32))] [(.int ((4 : Int32) + (1 : Int32))), (.ref r0), (.int (4 : Int32)), (.ref il2)])) rfl rfl (hb hby d4_96)
 have F669 := f666.same W669
 have K670 : Keep h0 h669 [r0, il] := K663.wr W669 (Or.inl (List.mem_of_getElem? (i := 0) rfl))
 obtain ⟨lc669, X669h, N669h⟩ := own_hide X669 (Fr.snoc X669 N662h g_r0)
 have Z671 : n0 ≤ h669.size := Nat.le_trans Z664 (Nat.le_of_eq W669.size.symm)
 refine go _ _ st669 ?_
 show G (T669.setTop (mkF m 99 #[vR r0, vR zm, vR q1, vR q2, vI 2, vI pos, .val (.long ((Int32.ofNat cn).toInt64)), .second, vI (((64 : Int32) - pos2) / (2 : Int32))] [(.int (4 : Int32)), (.ref il2)]))
 refine go _ _ (fun _ k => XS.lload X669h.here hx rfl (hb hby d4_99) rfl  k) ?_
 show G (T669.setTop (mkF m 101 #[vR r0, vR zm, vR q1, vR q2, vI 2, vI pos, .val (.long ((Int32.ofNat cn).toInt64)), .second, vI (((64 : Int32) - pos2) / (2 : Int32))] [(.long ((Int32.ofNat cn).toInt64)), (.int (4 : Int32)), (.ref il2)]))
 refine go _ _ (fun _ k => XS.l2i X669h.here hx rfl (hb hby d4_101) rfl k) ?_
 show G (T669.setTop (mkF m 102 #[vR r0, vR zm, vR q1, vR q2, vI 2, vI pos, .val (.long ((Int32.ofNat cn).toInt64)), .second, vI (((64 : Int32) - pos2) / (2 : Int32))] [(.int (((Int32.ofNat cn).toInt64).toInt32)), (.int (4 : Int32)), (.ref il2)]))
 refine go _ _ (fun _ k => XS.iload X669h.here hx rfl (hb hby d4_102) rfl  k) ?_
 show G (T669.setTop (mkF m 104 #[vR r0, vR zm, vR q1, vR q2, vI 2, vI pos, .val (.long ((Int32.ofNat cn).toInt64)), .second, vI (((64 : Int32) - pos2) / (2 : Int32))] [(.int (2 : Int32)), (.int (((Int32.ofNat cn).toInt64).toInt32)), (.int (4 : Int32)), (.ref il2)]))
 refine go _ _ (fun _ k => XS.imul X669h.here hx rfl (hb hby d4_104) rfl k) ?_
 show G (T669.setTop (mkF m 105 #[vR r0, vR zm, vR q1, vR q2, vI 2, vI pos, .val (.long ((Int32.ofNat cn).toInt64)), .second, vI (((64 : Int32) - pos2) / (2 : Int32))] [(.int ((((Int32.ofNat cn).toInt64).toInt32) * (2 : Int32))), (.int (4 : Int32)), (.ref il2)]))
 have f672 := ((B656.other W662 nil2).other W669 nil2)
 refine own_iastore go X669h hx hZ e669 4 rfl (by decide) (g := (mkF m 105 #[vR r0, vR zm, vR q1, vR q2, vI 2, vI pos, .val (.long ((Int32.ofNat cn).toInt64)), .second, vI (((64 : Int32) - pos2) / (2 : Int32))] [(.int ((((Int32.ofNat cn).toInt64).toInt32) * (2 : Int32))), (.int (4 : Int32)), (.ref il2)])) rfl f672 rfl (hb hby d4_105) ?_
 intro T673 h673 X673 e673 W673 A673
 have K674 : Keep h0 h673 [r0, il] := K670.wr W673 (Or.inr sz_il2)
 obtain ⟨lc673, X673h, N673h⟩ := own_hide X673 (Fr.snoc X673 N669h g_il2)
 have Z675 : n0 ≤ h673.size := Nat.le_trans Z671 (Nat.le_of_eq W673.size.symm)
 have A673c := A673.cong (g := (fun i => .int ((upd t2 4 (Int32.ofNat (cn * 2))) i))) (own_upd (own_val 2 rfl hcn (by decide)))
 show G (T673.setTop (mkF m 106 #[vR r0, vR zm, vR q1, vR q2, vI 2, vI pos, .val (.long ((Int32.ofNat cn).toInt64)), .second, vI (((64 : Int32) - pos2) / (2 : Int32))] []))
 refine own_retV rt X673h hx hret (hb hby d4_106) (by decide) (by decide) ?_
 have f676 := ((f668.wr W669).wr W673)
 have f677 := ((((Fp645.keep K656 nin0).other W662 (Or.inr (slot_ne (Or.inl (wd hw 36 rfl)) (Or.inl (wd hw 12 rfl)) (by decide) (t := .int) (t' := (.array .int)) (by decide) (by decide)))).other W669 (Or.inr (slot_ne (Or.inl (wd hw 36 rfl)) (Or.inl (wd hw 51 rfl)) (by decide) (t := .int) (t' := .int) (by decide) (by decide)))).other W673 (Or.inl (Ne.symm nil2)))
 have f678 := ((((Fi645.keep K656 nin0).other W662 (Or.inr (slot_ne (Or.inr (wd hw 14 rfl)) (Or.inl (wd hw 12 rfl)) (by decide) (t := (.array .byte)) (t' := (.array .int)) (by decide) (by decide)))).other W669 (Or.inr (slot_ne (Or.inr (wd hw 14 rfl)) (Or.inl (wd hw 51 rfl)) (by decide) (t := (.array .byte)) (t' := .int) (by decide) (by decide)))).other W673 (Or.inl (Ne.symm nil2)))
 have f679 := ((F662.other W669 (Or.inr (slot_ne (Or.inl (wd hw 12 rfl)) (Or.inl (wd hw 51 rfl)) (by decide) (t := (.array .int)) (t' := .int) (by decide) (by decide)))).other W673 (Or.inl (Ne.symm nil2)))
 have f680 := (F669.other W673 (Or.inl (Ne.symm nil2)))
 rw [e673]
 exact ⟨rfl, N673h, K674, _, _, _, _, hp2, own_add (i := 4) rfl (j := 1) rfl (by omega), upd_eq, (by rw [upd_ne (by decide), ht2 _ (by decide), upd_eq]), g_il2, sz_il2, f676, f677, f678, f679, f680, A673c⟩
theorem ef_rm_op5c (m : MethodId) (x0 : Addr) : entryFrame m #[(.ref x0)] 1 = mkF m 0 #[.val (.ref x0)] [] := by first | (simp [entryFrame, mkF, argsToLocals, Value.category]; done) | rfl
set_option maxRecDepth 65536 in
set_option maxHeartbeats 40000000 in
theorem rm_op5c (l : Launch) (Z : State) (a0 : Array Value) (hw : ∀ d ∈ tables_1, d.before a0 Z = true) (r0 r1 il zu za zm zt : Addr) (pos : Int32) (pn : Nat) (g t : Nat → Int32) (w cn : Nat) (h0 : Heap) (n0 : Nat) (Z0 : n0 ≤ h0.size) (g_r0 : n0 ≤ r0) (g_il : n0 ≤ il) (E0 : Exa Z h0 r0 "com/example/brevidns/brevidns/CborReader") (Fp : Fld Z h0 r0 "com/example/brevidns/brevidns/CborReader" "position" "I" (.int pos)) (Fi : Fld Z h0 r0 "com/example/brevidns/brevidns/CborReader" "input" "[B" (.ref r1)) (Fl : Fld Z h0 r0 "com/example/brevidns/brevidns/CborReader" "itemsLeft" "[I" (.ref il)) (Fd : Fld Z h0 r0 "com/example/brevidns/brevidns/CborReader" "depth" "I" (.int (4 : Int32))) (A : Ary Z h0 r1 .byte 64 (fun i => .int (g i))) (B : Ary Z h0 il .int 4 (fun i => .int (t i))) (n10 : r1 ≠ r0) (n20 : il ≠ r0) (n12 : r1 ≠ il) (hpos : pos.toInt = pn) (Szu : Sta Z h0 "com/example/brevidns/brevidns/CborReader$Kind" "UNSIGNED_INTEGER" "Lcom/example/brevidns/brevidns/CborReader$Kind;" (.ref zu)) (Sza : Sta Z h0 "com/example/brevidns/brevidns/CborReader$Kind" "ARRAY" "Lcom/example/brevidns/brevidns/CborReader$Kind;" (.ref za)) (Szm : Sta Z h0 "com/example/brevidns/brevidns/CborReader$Kind" "MAP" "Lcom/example/brevidns/brevidns/CborReader$Kind;" (.ref zm)) (Szt : Sta Z h0 "com/example/brevidns/brevidns/CborReader$Kind" "TAG" "Lcom/example/brevidns/brevidns/CborReader$Kind;" (.ref zt)) (nut : zu ≠ zt) (nat : za ≠ zt) (nmt : zm ≠ zt) (hd : Head g 5 pn w cn) (hpw : pn + w ≤ 63) (hrm : cn * 2 + (pn + w) ≤ 64) (ht : ¬ t 3 = 0) :
  ConW l Z (⟨"com/example/brevidns/brevidns/CborReader", "openMap", "()V"⟩ : MethodName) prog_3_method_6_code 1 none ({ frames := 4, cells := 5, slots := 64, locals := 75 } : Room) #[(.ref r0)] h0 (fun v h L => v = none ∧ Fr n0 L ∧ Keep h0 h [r0, il] ∧ ∃ (pos2 dp2 : Int32) (il2 : Addr) (t2 : Nat → Int32), pos2.toInt = ((pn + w : Nat) : Int) ∧ dp2.toInt = ((4 + 1 : Nat) : Int) ∧ t2 4 = Int32.ofNat (cn * 2) ∧ t2 (4 - 1) = t (4 - 1) - 1 ∧ n0 ≤ il2 ∧ h0.size ≤ il2 ∧ Exa Z h r0 "com/example/brevidns/brevidns/CborReader" ∧ Fld Z h r0 "com/example/brevidns/brevidns/CborReader" "position" "I" (.int pos2) ∧ Fld Z h r0 "com/example/brevidns/brevidns/CborReader" "input" "[B" (.ref r1) ∧ Fld Z h r0 "com/example/brevidns/brevidns/CborReader" "itemsLeft" "[I" (.ref il2) ∧ Fld Z h r0 "com/example/brevidns/brevidns/CborReader" "depth" "I" (.int dp2) ∧ Ary Z h il2 .int 8 (fun i => .int (t2 i))) := by
 refine own_bodyW pn_13 ?_
 intro p e s m below meth c s₁ hx hby hml hown hnm hret hZ e0 X0 G go kS rb Zk0
 have rt := own_rt rb
 have N0 := Fr.nil n0
 rw [ef_rm_op5c m r0]
 show G (s₁.setTop (mkF m 0 #[vR r0] []))
 refine go _ _ (fun _ k => XS.aloadN X0.here hx rfl (hb hby d13_0) rfl rfl  k) ?_
 show G (s₁.setTop (mkF m 1 #[vR r0] [(.ref r0)]))
 obtain ⟨T681, X681, e681, st681⟩ := getS X0 hx hZ hown (host := "") (wd hw 81 rfl) Via.refl e0 Szm (g := (mkF m 1 #[vR r0] [(.ref r0)])) rfl (hb hby d13_1)
 refine go _ _ st681 ?_
 show G (T681.setTop (mkF m 4 #[vR r0] [(.ref zm), (.ref r0)]))
 refine own_ldcS go X681 hx hZ e681 hown (wd hw 83 rfl) (own_wS hw) rb Zk0 (g := (mkF m 4 #[vR r0] [(.ref zm), (.ref r0)])) rfl (hb hby d13_4) 28 (by decide) (by decide) (by decide) (by decide) ?_
 intro s kS T682 h682 a682 hZ hown rb Y682 X682 e682 E682
 have rt := own_rt rb
 have Z683 : n0 ≤ h682.size := Nat.le_trans Z0 E682.1
 have K684 : Keep h0 h682 [r0, il] := (Keep.refl h0 [r0, il]).ext E682
 show G (T682.setTop (mkF m 6 #[vR r0] [(.ref a682), (.ref zm), (.ref r0)]))
 refine own_ldcS go X682 hx hZ e682 hown (wd hw 84 rfl) (own_wS hw) rb Y682 (g := (mkF m 6 #[vR r0] [(.ref a682), (.ref zm), (.ref r0)])) rfl (hb hby d13_6) 20 (by decide) (by decide) (by decide) (by decide) ?_
 intro s kS T685 h685 a685 hZ hown rb Y685 X685 e685 E685
 have rt := own_rt rb
 have Z686 : n0 ≤ h685.size := Nat.le_trans Z683 E685.1
 have K687 : Keep h0 h685 [r0, il] := K684.ext E685
 show G (T685.setTop (mkF m 8 #[vR r0] [(.ref a685), (.ref a682), (.ref zm), (.ref r0)]))
 refine go _ _ (fun _ k => XS.iconst X685.here hx rfl (hb hby d13_8) k) ?_
 show G (T685.setTop (mkF m 9 #[vR r0] [(.int (2 : Int32)), (.ref a685), (.ref a682), (.ref zm), (.ref r0)]))
 have f688 := ((E0.ext E682).ext E685)
 have f689 := ((Fp.ext E682).ext E685)
 have f690 := ((Fi.ext E682).ext E685)
 have f691 := ((Fl.ext E682).ext E685)
 have f692 := ((Fd.ext E682).ext E685)
 have f693 := ((A.ext E682).ext E685)
 have f694 := ((B.ext E682).ext E685)
 have f695 := ((Szu.ext E682).ext E685)
 have f696 := ((Sza.ext E682).ext E685)
 have f697 := ((Szm.ext E682).ext E685)
 have f698 := ((Szt.ext E682).ext E685)
 refine own_private go X685 hx hZ e685 hown (wd hw 31 rfl) (wd hw 32 rfl) (wd hw 18 rfl) rfl (wd hw 33 rfl) (wd hw 3 rfl) (wd hw 34 rfl) (by decide) (rm_en5c l Z a0 hw a682 a685 r0 r1 il zu za zm zt pos pn g t w cn h685 n0 Z686 g_r0 g_il f688 f689 f690 f691 f692 f693 f694 n10 n20 n12 hpos f695 f696 f697 f698 nut nat nmt hd hpw hrm ht) 0 (by decide) (by decide) (by decide) (by decide) f688 (g := (mkF m 9 #[vR r0] [(.int (2 : Int32)), (.ref a685), (.ref a682), (.ref zm), (.ref r0)])) rfl (by rw [hml]; rfl) [(.ref zm), (.ref a682), (.ref a685), (.int (2 : Int32))] [] rfl (lenOf pd_7 rfl) rfl (by show 2 * 0 + _ ≤ _; exact Nat.le_of_eq rfl) (hb hby d13_9) ?_
 intro T699 L699 v699 X699 q699
 obtain ⟨rfl, N699, K699, pos2, dp2, il2, t2, hp2, hdp2, ht2, ht3, g_il2, szq, Ee, Fp2, Fi2, Fl2, Fd2, B2⟩ := q699
 have sz_il2 : h0.size ≤ il2 := Nat.le_trans K687.1 szq
 have ns700 : ∀ w ∈ [r0, il], ∃ c : Cell, h685[w]? = some c ∧ c.vm.isStatics = false := (allS (own_exa_ns f688) (allS (own_ary_ns f694) all0))
 obtain ⟨lc699, X699h, N699h⟩ := own_hide X699 (Fr.app N0 N699)
 have K701 : Keep h0 T699.heap [r0, il] := K687.trans K699 (allS (Or.inl (List.mem_of_getElem? (i := 0) rfl)) (allS (Or.inl (List.mem_of_getElem? (i := 1) rfl)) all0))
 have Z702 : n0 ≤ T699.heap.size := Nat.le_trans Z686 K699.1
 have Y703 : kS ≤ T699.heap.size := Nat.le_trans Y685 K699.1
 show G (T699.setTop (mkF m 12 #[vR r0] []))
 refine own_retV rt X699h hx hret (hb hby d13_12) (by decide) (by decide) ?_
 refine ⟨Y703, ?_⟩
 exact ⟨rfl, N699h, K701, _, _, _, _, hp2, hdp2, ht2, ht3, g_il2, sz_il2, Ee, Fp2, Fi2, Fl2, Fd2, B2⟩
theorem pn_12 : plainFor (⟨"com/example/brevidns/brevidns/CborReader", "itemsLeft", "()I"⟩ : MethodName) = true := by first | (exact plainFor_of_name (show plainName "com/example/brevidns/brevidns/CborReader" = true by first | (simp [plainName, overriddenIn]; done) | decide +kernel)) | decide +kernel
theorem ef_rm_il (m : MethodId) (x0 : Addr) : entryFrame m #[(.ref x0)] 1 = mkF m 0 #[.val (.ref x0)] [] := by first | (simp [entryFrame, mkF, argsToLocals, Value.category]; done) | rfl
set_option maxRecDepth 65536 in
set_option maxHeartbeats 40000000 in
theorem rm_il (l : Launch) (Z : State) (a0 : Array Value) (hw : ∀ d ∈ tables_1, d.before a0 Z = true) (r0 il : Addr) (dp : Int32) (dn sz : Nat) (t : Nat → Int32) (h0 : Heap) (n0 : Nat) (Z0 : n0 ≤ h0.size) (Fl : Fld Z h0 r0 "com/example/brevidns/brevidns/CborReader" "itemsLeft" "[I" (.ref il)) (Fd : Fld Z h0 r0 "com/example/brevidns/brevidns/CborReader" "depth" "I" (.int dp)) (B : Ary Z h0 il .int sz (fun i => .int (t i))) (hdp : dp.toInt = dn) (hd1 : 1 ≤ dn) (hds : dn ≤ sz) (hs8 : sz ≤ 8) :
  Con l Z (⟨"com/example/brevidns/brevidns/CborReader", "itemsLeft", "()I"⟩ : MethodName) prog_3_method_8_code 1 (some .int) ({ frames := 0, cells := 0, slots := 0, locals := 0 } : Room) #[(.ref r0)] h0 (fun v h L => v = some (.int (t (dn - 1))) ∧ Fr n0 L ∧ h = h0) := by
 refine own_body pn_12 ?_
 intro p e s m below meth c s₁ hx hby hml hown hnm hret hZ e0 X0 G go rt
 have N0 := Fr.nil n0
 rw [ef_rm_il m r0]
 show G (s₁.setTop (mkF m 0 #[vR r0] []))
 refine go _ _ (fun _ k => XS.aloadN X0.here hx rfl (hb hby d12_0) rfl rfl  k) ?_
 show G (s₁.setTop (mkF m 1 #[vR r0] [(.ref r0)]))
 obtain ⟨T704, X704, e704, st704⟩ := getF X0 hx hZ hown (host := "") (Or.inl (wd hw 50 rfl)) Via.refl e0 Fd (g := (mkF m 1 #[vR r0] [(.ref r0)])) rfl rfl (hb hby d12_1)
 refine go _ _ st704 ?_
 show G (T704.setTop (mkF m 4 #[vR r0] [(.int dp)]))
 refine go _ _ (fun _ k => XS.ifYes X704.here hx rfl (pc0 := 4) (pc' := 17) rfl (hb hby d12_4) rfl (Free.XT.i0_ne_t ((not_congr (own_lit 0 (kk := 0) rfl hdp)).mpr (by omega))) (by decide) (by decide) k) ?_
 show G (T704.setTop (mkF m 17 #[vR r0] []))
 refine go _ _ (fun _ k => XS.aloadN X704.here hx rfl (hb hby d12_17) rfl rfl  k) ?_
 show G (T704.setTop (mkF m 18 #[vR r0] [(.ref r0)]))
 obtain ⟨T705, X705, e705, st705⟩ := getF X704 hx hZ hown (host := "") (Or.inl (wd hw 11 rfl)) Via.refl e704 Fl (g := (mkF m 18 #[vR r0] [(.ref r0)])) rfl rfl (hb hby d12_18)
 refine go _ _ st705 ?_
 show G (T705.setTop (mkF m 21 #[vR r0] [(.ref il)]))
 refine go _ _ (fun _ k => XS.aloadN X705.here hx rfl (hb hby d12_21) rfl rfl  k) ?_
 show G (T705.setTop (mkF m 22 #[vR r0] [(.ref r0), (.ref il)]))
 obtain ⟨T706, X706, e706, st706⟩ := getF X705 hx hZ hown (host := "") (Or.inl (wd hw 50 rfl)) Via.refl e705 Fd (g := (mkF m 22 #[vR r0] [(.ref r0), (.ref il)])) rfl rfl (hb hby d12_22)
 refine go _ _ st706 ?_
 show G (T706.setTop (mkF m 25 #[vR r0] [(.int dp), (.ref il)]))
 refine go _ _ (fun _ k => XS.iconst X706.here hx rfl (hb hby d12_25) k) ?_
 show G (T706.setTop (mkF m 26 #[vR r0] [(.int (1 : Int32)), (.int dp), (.ref il)]))
 refine go _ _ (fun _ k => XS.isub X706.here hx rfl (hb hby d12_26) rfl k) ?_
 show G (T706.setTop (mkF m 27 #[vR r0] [(.int (dp - (1 : Int32))), (.ref il)]))
 refine own_iaload go X706 hx hZ e706 (dn - 1) (own_m1 hdp hd1 (by omega)) (by omega) (g := (mkF m 27 #[vR r0] [(.int (dp - (1 : Int32))), (.ref il)])) rfl B rfl (hb hby d12_27) ?_
 show G (T706.setTop (mkF m 28 #[vR r0] [(.int (t (dn - 1)))]))
 refine own_retI rt X706 hx hret (hb hby d12_28) (by decide) (by decide) ?_
 exact ⟨rfl, N0, e706⟩
theorem pn_15 : plainFor (⟨"com/example/brevidns/brevidns/CborReader", "leave", "()V"⟩ : MethodName) = true := by first | (exact plainFor_of_name (show plainName "com/example/brevidns/brevidns/CborReader" = true by first | (simp [plainName, overriddenIn]; done) | decide +kernel)) | decide +kernel
theorem ef_rm_le (m : MethodId) (x0 : Addr) : entryFrame m #[(.ref x0)] 1 = mkF m 0 #[.val (.ref x0)] [] := by first | (simp [entryFrame, mkF, argsToLocals, Value.category]; done) | rfl
set_option maxRecDepth 65536 in
set_option maxHeartbeats 40000000 in
theorem rm_le (l : Launch) (Z : State) (a0 : Array Value) (hw : ∀ d ∈ tables_1, d.before a0 Z = true) (r0 il : Addr) (dp : Int32) (dn sz : Nat) (t : Nat → Int32) (h0 : Heap) (n0 : Nat) (Z0 : n0 ≤ h0.size) (g_r0 : n0 ≤ r0) (E0 : Exa Z h0 r0 "com/example/brevidns/brevidns/CborReader") (Fl : Fld Z h0 r0 "com/example/brevidns/brevidns/CborReader" "itemsLeft" "[I" (.ref il)) (Fd : Fld Z h0 r0 "com/example/brevidns/brevidns/CborReader" "depth" "I" (.int dp)) (B : Ary Z h0 il .int sz (fun i => .int (t i))) (hdp : dp.toInt = dn) (hd1 : 1 ≤ dn) (hds : dn ≤ sz) (hs8 : sz ≤ 8) (n20 : il ≠ r0) (ht : t (dn - 1) = 0) :
  Con l Z (⟨"com/example/brevidns/brevidns/CborReader", "leave", "()V"⟩ : MethodName) prog_3_method_11_code 1 none ({ frames := 1, cells := 0, slots := 0, locals := 12 } : Room) #[(.ref r0)] h0 (fun v h L => v = none ∧ Fr n0 L ∧ Keep h0 h [r0] ∧ ∃ dp2 : Int32, dp2.toInt = ((dn - 1 : Nat) : Int) ∧ Fld Z h r0 "com/example/brevidns/brevidns/CborReader" "depth" "I" (.int dp2) ∧ Fld Z h r0 "com/example/brevidns/brevidns/CborReader" "itemsLeft" "[I" (.ref il)) := by
 refine own_body pn_15 ?_
 intro p e s m below meth c s₁ hx hby hml hown hnm hret hZ e0 X0 G go rt
 have N0 := Fr.nil n0
 rw [ef_rm_le m r0]
 show G (s₁.setTop (mkF m 0 #[vR r0] []))
 refine go _ _ (fun _ k => XS.aloadN X0.here hx rfl (hb hby d15_0) rfl rfl  k) ?_
 show G (s₁.setTop (mkF m 1 #[vR r0] [(.ref r0)]))
 refine own_virtual go X0 hx hZ e0 hown (wd hw 94 rfl) (wd hw 72 rfl) (notFace_of_selects (args := #[]) (mvT hZ (wd hw 74 rfl))) (wd hw 74 rfl) (wd hw 73 rfl) (wd hw 3 rfl) (wd hw 75 rfl) (by decide) (rm_il l Z a0 hw r0 il dp dn sz t h0 n0 Z0 Fl Fd B hdp hd1 hds hs8) 0 (by decide) (by decide) (by decide) (by decide) E0 (g := (mkF m 1 #[vR r0] [(.ref r0)])) rfl (by rw [hml]; rfl) [] [] rfl (lenOf pd_3 rfl) rfl (by show 2 * 0 + _ ≤ _; exact Nat.le_of_eq rfl) (hb hby d15_1) ?_
 intro T707 L707 v707 X707 q707
 obtain ⟨rfl, N707, hh707⟩ := q707
 obtain ⟨lc707, X707h, N707h⟩ := own_hide X707 (Fr.app N0 N707)
 show G (T707.setTop (mkF m 4 #[vR r0] [(.int (t (dn - 1)))]))
 refine go _ _ (fun _ k => XS.ifYes X707h.here hx rfl (pc0 := 4) (pc' := 24) rfl (hb hby d15_4) rfl (Free.XT.i0_eq_t ht) (by decide) (by decide) k) ?_
 show G (T707.setTop (mkF m 24 #[vR r0] []))
 refine go _ _ (fun _ k => XS.aloadN X707h.here hx rfl (hb hby d15_24) rfl rfl  k) ?_
 show G (T707.setTop (mkF m 25 #[vR r0] [(.ref r0)]))
 refine go _ _ (fun _ k => XS.dup X707h.here hx rfl (hb hby d15_25) rfl rfl k) ?_
 show G (T707.setTop (mkF m 26 #[vR r0] [(.ref r0), (.ref r0)]))
 obtain ⟨T708, X708, e708, st708⟩ := getF X707h hx hZ hown (host := "") (Or.inl (wd hw 50 rfl)) Via.refl hh707 Fd (g := (mkF m 26 #[vR r0] [(.ref r0), (.ref r0)])) rfl rfl (hb hby d15_26)
 refine go _ _ st708 ?_
 show G (T708.setTop (mkF m 29 #[vR r0] [(.int dp), (.ref r0)]))
 refine go _ _ (fun _ k => XS.iconst X708.here hx rfl (hb hby d15_29) k) ?_
 show G (T708.setTop (mkF m 30 #[vR r0] [(.int (1 : Int32)), (.int dp), (.ref r0)]))
 refine go _ _ (fun _ k => XS.isub X708.here hx rfl (hb hby d15_30) rfl k) ?_
 show G (T708.setTop (mkF m 31 #[vR r0] [(.int (dp - (1 : Int32))), (.ref r0)]))
 obtain ⟨T709, h709, X709, e709, W709, st709⟩ := putF X708 hx hZ hown (host := "") (Or.inl (wd hw 50 rfl)) Via.refl e708 Fd E0 (Or.inl (wd hw 51 rfl)) (wd hw 2 rfl) (ty := .int) (by decide) rfl rfl (g := (mkF m 31 #[vR r0] [(.int (dp - (1 : Int32))), (.ref r0)])) rfl rfl (hb hby d15_31)
 have F709 := Fd.same W709
 have K710 : Keep h0 h709 [r0] := (Keep.refl h0 [r0]).wr W709 (Or.inl (List.mem_of_getElem? (i := 0) rfl))
 obtain ⟨lc709, X709h, N709h⟩ := own_hide X709 (Fr.snoc X709 N707h g_r0)
 have Z711 : n0 ≤ h709.size := Nat.le_trans Z0 (Nat.le_of_eq W709.size.symm)
 refine go _ _ st709 ?_
 show G (T709.setTop (mkF m 34 #[vR r0] []))
 refine own_retV rt X709h hx hret (hb hby d15_34) (by decide) (by decide) ?_
 have f712 := (Fl.other W709 (Or.inr (slot_ne (Or.inl (wd hw 12 rfl)) (Or.inl (wd hw 51 rfl)) (by decide) (t := (.array .int)) (t' := .int) (by decide) (by decide))))
 rw [e709]
 exact ⟨rfl, N709h, K710, _, own_m1 hdp hd1 (by omega), F709, f712⟩
theorem pn_14 : plainFor (⟨"com/example/brevidns/brevidns/CborReader", "closeMap", "()V"⟩ : MethodName) = true := by first | (exact plainFor_of_name (show plainName "com/example/brevidns/brevidns/CborReader" = true by first | (simp [plainName, overriddenIn]; done) | decide +kernel)) | decide +kernel
theorem ef_rm_closeMap (m : MethodId) (x0 : Addr) : entryFrame m #[(.ref x0)] 1 = mkF m 0 #[.val (.ref x0)] [] := by first | (simp [entryFrame, mkF, argsToLocals, Value.category]; done) | rfl
set_option maxRecDepth 65536 in
set_option maxHeartbeats 40000000 in
theorem rm_closeMap (l : Launch) (Z : State) (a0 : Array Value) (hw : ∀ d ∈ tables_1, d.before a0 Z = true) (r0 il : Addr) (dp : Int32) (dn sz : Nat) (t : Nat → Int32) (h0 : Heap) (n0 : Nat) (Z0 : n0 ≤ h0.size) (g_r0 : n0 ≤ r0) (E0 : Exa Z h0 r0 "com/example/brevidns/brevidns/CborReader") (Fl : Fld Z h0 r0 "com/example/brevidns/brevidns/CborReader" "itemsLeft" "[I" (.ref il)) (Fd : Fld Z h0 r0 "com/example/brevidns/brevidns/CborReader" "depth" "I" (.int dp)) (B : Ary Z h0 il .int sz (fun i => .int (t i))) (hdp : dp.toInt = dn) (hd1 : 1 ≤ dn) (hds : dn ≤ sz) (hs8 : sz ≤ 8) (n20 : il ≠ r0) (ht : t (dn - 1) = 0) :
  Con l Z (⟨"com/example/brevidns/brevidns/CborReader", "closeMap", "()V"⟩ : MethodName) prog_3_method_10_code 1 none ({ frames := 2, cells := 0, slots := 0, locals := 24 } : Room) #[(.ref r0)] h0 (fun v h L => v = none ∧ Fr n0 L ∧ Keep h0 h [r0] ∧ ∃ dp2 : Int32, dp2.toInt = ((dn - 1 : Nat) : Int) ∧ Fld Z h r0 "com/example/brevidns/brevidns/CborReader" "depth" "I" (.int dp2) ∧ Fld Z h r0 "com/example/brevidns/brevidns/CborReader" "itemsLeft" "[I" (.ref il)) := by
 refine own_body pn_14 ?_
 intro p e s m below meth c s₁ hx hby hml hown hnm hret hZ e0 X0 G go rt
 have N0 := Fr.nil n0
 rw [ef_rm_closeMap m r0]
 show G (s₁.setTop (mkF m 0 #[vR r0] []))
 refine go _ _ (fun _ k => XS.aloadN X0.here hx rfl (hb hby d14_0) rfl rfl  k) ?_
 show G (s₁.setTop (mkF m 1 #[vR r0] [(.ref r0)]))
 refine own_private go X0 hx hZ e0 hown (wd hw 90 rfl) (wd hw 91 rfl) (wd hw 18 rfl) rfl (wd hw 92 rfl) (wd hw 3 rfl) (wd hw 93 rfl) (by decide) (rm_le l Z a0 hw r0 il dp dn sz t h0 n0 Z0 g_r0 E0 Fl Fd B hdp hd1 hds hs8 n20 ht) 0 (by decide) (by decide) (by decide) (by decide) E0 (g := (mkF m 1 #[vR r0] [(.ref r0)])) rfl (by rw [hml]; rfl) [] [] rfl (lenOf pd_0 rfl) rfl (by show 2 * 0 + _ ≤ _; exact Nat.le_of_eq rfl) (hb hby d14_1) ?_
 intro T713 L713 v713 X713 q713
 obtain ⟨rfl, N713, K713, dp2, hd2, Fd2, Fl2⟩ := q713
 obtain ⟨lc713, X713h, N713h⟩ := own_hide X713 (Fr.app N0 N713)
 have K714 : Keep h0 T713.heap [r0] := (Keep.refl h0 [r0]).trans K713 (allS (Or.inl (List.mem_of_getElem? (i := 0) rfl)) all0)
 have Z715 : n0 ≤ T713.heap.size := Nat.le_trans Z0 K713.1
 show G (T713.setTop (mkF m 4 #[vR r0] []))
 refine own_retV rt X713h hx hret (hb hby d14_4) (by decide) (by decide) ?_
 exact ⟨rfl, N713h, K714, _, hd2, Fd2, Fl2⟩
theorem pn_20 : plainFor (⟨"com/example/brevidns/brevidns/CborReader", "closeArray", "()V"⟩ : MethodName) = true := by first | (exact plainFor_of_name (show plainName "com/example/brevidns/brevidns/CborReader" = true by first | (simp [plainName, overriddenIn]; done) | decide +kernel)) | decide +kernel
theorem ef_rm_closeArray (m : MethodId) (x0 : Addr) : entryFrame m #[(.ref x0)] 1 = mkF m 0 #[.val (.ref x0)] [] := by first | (simp [entryFrame, mkF, argsToLocals, Value.category]; done) | rfl
set_option maxRecDepth 65536 in
set_option maxHeartbeats 40000000 in
theorem rm_closeArray (l : Launch) (Z : State) (a0 : Array Value) (hw : ∀ d ∈ tables_1, d.before a0 Z = true) (r0 il : Addr) (dp : Int32) (dn sz : Nat) (t : Nat → Int32) (h0 : Heap) (n0 : Nat) (Z0 : n0 ≤ h0.size) (g_r0 : n0 ≤ r0) (E0 : Exa Z h0 r0 "com/example/brevidns/brevidns/CborReader") (Fl : Fld Z h0 r0 "com/example/brevidns/brevidns/CborReader" "itemsLeft" "[I" (.ref il)) (Fd : Fld Z h0 r0 "com/example/brevidns/brevidns/CborReader" "depth" "I" (.int dp)) (B : Ary Z h0 il .int sz (fun i => .int (t i))) (hdp : dp.toInt = dn) (hd1 : 1 ≤ dn) (hds : dn ≤ sz) (hs8 : sz ≤ 8) (n20 : il ≠ r0) (ht : t (dn - 1) = 0) :
  Con l Z (⟨"com/example/brevidns/brevidns/CborReader", "closeArray", "()V"⟩ : MethodName) prog_3_method_9_code 1 none ({ frames := 2, cells := 0, slots := 0, locals := 24 } : Room) #[(.ref r0)] h0 (fun v h L => v = none ∧ Fr n0 L ∧ Keep h0 h [r0] ∧ ∃ dp2 : Int32, dp2.toInt = ((dn - 1 : Nat) : Int) ∧ Fld Z h r0 "com/example/brevidns/brevidns/CborReader" "depth" "I" (.int dp2) ∧ Fld Z h r0 "com/example/brevidns/brevidns/CborReader" "itemsLeft" "[I" (.ref il)) := by
 refine own_body pn_20 ?_
 intro p e s m below meth c s₁ hx hby hml hown hnm hret hZ e0 X0 G go rt
 have N0 := Fr.nil n0
 rw [ef_rm_closeArray m r0]
 show G (s₁.setTop (mkF m 0 #[vR r0] []))
 refine go _ _ (fun _ k => XS.aloadN X0.here hx rfl (hb hby d20_0) rfl rfl  k) ?_
 show G (s₁.setTop (mkF m 1 #[vR r0] [(.ref r0)]))
 refine own_private go X0 hx hZ e0 hown (wd hw 90 rfl) (wd hw 91 rfl) (wd hw 18 rfl) rfl (wd hw 92 rfl) (wd hw 3 rfl) (wd hw 93 rfl) (by decide) (rm_le l Z a0 hw r0 il dp dn sz t h0 n0 Z0 g_r0 E0 Fl Fd B hdp hd1 hds hs8 n20 ht) 0 (by decide) (by decide) (by decide) (by decide) E0 (g := (mkF m 1 #[vR r0] [(.ref r0)])) rfl (by rw [hml]; rfl) [] [] rfl (lenOf pd_0 rfl) rfl (by show 2 * 0 + _ ≤ _; exact Nat.le_of_eq rfl) (hb hby d20_1) ?_
 intro T716 L716 v716 X716 q716
 obtain ⟨rfl, N716, K716, dp2, hd2, Fd2, Fl2⟩ := q716
 obtain ⟨lc716, X716h, N716h⟩ := own_hide X716 (Fr.app N0 N716)
 have K717 : Keep h0 T716.heap [r0] := (Keep.refl h0 [r0]).trans K716 (allS (Or.inl (List.mem_of_getElem? (i := 0) rfl)) all0)
 have Z718 : n0 ≤ T716.heap.size := Nat.le_trans Z0 K716.1
 show G (T716.setTop (mkF m 4 #[vR r0] []))
 refine own_retV rt X716h hx hret (hb hby d20_4) (by decide) (by decide) ?_
 exact ⟨rfl, N716h, K717, _, hd2, Fd2, Fl2⟩
theorem pn_19 : plainFor (⟨"com/example/brevidns/brevidns/CborReader", "readTag", "()J"⟩ : MethodName) = true := by first | (exact plainFor_of_name (show plainName "com/example/brevidns/brevidns/CborReader" = true by first | (simp [plainName, overriddenIn]; done) | decide +kernel)) | decide +kernel
theorem ef_rm_readTag (m : MethodId) (x0 : Addr) : entryFrame m #[(.ref x0)] 1 = mkF m 0 #[.val (.ref x0)] [] := by first | (simp [entryFrame, mkF, argsToLocals, Value.category]; done) | rfl
set_option maxRecDepth 65536 in
set_option maxHeartbeats 40000000 in
theorem rm_readTag (l : Launch) (Z : State) (a0 : Array Value) (hw : ∀ d ∈ tables_1, d.before a0 Z = true) (r0 r1 il zu za zm zt : Addr) (pos dp : Int32) (pn dn sz : Nat) (g t : Nat → Int32) (w cn : Nat) (h0 : Heap) (n0 : Nat) (Z0 : n0 ≤ h0.size) (g_r0 : n0 ≤ r0) (E0 : Exa Z h0 r0 "com/example/brevidns/brevidns/CborReader") (Fp : Fld Z h0 r0 "com/example/brevidns/brevidns/CborReader" "position" "I" (.int pos)) (Fi : Fld Z h0 r0 "com/example/brevidns/brevidns/CborReader" "input" "[B" (.ref r1)) (Fl : Fld Z h0 r0 "com/example/brevidns/brevidns/CborReader" "itemsLeft" "[I" (.ref il)) (Fd : Fld Z h0 r0 "com/example/brevidns/brevidns/CborReader" "depth" "I" (.int dp)) (A : Ary Z h0 r1 .byte 64 (fun i => .int (g i))) (B : Ary Z h0 il .int sz (fun i => .int (t i))) (n10 : r1 ≠ r0) (n20 : il ≠ r0) (n12 : r1 ≠ il) (hpos : pos.toInt = pn) (hdp : dp.toInt = dn) (Szu : Sta Z h0 "com/example/brevidns/brevidns/CborReader$Kind" "UNSIGNED_INTEGER" "Lcom/example/brevidns/brevidns/CborReader$Kind;" (.ref zu)) (Sza : Sta Z h0 "com/example/brevidns/brevidns/CborReader$Kind" "ARRAY" "Lcom/example/brevidns/brevidns/CborReader$Kind;" (.ref za)) (Szm : Sta Z h0 "com/example/brevidns/brevidns/CborReader$Kind" "MAP" "Lcom/example/brevidns/brevidns/CborReader$Kind;" (.ref zm)) (Szt : Sta Z h0 "com/example/brevidns/brevidns/CborReader$Kind" "TAG" "Lcom/example/brevidns/brevidns/CborReader$Kind;" (.ref zt)) (nut : zu ≠ zt) (nat : za ≠ zt) (nmt : zm ≠ zt) (hd : Head g 6 pn w cn) (hpw : pn + w ≤ 63) (hd1 : 1 ≤ dn) (hds : dn ≤ sz) (hs8 : sz ≤ 8) (ht : ¬ t (dn - 1) = 0) :
  Con l Z (⟨"com/example/brevidns/brevidns/CborReader", "readTag", "()J"⟩ : MethodName) prog_3_method_18_code 1 (some .long) ({ frames := 3, cells := 0, slots := 0, locals := 46 } : Room) #[(.ref r0)] h0 (fun v h L => (∃ y : Int64, v = some (.long y)) ∧ Fr n0 L ∧ Keep h0 h [r0] ∧ ∃ pos2 : Int32, pos2.toInt = ((pn + w : Nat) : Int) ∧ Exa Z h r0 "com/example/brevidns/brevidns/CborReader" ∧ Fld Z h r0 "com/example/brevidns/brevidns/CborReader" "position" "I" (.int pos2) ∧ Fld Z h r0 "com/example/brevidns/brevidns/CborReader" "input" "[B" (.ref r1) ∧ Fld Z h r0 "com/example/brevidns/brevidns/CborReader" "itemsLeft" "[I" (.ref il) ∧ Fld Z h r0 "com/example/brevidns/brevidns/CborReader" "depth" "I" (.int dp) ∧ Ary Z h il .int sz (fun i => .int (t i))) := by
 refine own_body pn_19 ?_
 intro p e s m below meth c s₁ hx hby hml hown hnm hret hZ e0 X0 G go rt
 have N0 := Fr.nil n0
 rw [ef_rm_readTag m r0]
 have hcn := hd.cn
 show G (s₁.setTop (mkF m 0 #[vR r0] []))
 refine go _ _ (fun _ k => XS.aloadN X0.here hx rfl (hb hby d19_0) rfl rfl  k) ?_
 show G (s₁.setTop (mkF m 1 #[vR r0] [(.ref r0)]))
 obtain ⟨T719, X719, e719, st719⟩ := getS X0 hx hZ hown (host := "") (wd hw 69 rfl) Via.refl e0 Szt (g := (mkF m 1 #[vR r0] [(.ref r0)])) rfl (hb hby d19_1)
 refine go _ _ st719 ?_
 show G (T719.setTop (mkF m 4 #[vR r0] [(.ref zt), (.ref r0)]))
 refine own_private go X719 hx hZ e719 hown (wd hw 37 rfl) (wd hw 38 rfl) (wd hw 18 rfl) rfl (wd hw 39 rfl) (wd hw 3 rfl) (wd hw 40 rfl) (by decide) (rm_rh6d l Z a0 hw r0 r1 il zu za zm zt pos dp pn dn sz g t w cn h0 n0 Z0 g_r0 E0 Fp Fi Fl Fd A B n10 n20 n12 hpos hdp Szu Sza Szm Szt nut nat nmt hd hpw hd1 hds hs8 ht) 0 (by decide) (by decide) (by decide) (by decide) E0 (g := (mkF m 4 #[vR r0] [(.ref zt), (.ref r0)])) rfl (by rw [hml]; rfl) [(.ref zt)] [] rfl (lenOf pd_6 rfl) rfl (by show 2 * 0 + _ ≤ _; exact Nat.le_of_eq rfl) (hb hby d19_4) ?_
 intro T720 L720 v720 X720 q720
 obtain ⟨rfl, N720, K720, pos2, hp2, Ee, Fp2, Fi2, Fl2, Fd2, B2⟩ := q720
 have ns721 : ∀ w ∈ [r0], ∃ c : Cell, h0[w]? = some c ∧ c.vm.isStatics = false := (allS (own_exa_ns E0) all0)
 obtain ⟨lc720, X720h, N720h⟩ := own_hide X720 (Fr.app N0 N720)
 have K722 : Keep h0 T720.heap [r0] := (Keep.refl h0 [r0]).trans K720 (allS (Or.inl (List.mem_of_getElem? (i := 0) rfl)) all0)
 have Z723 : n0 ≤ T720.heap.size := Nat.le_trans Z0 K720.1
 show G (T720.setTop (mkF m 7 #[vR r0] [(.long ((Int32.ofNat cn).toInt64))]))
 refine own_retJ rt X720h hx hret (hb hby d19_7) (by decide) (by decide) ?_
 exact ⟨⟨_, rfl⟩, N720h, K722, _, hp2, Ee, Fp2, Fi2, Fl2, Fd2, B2⟩
theorem pn_18 : plainFor (⟨"com/example/brevidns/brevidns/CborReader", "readUnsigned", "()J"⟩ : MethodName) = true := by first | (exact plainFor_of_name (show plainName "com/example/brevidns/brevidns/CborReader" = true by first | (simp [plainName, overriddenIn]; done) | decide +kernel)) | decide +kernel
theorem ef_rm_readUnsigned (m : MethodId) (x0 : Addr) : entryFrame m #[(.ref x0)] 4 = mkF m 0 #[.val (.ref x0), .unset, .unset, .unset] [] := by first | (simp [entryFrame, mkF, argsToLocals, Value.category]; done) | rfl
set_option maxRecDepth 65536 in
set_option maxHeartbeats 40000000 in
theorem rm_readUnsigned (l : Launch) (Z : State) (a0 : Array Value) (hw : ∀ d ∈ tables_1, d.before a0 Z = true) (r0 r1 il zu za zm zt : Addr) (pos dp : Int32) (pn dn sz : Nat) (g t : Nat → Int32) (w cn : Nat) (h0 : Heap) (n0 : Nat) (Z0 : n0 ≤ h0.size) (g_r0 : n0 ≤ r0) (g_il : n0 ≤ il) (E0 : Exa Z h0 r0 "com/example/brevidns/brevidns/CborReader") (Fp : Fld Z h0 r0 "com/example/brevidns/brevidns/CborReader" "position" "I" (.int pos)) (Fi : Fld Z h0 r0 "com/example/brevidns/brevidns/CborReader" "input" "[B" (.ref r1)) (Fl : Fld Z h0 r0 "com/example/brevidns/brevidns/CborReader" "itemsLeft" "[I" (.ref il)) (Fd : Fld Z h0 r0 "com/example/brevidns/brevidns/CborReader" "depth" "I" (.int dp)) (A : Ary Z h0 r1 .byte 64 (fun i => .int (g i))) (B : Ary Z h0 il .int sz (fun i => .int (t i))) (n10 : r1 ≠ r0) (n20 : il ≠ r0) (n12 : r1 ≠ il) (hpos : pos.toInt = pn) (hdp : dp.toInt = dn) (Szu : Sta Z h0 "com/example/brevidns/brevidns/CborReader$Kind" "UNSIGNED_INTEGER" "Lcom/example/brevidns/brevidns/CborReader$Kind;" (.ref zu)) (Sza : Sta Z h0 "com/example/brevidns/brevidns/CborReader$Kind" "ARRAY" "Lcom/example/brevidns/brevidns/CborReader$Kind;" (.ref za)) (Szm : Sta Z h0 "com/example/brevidns/brevidns/CborReader$Kind" "MAP" "Lcom/example/brevidns/brevidns/CborReader$Kind;" (.ref zm)) (Szt : Sta Z h0 "com/example/brevidns/brevidns/CborReader$Kind" "TAG" "Lcom/example/brevidns/brevidns/CborReader$Kind;" (.ref zt)) (nut : zu ≠ zt) (nat : za ≠ zt) (nmt : zm ≠ zt) (hd : Head g 0 pn w cn) (hpw : pn + w ≤ 63) (hd1 : 1 ≤ dn) (hds : dn ≤ sz) (hs8 : sz ≤ 8) (ht : ¬ t (dn - 1) = 0) :
  Con l Z (⟨"com/example/brevidns/brevidns/CborReader", "readUnsigned", "()J"⟩ : MethodName) prog_3_method_12_code 4 (some .long) ({ frames := 3, cells := 0, slots := 0, locals := 46 } : Room) #[(.ref r0)] h0 (fun v h L => (∃ y : Int64, v = some (.long y)) ∧ Fr n0 L ∧ Keep h0 h [r0, il] ∧ ∃ pos2 : Int32, pos2.toInt = ((pn + w : Nat) : Int) ∧ Exa Z h r0 "com/example/brevidns/brevidns/CborReader" ∧ Fld Z h r0 "com/example/brevidns/brevidns/CborReader" "position" "I" (.int pos2) ∧ Fld Z h r0 "com/example/brevidns/brevidns/CborReader" "input" "[B" (.ref r1) ∧ Fld Z h r0 "com/example/brevidns/brevidns/CborReader" "itemsLeft" "[I" (.ref il) ∧ Fld Z h r0 "com/example/brevidns/brevidns/CborReader" "depth" "I" (.int dp) ∧ Ary Z h il .int sz (fun i => .int ((upd t (dn - 1) (t (dn - 1) - 1)) i))) := by
 refine own_body pn_18 ?_
 intro p e s m below meth c s₁ hx hby hml hown hnm hret hZ e0 X0 G go rt
 have N0 := Fr.nil n0
 rw [ef_rm_readUnsigned m r0]
 have hcn := hd.cn
 show G (s₁.setTop (mkF m 0 #[vR r0, .unset, .unset, .unset] []))
 refine go _ _ (fun _ k => XS.aloadN X0.here hx rfl (hb hby d18_0) rfl rfl  k) ?_
 show G (s₁.setTop (mkF m 1 #[vR r0, .unset, .unset, .unset] [(.ref r0)]))
 obtain ⟨T724, X724, e724, st724⟩ := getF X0 hx hZ hown (host := "") (Or.inl (wd hw 35 rfl)) Via.refl e0 Fp (g := (mkF m 1 #[vR r0, .unset, .unset, .unset] [(.ref r0)])) rfl rfl (hb hby d18_1)
 refine go _ _ st724 ?_
 show G (T724.setTop (mkF m 4 #[vR r0, .unset, .unset, .unset] [(.int pos)]))
 refine go _ _ (fun _ k => XS.istoreN X724.here hx rfl (hb hby d18_4) rfl (l' := #[vR r0, vI pos, .unset, .unset]) rfl k) ?_
 show G (T724.setTop (mkF m 5 #[vR r0, vI pos, .unset, .unset] []))
 refine go _ _ (fun _ k => XS.aloadN X724.here hx rfl (hb hby d18_5) rfl rfl  k) ?_
 show G (T724.setTop (mkF m 6 #[vR r0, vI pos, .unset, .unset] [(.ref r0)]))
 obtain ⟨T725, X725, e725, st725⟩ := getS X724 hx hZ hown (host := "") (wd hw 112 rfl) Via.refl e724 Szu (g := (mkF m 6 #[vR r0, vI pos, .unset, .unset] [(.ref r0)])) rfl (hb hby d18_6)
 refine go _ _ st725 ?_
 show G (T725.setTop (mkF m 9 #[vR r0, vI pos, .unset, .unset] [(.ref zu), (.ref r0)]))
 refine own_private go X725 hx hZ e725 hown (wd hw 37 rfl) (wd hw 38 rfl) (wd hw 18 rfl) rfl (wd hw 39 rfl) (wd hw 3 rfl) (wd hw 40 rfl) (by decide) (rm_rh0d l Z a0 hw r0 r1 il zu za zm zt pos dp pn dn sz g t w cn h0 n0 Z0 g_r0 g_il E0 Fp Fi Fl Fd A B n10 n20 n12 hpos hdp Szu Sza Szm Szt nut nat nmt hd hpw hd1 hds hs8 ht) 0 (by decide) (by decide) (by decide) (by decide) E0 (g := (mkF m 9 #[vR r0, vI pos, .unset, .unset] [(.ref zu), (.ref r0)])) rfl (by rw [hml]; rfl) [(.ref zu)] [] rfl (lenOf pd_6 rfl) rfl (by show 2 * 0 + _ ≤ _; exact Nat.le_of_eq rfl) (hb hby d18_9) ?_
 intro T726 L726 v726 X726 q726
 obtain ⟨rfl, N726, K726, pos2, hp2, Ee, Fp2, Fi2, Fl2, Fd2, B2⟩ := q726
 have ns727 : ∀ w ∈ [r0, il], ∃ c : Cell, h0[w]? = some c ∧ c.vm.isStatics = false := (allS (own_exa_ns E0) (allS (own_ary_ns B) all0))
 obtain ⟨lc726, X726h, N726h⟩ := own_hide X726 (Fr.app N0 N726)
 have K728 : Keep h0 T726.heap [r0, il] := (Keep.refl h0 [r0, il]).trans K726 (allS (Or.inl (List.mem_of_getElem? (i := 0) rfl)) (allS (Or.inl (List.mem_of_getElem? (i := 1) rfl)) all0))
 have Z729 : n0 ≤ T726.heap.size := Nat.le_trans Z0 K726.1
 show G (T726.setTop (mkF m 12 #[vR r0, vI pos, .unset, .unset] [(.long ((Int32.ofNat cn).toInt64))]))
 refine go _ _ (fun _ k => XS.lstoreN X726h.here hx rfl (hb hby d18_12) rfl (l' := #[vR r0, vI pos, .val (.long ((Int32.ofNat cn).toInt64)), .second]) rfl k) ?_
 show G (T726.setTop (mkF m 13 #[vR r0, vI pos, .val (.long ((Int32.ofNat cn).toInt64)), .second] []))
 refine go _ _ (fun _ k => XS.lloadN X726h.here hx rfl (hb hby d18_13) rfl  k) ?_
 show G (T726.setTop (mkF m 14 #[vR r0, vI pos, .val (.long ((Int32.ofNat cn).toInt64)), .second] [(.long ((Int32.ofNat cn).toInt64))]))
 refine go _ _ (fun _ k => XS.lconst X726h.here hx rfl (hb hby d18_14) k) ?_
 show G (T726.setTop (mkF m 15 #[vR r0, vI pos, .val (.long ((Int32.ofNat cn).toInt64)), .second] [(.long (0 : Int64)), (.long ((Int32.ofNat cn).toInt64))]))
 refine go _ _ (fun _ k => Free.XT.lcmp X726h.here hx rfl (hb hby d18_15) rfl k) ?_
 show G (T726.setTop (mkF m 16 #[vR r0, vI pos, .val (.long ((Int32.ofNat cn).toInt64)), .second] [(.int (Free.XT.cmpL ((Int32.ofNat cn).toInt64) (0 : Int64)))]))
 refine go _ _ (fun _ k => XS.ifYes X726h.here hx rfl (pc0 := 16) (pc' := 37) rfl (hb hby d18_16) rfl (Free.XT.ll_ge_t (own_nn64 hcn)) (by decide) (by decide) k) ?_
 show G (T726.setTop (mkF m 37 #[vR r0, vI pos, .val (.long ((Int32.ofNat cn).toInt64)), .second] []))
 refine go _ _ (fun _ k => XS.lloadN X726h.here hx rfl (hb hby d18_37) rfl  k) ?_
 show G (T726.setTop (mkF m 38 #[vR r0, vI pos, .val (.long ((Int32.ofNat cn).toInt64)), .second] [(.long ((Int32.ofNat cn).toInt64))]))
 refine own_retJ rt X726h hx hret (hb hby d18_38) (by decide) (by decide) ?_
 exact ⟨⟨_, rfl⟩, N726h, K728, _, hp2, Ee, Fp2, Fi2, Fl2, Fd2, B2⟩
theorem pn_0 : plainFor x = true := by first | (exact plainFor_of_name (show plainName "com/example/brevidns/brevidns/CborReaderItemsLeftPinLaw" = true by first | (simp [plainName, overriddenIn]; done) | decide +kernel)) | decide +kernel
theorem ef_rm0 (m : MethodId) (x0 : Int32) (x1 : Int32) (x2 : Int32) : entryFrame m #[(.int x0), (.int x1), (.int x2)] maxLocals = mkF m 0 #[.val (.int x0), .val (.int x1), .val (.int x2), .unset, .unset, .unset, .unset, .unset, .unset, .unset, .unset, .unset, .unset, .unset, .unset, .unset, .unset, .unset, .unset, .unset, .unset, .unset] [] := by first | (simp [entryFrame, mkF, argsToLocals, Value.category, maxLocals]; done) | rfl
set_option maxRecDepth 65536 in
set_option maxHeartbeats 40000000 in
theorem rm0 (l : Launch) (Z : State) (a0 : Array Value) (hw : ∀ d ∈ tables_1, d.before a0 Z = true) (u0 u1 u2 : Int32) (h0 : Heap) (n0 : Nat) (Z0 : n0 ≤ h0.size) (zu za zm zt : Addr) (Szu : Sta Z h0 "com/example/brevidns/brevidns/CborReader$Kind" "UNSIGNED_INTEGER" "Lcom/example/brevidns/brevidns/CborReader$Kind;" (.ref zu)) (Sza : Sta Z h0 "com/example/brevidns/brevidns/CborReader$Kind" "ARRAY" "Lcom/example/brevidns/brevidns/CborReader$Kind;" (.ref za)) (Szm : Sta Z h0 "com/example/brevidns/brevidns/CborReader$Kind" "MAP" "Lcom/example/brevidns/brevidns/CborReader$Kind;" (.ref zm)) (Szt : Sta Z h0 "com/example/brevidns/brevidns/CborReader$Kind" "TAG" "Lcom/example/brevidns/brevidns/CborReader$Kind;" (.ref zt)) (nut : zu ≠ zt) (nat : za ≠ zt) (nmt : zm ≠ zt) :
  ConW l Z x code maxLocals ret room_1 #[(.int u0), (.int u1), (.int u2)] h0 (fun v h L => v = some (.int 1) ∧ Fr n0 L) := by
 refine own_bodyW pn_0 ?_
 intro p e s m below meth c s₁ hx hby hml hown hnm hret hZ e0 X0 G go kS rb Zk0
 have rt := own_rt rb
 have N0 := Fr.nil n0
 rw [ef_rm0 m u0 u1 u2]
 show G (s₁.setTop (mkF m 0 #[vI u0, vI u1, vI u2, .unset, .unset, .unset, .unset, .unset, .unset, .unset, .unset, .unset, .unset, .unset, .unset, .unset, .unset, .unset, .unset, .unset, .unset, .unset] []))
 have J11 : ∀ (T : State) (locs : List Loc), Stand p l e room_1 s m #[(.int u0), (.int u1), (.int u2)] below meth c T locs 0 0 → T.heap = h0 → Fr n0 locs → ∀ (om : Int32), G (T.setTop (mkF m 11 #[vI u0, vI u1, vI u2, .unset, .unset, .unset, .unset, .unset, .unset, .unset, .unset, .unset, .unset, .unset, .unset, .unset, .unset, .unset, .unset, .unset, .unset, .unset] [(.int om)])) := by
  intro T730 locs730 X730 e730 N730j om 
  show G (T730.setTop (mkF m 11 #[vI u0, vI u1, vI u2, .unset, .unset, .unset, .unset, .unset, .unset, .unset, .unset, .unset, .unset, .unset, .unset, .unset, .unset, .unset, .unset, .unset, .unset, .unset] [(.int om)]))
  refine go _ _ (fun _ k => XS.istoreN X730.here hx rfl (hb hby at_11) rfl (l' := #[vI u0, vI u1, vI u2, vI om, .unset, .unset, .unset, .unset, .unset, .unset, .unset, .unset, .unset, .unset, .unset, .unset, .unset, .unset, .unset, .unset, .unset, .unset]) rfl k) ?_
  show G (T730.setTop (mkF m 12 #[vI u0, vI u1, vI u2, vI om, .unset, .unset, .unset, .unset, .unset, .unset, .unset, .unset, .unset, .unset, .unset, .unset, .unset, .unset, .unset, .unset, .unset, .unset] []))
  have J23 : ∀ (T : State) (locs : List Loc), Stand p l e room_1 s m #[(.int u0), (.int u1), (.int u2)] below meth c T locs 0 0 → T.heap = h0 → Fr n0 locs → ∀ (ol : Int32), G (T.setTop (mkF m 23 #[vI u0, vI u1, vI u2, vI om, .unset, .unset, .unset, .unset, .unset, .unset, .unset, .unset, .unset, .unset, .unset, .unset, .unset, .unset, .unset, .unset, .unset, .unset] [(.int ol)])) := by
   intro T731 locs731 X731 e731 N731j ol 
   show G (T731.setTop (mkF m 23 #[vI u0, vI u1, vI u2, vI om, .unset, .unset, .unset, .unset, .unset, .unset, .unset, .unset, .unset, .unset, .unset, .unset, .unset, .unset, .unset, .unset, .unset, .unset] [(.int ol)]))
   refine go _ _ (fun _ k => XS.istore X731.here hx rfl (hb hby at_23) rfl (l' := #[vI u0, vI u1, vI u2, vI om, vI ol, .unset, .unset, .unset, .unset, .unset, .unset, .unset, .unset, .unset, .unset, .unset, .unset, .unset, .unset, .unset, .unset, .unset]) rfl k) ?_
   show G (T731.setTop (mkF m 25 #[vI u0, vI u1, vI u2, vI om, vI ol, .unset, .unset, .unset, .unset, .unset, .unset, .unset, .unset, .unset, .unset, .unset, .unset, .unset, .unset, .unset, .unset, .unset] []))
   have J34 : ∀ (T : State) (locs : List Loc), Stand p l e room_1 s m #[(.int u0), (.int u1), (.int u2)] below meth c T locs 0 0 → T.heap = h0 → Fr n0 locs → ∀ (p1 : Int32), (p1.toInt = perOf om) → G (T.setTop (mkF m 34 #[vI u0, vI u1, vI u2, vI om, vI ol, .unset, .unset, .unset, .unset, .unset, .unset, .unset, .unset, .unset, .unset, .unset, .unset, .unset, .unset, .unset, .unset, .unset] [(.int p1)])) := by
    intro T732 locs732 X732 e732 N732j p1 hp1
    show G (T732.setTop (mkF m 34 #[vI u0, vI u1, vI u2, vI om, vI ol, .unset, .unset, .unset, .unset, .unset, .unset, .unset, .unset, .unset, .unset, .unset, .unset, .unset, .unset, .unset, .unset, .unset] [(.int p1)]))
    refine go _ _ (fun _ k => XS.istore X732.here hx rfl (hb hby at_34) rfl (l' := #[vI u0, vI u1, vI u2, vI om, vI ol, vI p1, .unset, .unset, .unset, .unset, .unset, .unset, .unset, .unset, .unset, .unset, .unset, .unset, .unset, .unset, .unset, .unset]) rfl k) ?_
    show G (T732.setTop (mkF m 36 #[vI u0, vI u1, vI u2, vI om, vI ol, vI p1, .unset, .unset, .unset, .unset, .unset, .unset, .unset, .unset, .unset, .unset, .unset, .unset, .unset, .unset, .unset, .unset] []))
    refine go _ _ (fun _ k => XS.iconst X732.here hx rfl (hb hby at_36) k) ?_
    show G (T732.setTop (mkF m 37 #[vI u0, vI u1, vI u2, vI om, vI ol, vI p1, .unset, .unset, .unset, .unset, .unset, .unset, .unset, .unset, .unset, .unset, .unset, .unset, .unset, .unset, .unset, .unset] [(.int (1 : Int32))]))
    refine go _ _ (fun _ k => XS.iloadN X732.here hx rfl (hb hby at_37) rfl  k) ?_
    show G (T732.setTop (mkF m 38 #[vI u0, vI u1, vI u2, vI om, vI ol, vI p1, .unset, .unset, .unset, .unset, .unset, .unset, .unset, .unset, .unset, .unset, .unset, .unset, .unset, .unset, .unset, .unset] [(.int u0), (.int (1 : Int32))]))
    refine go _ _ (fun _ k => XS.iconst X732.here hx rfl (hb hby at_38) k) ?_
    show G (T732.setTop (mkF m 39 #[vI u0, vI u1, vI u2, vI om, vI ol, vI p1, .unset, .unset, .unset, .unset, .unset, .unset, .unset, .unset, .unset, .unset, .unset, .unset, .unset, .unset, .unset, .unset] [(.int (2 : Int32)), (.int u0), (.int (1 : Int32))]))
    refine go _ _ (fun _ k => XS.iushr X732.here hx rfl (hb hby at_39) rfl k) ?_
    show G (T732.setTop (mkF m 40 #[vI u0, vI u1, vI u2, vI om, vI ol, vI p1, .unset, .unset, .unset, .unset, .unset, .unset, .unset, .unset, .unset, .unset, .unset, .unset, .unset, .unset, .unset, .unset] [(.int ((u0.toUInt32 >>> ((2 : Int32) &&& 31).toUInt32).toInt32)), (.int (1 : Int32))]))
    have J55 : ∀ (T : State) (locs : List Loc), Stand p l e room_1 s m #[(.int u0), (.int u1), (.int u2)] below meth c T locs 0 0 → T.heap = h0 → Fr n0 locs → ∀ (xv : Int32) (xN : Nat), (xv.toInt = xN) → (1 ≤ xN) → (xN * perOf om ≤ 58) → (ol = 0 → xN ≤ 23) → G (T.setTop (mkF m 55 #[vI u0, vI u1, vI u2, vI om, vI ol, vI p1, .unset, .unset, .unset, .unset, .unset, .unset, .unset, .unset, .unset, .unset, .unset, .unset, .unset, .unset, .unset, .unset] [(.int xv), (.int ((u0.toUInt32 >>> ((2 : Int32) &&& 31).toUInt32).toInt32)), (.int (1 : Int32))])) := by
     intro T733 locs733 X733 e733 N733j xv xN hxv hx1 hx2 hx3
     show G (T733.setTop (mkF m 55 #[vI u0, vI u1, vI u2, vI om, vI ol, vI p1, .unset, .unset, .unset, .unset, .unset, .unset, .unset, .unset, .unset, .unset, .unset, .unset, .unset, .unset, .unset, .unset] [(.int xv), (.int ((u0.toUInt32 >>> ((2 : Int32) &&& 31).toUInt32).toInt32)), (.int (1 : Int32))]))
     refine go _ _ (fun _ k => iremM X733 hx rfl (hb hby at_55) rfl (own_nz hxv hx1) k) ?_
     show G (T733.setTop (mkF m 56 #[vI u0, vI u1, vI u2, vI om, vI ol, vI p1, .unset, .unset, .unset, .unset, .unset, .unset, .unset, .unset, .unset, .unset, .unset, .unset, .unset, .unset, .unset, .unset] [(.int (((u0.toUInt32 >>> ((2 : Int32) &&& 31).toUInt32).toInt32) % xv)), (.int (1 : Int32))]))
     refine go _ _ (fun _ k => XS.iadd X733.here hx rfl (hb hby at_56) rfl k) ?_
     show G (T733.setTop (mkF m 57 #[vI u0, vI u1, vI u2, vI om, vI ol, vI p1, .unset, .unset, .unset, .unset, .unset, .unset, .unset, .unset, .unset, .unset, .unset, .unset, .unset, .unset, .unset, .unset] [(.int ((1 : Int32) + (((u0.toUInt32 >>> ((2 : Int32) &&& 31).toUInt32).toInt32) % xv)))]))
     refine go _ _ (fun _ k => XS.istore X733.here hx rfl (hb hby at_57) rfl (l' := #[vI u0, vI u1, vI u2, vI om, vI ol, vI p1, vI ((1 : Int32) + (((u0.toUInt32 >>> ((2 : Int32) &&& 31).toUInt32).toInt32) % xv)), .unset, .unset, .unset, .unset, .unset, .unset, .unset, .unset, .unset, .unset, .unset, .unset, .unset, .unset, .unset]) rfl k) ?_
     show G (T733.setTop (mkF m 59 #[vI u0, vI u1, vI u2, vI om, vI ol, vI p1, vI ((1 : Int32) + (((u0.toUInt32 >>> ((2 : Int32) &&& 31).toUInt32).toInt32) % xv)), .unset, .unset, .unset, .unset, .unset, .unset, .unset, .unset, .unset, .unset, .unset, .unset, .unset, .unset, .unset] []))
     obtain ⟨nv, hnv⟩ : ∃ z, z = ((1 : Int32) + (((u0.toUInt32 >>> ((2 : Int32) &&& 31).toUInt32).toInt32) % xv)) := ⟨_, rfl⟩
     rw [← hnv]
     show G (T733.setTop (mkF m 59 #[vI u0, vI u1, vI u2, vI om, vI ol, vI p1, vI nv, .unset, .unset, .unset, .unset, .unset, .unset, .unset, .unset, .unset, .unset, .unset, .unset, .unset, .unset, .unset] []))
     have hx9 : xN < 1000 := by rcases own_per om with q | q <;> rw [q] at hx2 <;> omega
     obtain ⟨nN, hnN, hn1, hn2⟩ := own_nn hxv hx1 hx9 hnv
     have hn3 : nN * perOf om ≤ 58 := Nat.le_trans (Nat.mul_le_mul_right _ hn2) hx2
     have hn4 : ol = 0 → nN ≤ 23 := fun z => Nat.le_trans hn2 (hx3 z)
     have hn5 : nN ≤ 58 := by rcases own_per om with q | q <;> rw [q] at hn3 <;> omega
     have hn6 : 1 ≤ nN * perOf om := by rcases own_per om with q | q <;> rw [q] <;> omega
     have J70 : ∀ (T : State) (locs : List Loc), Stand p l e room_1 s m #[(.int u0), (.int u1), (.int u2)] below meth c T locs 0 0 → T.heap = h0 → Fr n0 locs → ∀ (im : Int32), G (T.setTop (mkF m 70 #[vI u0, vI u1, vI u2, vI om, vI ol, vI p1, vI nv, .unset, .unset, .unset, .unset, .unset, .unset, .unset, .unset, .unset, .unset, .unset, .unset, .unset, .unset, .unset] [(.int im)])) := by
      intro T734 locs734 X734 e734 N734j im 
      show G (T734.setTop (mkF m 70 #[vI u0, vI u1, vI u2, vI om, vI ol, vI p1, vI nv, .unset, .unset, .unset, .unset, .unset, .unset, .unset, .unset, .unset, .unset, .unset, .unset, .unset, .unset, .unset] [(.int im)]))
      refine go _ _ (fun _ k => XS.istore X734.here hx rfl (hb hby at_70) rfl (l' := #[vI u0, vI u1, vI u2, vI om, vI ol, vI p1, vI nv, vI im, .unset, .unset, .unset, .unset, .unset, .unset, .unset, .unset, .unset, .unset, .unset, .unset, .unset, .unset]) rfl k) ?_
      show G (T734.setTop (mkF m 72 #[vI u0, vI u1, vI u2, vI om, vI ol, vI p1, vI nv, vI im, .unset, .unset, .unset, .unset, .unset, .unset, .unset, .unset, .unset, .unset, .unset, .unset, .unset, .unset] []))
      have J83 : ∀ (T : State) (locs : List Loc), Stand p l e room_1 s m #[(.int u0), (.int u1), (.int u2)] below meth c T locs 0 0 → T.heap = h0 → Fr n0 locs → ∀ (ig : Int32), G (T.setTop (mkF m 83 #[vI u0, vI u1, vI u2, vI om, vI ol, vI p1, vI nv, vI im, .unset, .unset, .unset, .unset, .unset, .unset, .unset, .unset, .unset, .unset, .unset, .unset, .unset, .unset] [(.int ig)])) := by
       intro T735 locs735 X735 e735 N735j ig 
       show G (T735.setTop (mkF m 83 #[vI u0, vI u1, vI u2, vI om, vI ol, vI p1, vI nv, vI im, .unset, .unset, .unset, .unset, .unset, .unset, .unset, .unset, .unset, .unset, .unset, .unset, .unset, .unset] [(.int ig)]))
       refine go _ _ (fun _ k => XS.istore X735.here hx rfl (hb hby at_83) rfl (l' := #[vI u0, vI u1, vI u2, vI om, vI ol, vI p1, vI nv, vI im, vI ig, .unset, .unset, .unset, .unset, .unset, .unset, .unset, .unset, .unset, .unset, .unset, .unset, .unset]) rfl k) ?_
       show G (T735.setTop (mkF m 85 #[vI u0, vI u1, vI u2, vI om, vI ol, vI p1, vI nv, vI im, vI ig, .unset, .unset, .unset, .unset, .unset, .unset, .unset, .unset, .unset, .unset, .unset, .unset, .unset] []))
       have J95 : ∀ (T : State) (locs : List Loc), Stand p l e room_1 s m #[(.int u0), (.int u1), (.int u2)] below meth c T locs 0 0 → T.heap = h0 → Fr n0 locs → ∀ (p2 : Int32), (p2.toInt = perOf im) → G (T.setTop (mkF m 95 #[vI u0, vI u1, vI u2, vI om, vI ol, vI p1, vI nv, vI im, vI ig, .unset, .unset, .unset, .unset, .unset, .unset, .unset, .unset, .unset, .unset, .unset, .unset, .unset] [(.int p2)])) := by
        intro T736 locs736 X736 e736 N736j p2 hp2
        show G (T736.setTop (mkF m 95 #[vI u0, vI u1, vI u2, vI om, vI ol, vI p1, vI nv, vI im, vI ig, .unset, .unset, .unset, .unset, .unset, .unset, .unset, .unset, .unset, .unset, .unset, .unset, .unset] [(.int p2)]))
        refine go _ _ (fun _ k => XS.istore X736.here hx rfl (hb hby at_95) rfl (l' := #[vI u0, vI u1, vI u2, vI om, vI ol, vI p1, vI nv, vI im, vI ig, vI p2, .unset, .unset, .unset, .unset, .unset, .unset, .unset, .unset, .unset, .unset, .unset, .unset]) rfl k) ?_
        show G (T736.setTop (mkF m 97 #[vI u0, vI u1, vI u2, vI om, vI ol, vI p1, vI nv, vI im, vI ig, vI p2, .unset, .unset, .unset, .unset, .unset, .unset, .unset, .unset, .unset, .unset, .unset, .unset] []))
        refine go _ _ (fun _ k => XS.iloadN X736.here hx rfl (hb hby at_97) rfl  k) ?_
        show G (T736.setTop (mkF m 98 #[vI u0, vI u1, vI u2, vI om, vI ol, vI p1, vI nv, vI im, vI ig, vI p2, .unset, .unset, .unset, .unset, .unset, .unset, .unset, .unset, .unset, .unset, .unset, .unset] [(.int u1)]))
        refine go _ _ (fun _ k => XS.iconst X736.here hx rfl (hb hby at_98) k) ?_
        show G (T736.setTop (mkF m 99 #[vI u0, vI u1, vI u2, vI om, vI ol, vI p1, vI nv, vI im, vI ig, vI p2, .unset, .unset, .unset, .unset, .unset, .unset, .unset, .unset, .unset, .unset, .unset, .unset] [(.int (2 : Int32)), (.int u1)]))
        refine go _ _ (fun _ k => XS.iushr X736.here hx rfl (hb hby at_99) rfl k) ?_
        show G (T736.setTop (mkF m 100 #[vI u0, vI u1, vI u2, vI om, vI ol, vI p1, vI nv, vI im, vI ig, vI p2, .unset, .unset, .unset, .unset, .unset, .unset, .unset, .unset, .unset, .unset, .unset, .unset] [(.int ((u1.toUInt32 >>> ((2 : Int32) &&& 31).toUInt32).toInt32))]))
        have J117 : ∀ (T : State) (locs : List Loc), Stand p l e room_1 s m #[(.int u0), (.int u1), (.int u2)] below meth c T locs 0 0 → T.heap = h0 → Fr n0 locs → ∀ (yv : Int32) (yN : Nat), (yv.toInt = yN) → (1 ≤ yN) → ((yN - 1) * perOf im ≤ 56) → (ig = 0 → yN ≤ 24) → G (T.setTop (mkF m 117 #[vI u0, vI u1, vI u2, vI om, vI ol, vI p1, vI nv, vI im, vI ig, vI p2, .unset, .unset, .unset, .unset, .unset, .unset, .unset, .unset, .unset, .unset, .unset, .unset] [(.int yv), (.int ((u1.toUInt32 >>> ((2 : Int32) &&& 31).toUInt32).toInt32))])) := by
         intro T737 locs737 X737 e737 N737j yv yN hyv hy1 hy2 hy3
         show G (T737.setTop (mkF m 117 #[vI u0, vI u1, vI u2, vI om, vI ol, vI p1, vI nv, vI im, vI ig, vI p2, .unset, .unset, .unset, .unset, .unset, .unset, .unset, .unset, .unset, .unset, .unset, .unset] [(.int yv), (.int ((u1.toUInt32 >>> ((2 : Int32) &&& 31).toUInt32).toInt32))]))
         refine go _ _ (fun _ k => iremM X737 hx rfl (hb hby at_117) rfl (own_nz hyv hy1) k) ?_
         show G (T737.setTop (mkF m 118 #[vI u0, vI u1, vI u2, vI om, vI ol, vI p1, vI nv, vI im, vI ig, vI p2, .unset, .unset, .unset, .unset, .unset, .unset, .unset, .unset, .unset, .unset, .unset, .unset] [(.int (((u1.toUInt32 >>> ((2 : Int32) &&& 31).toUInt32).toInt32) % yv))]))
         refine go _ _ (fun _ k => XS.istore X737.here hx rfl (hb hby at_118) rfl (l' := #[vI u0, vI u1, vI u2, vI om, vI ol, vI p1, vI nv, vI im, vI ig, vI p2, vI (((u1.toUInt32 >>> ((2 : Int32) &&& 31).toUInt32).toInt32) % yv), .unset, .unset, .unset, .unset, .unset, .unset, .unset, .unset, .unset, .unset, .unset]) rfl k) ?_
         show G (T737.setTop (mkF m 120 #[vI u0, vI u1, vI u2, vI om, vI ol, vI p1, vI nv, vI im, vI ig, vI p2, vI (((u1.toUInt32 >>> ((2 : Int32) &&& 31).toUInt32).toInt32) % yv), .unset, .unset, .unset, .unset, .unset, .unset, .unset, .unset, .unset, .unset, .unset] []))
         obtain ⟨mv, hmv⟩ : ∃ z, z = (((u1.toUInt32 >>> ((2 : Int32) &&& 31).toUInt32).toInt32) % yv) := ⟨_, rfl⟩
         rw [← hmv]
         show G (T737.setTop (mkF m 120 #[vI u0, vI u1, vI u2, vI om, vI ol, vI p1, vI nv, vI im, vI ig, vI p2, vI mv, .unset, .unset, .unset, .unset, .unset, .unset, .unset, .unset, .unset, .unset, .unset] []))
         obtain ⟨mN, hmN, hm1⟩ := own_mm hyv hy1 hmv
         have hm2 : mN * perOf im ≤ 56 := Nat.le_trans (Nat.mul_le_mul_right _ (by omega)) hy2
         have hm3 : ig = 0 → mN ≤ 23 := fun z => by have := hy3 z; omega
         have hm5 : mN ≤ 56 := by rcases own_per im with q | q <;> rw [q] at hm2 <;> omega
         refine go _ _ (fun _ k => XS.iloadN X737.here hx rfl (hb hby at_120) rfl  k) ?_
         show G (T737.setTop (mkF m 121 #[vI u0, vI u1, vI u2, vI om, vI ol, vI p1, vI nv, vI im, vI ig, vI p2, vI mv, .unset, .unset, .unset, .unset, .unset, .unset, .unset, .unset, .unset, .unset, .unset] [(.int u2)]))
         refine go _ _ (fun _ k => XS.iconst X737.here hx rfl (hb hby at_121) k) ?_
         show G (T737.setTop (mkF m 122 #[vI u0, vI u1, vI u2, vI om, vI ol, vI p1, vI nv, vI im, vI ig, vI p2, vI mv, .unset, .unset, .unset, .unset, .unset, .unset, .unset, .unset, .unset, .unset, .unset] [(.int (3 : Int32)), (.int u2)]))
         refine go _ _ (fun _ k => XS.iand X737.here hx rfl (hb hby at_122) rfl k) ?_
         show G (T737.setTop (mkF m 123 #[vI u0, vI u1, vI u2, vI om, vI ol, vI p1, vI nv, vI im, vI ig, vI p2, vI mv, .unset, .unset, .unset, .unset, .unset, .unset, .unset, .unset, .unset, .unset, .unset] [(.int (u2 &&& (3 : Int32)))]))
         refine go _ _ (fun _ k => XS.istore X737.here hx rfl (hb hby at_123) rfl (l' := #[vI u0, vI u1, vI u2, vI om, vI ol, vI p1, vI nv, vI im, vI ig, vI p2, vI mv, vI (u2 &&& (3 : Int32)), .unset, .unset, .unset, .unset, .unset, .unset, .unset, .unset, .unset, .unset]) rfl k) ?_
         show G (T737.setTop (mkF m 125 #[vI u0, vI u1, vI u2, vI om, vI ol, vI p1, vI nv, vI im, vI ig, vI p2, vI mv, vI (u2 &&& (3 : Int32)), .unset, .unset, .unset, .unset, .unset, .unset, .unset, .unset, .unset, .unset] []))
         obtain ⟨kv, hkv⟩ : ∃ z, z = (u2 &&& (3 : Int32)) := ⟨_, rfl⟩
         rw [← hkv]
         show G (T737.setTop (mkF m 125 #[vI u0, vI u1, vI u2, vI om, vI ol, vI p1, vI nv, vI im, vI ig, vI p2, vI mv, vI kv, .unset, .unset, .unset, .unset, .unset, .unset, .unset, .unset, .unset, .unset] []))
         have hk4 : k4 kv := hkv ▸ own_and3 _
         have J136 : ∀ (T : State) (locs : List Loc), Stand p l e room_1 s m #[(.int u0), (.int u1), (.int u2)] below meth c T locs 0 0 → T.heap = h0 → Fr n0 locs → ∀ (tg : Int32), G (T.setTop (mkF m 136 #[vI u0, vI u1, vI u2, vI om, vI ol, vI p1, vI nv, vI im, vI ig, vI p2, vI mv, vI kv, .unset, .unset, .unset, .unset, .unset, .unset, .unset, .unset, .unset, .unset] [(.int tg)])) := by
          intro T738 locs738 X738 e738 N738j tg 
          show G (T738.setTop (mkF m 136 #[vI u0, vI u1, vI u2, vI om, vI ol, vI p1, vI nv, vI im, vI ig, vI p2, vI mv, vI kv, .unset, .unset, .unset, .unset, .unset, .unset, .unset, .unset, .unset, .unset] [(.int tg)]))
          refine go _ _ (fun _ k => XS.istore X738.here hx rfl (hb hby at_136) rfl (l' := #[vI u0, vI u1, vI u2, vI om, vI ol, vI p1, vI nv, vI im, vI ig, vI p2, vI mv, vI kv, vI tg, .unset, .unset, .unset, .unset, .unset, .unset, .unset, .unset, .unset]) rfl k) ?_
          show G (T738.setTop (mkF m 138 #[vI u0, vI u1, vI u2, vI om, vI ol, vI p1, vI nv, vI im, vI ig, vI p2, vI mv, vI kv, vI tg, .unset, .unset, .unset, .unset, .unset, .unset, .unset, .unset, .unset] []))
          refine go _ _ (fun _ k => XS.bipush X738.here hx rfl (hb hby at_138) k) ?_
          show G (T738.setTop (mkF m 140 #[vI u0, vI u1, vI u2, vI om, vI ol, vI p1, vI nv, vI im, vI ig, vI p2, vI mv, vI kv, vI tg, .unset, .unset, .unset, .unset, .unset, .unset, .unset, .unset, .unset] [(.int (64 : Int32))]))
          refine own_newarr go X738 hx hZ e738 (g := (mkF m 140 #[vI u0, vI u1, vI u2, vI om, vI ol, vI p1, vI nv, vI im, vI ig, vI p2, vI mv, vI kv, vI tg, .unset, .unset, .unset, .unset, .unset, .unset, .unset, .unset, .unset] [(.int (64 : Int32))])) rfl (wd hw 0 rfl) 64 rfl (hb hby at_140) rfl 64 (by decide) (by decide) (by decide) (by decide) ?_
          intro T739 h739 b739 X739 e739 E739 g739 A739
          have g_b739 : n0 ≤ b739 := Nat.le_trans Z0 (Nat.le_of_eq g739.symm)
          have Z740 : n0 ≤ h739.size := Nat.le_trans Z0 E739.1
          have Y741 : kS ≤ h739.size := Nat.le_trans Zk0 E739.1
          show G (T739.setTop (mkF m 142 #[vI u0, vI u1, vI u2, vI om, vI ol, vI p1, vI nv, vI im, vI ig, vI p2, vI mv, vI kv, vI tg, .unset, .unset, .unset, .unset, .unset, .unset, .unset, .unset, .unset] [(.ref b739)]))
          obtain ⟨gz, hgz⟩ : ∃ z : Nat → Int32, z = fun _ => 0 := ⟨_, rfl⟩
          have Agz : Ary Z h739 b739 .byte 64 (fun i => .int (gz i)) := A739.cong (fun i hi => by rw [hgz]; rfl)
          have hz0 : ∀ i, gz i = 0 := fun i => by rw [hgz]
          refine go _ _ (fun _ k => XS.astore X739.here hx rfl (hb hby at_142) rfl rfl (l' := #[vI u0, vI u1, vI u2, vI om, vI ol, vI p1, vI nv, vI im, vI ig, vI p2, vI mv, vI kv, vI tg, vR b739, .unset, .unset, .unset, .unset, .unset, .unset, .unset, .unset]) rfl k) ?_
          show G (T739.setTop (mkF m 144 #[vI u0, vI u1, vI u2, vI om, vI ol, vI p1, vI nv, vI im, vI ig, vI p2, vI mv, vI kv, vI tg, vR b739, .unset, .unset, .unset, .unset, .unset, .unset, .unset, .unset] []))
          have J184 : ∀ (s : State) (kS : Nat), Z.Warmed39 s.vm → s.vm.findClass "com/example/brevidns/brevidns/CborReaderItemsLeftPinLaw" = some m.cls → RtB p l e room_1 s m #[(.int u0), (.int u1), (.int u2)] below meth c (fun v h L => v = some (.int 1) ∧ Fr n0 L) (room_1).cells (room_1).slots G kS → ∀ (T : State) (lc : List Loc) (h : Heap), Stand p l e room_1 s m #[(.int u0), (.int u1), (.int u2)] below meth c T lc 1 64 → T.heap = h → Fr n0 lc → n0 ≤ h.size → kS ≤ h.size → ∀ (g0 : Nat → Int32) (kN : Nat), (kv.toInt = kN) → (kN ≤ 3) → (∀ i, i < kN → Head g0 4 i 1 1) → (∀ i, kN ≤ i → g0 i = 0) → Ary Z h b739 .byte 64 (fun i => .int (g0 i)) → Sta Z h "com/example/brevidns/brevidns/CborReader$Kind" "UNSIGNED_INTEGER" "Lcom/example/brevidns/brevidns/CborReader$Kind;" (.ref zu) → Sta Z h "com/example/brevidns/brevidns/CborReader$Kind" "ARRAY" "Lcom/example/brevidns/brevidns/CborReader$Kind;" (.ref za) → Sta Z h "com/example/brevidns/brevidns/CborReader$Kind" "MAP" "Lcom/example/brevidns/brevidns/CborReader$Kind;" (.ref zm) → Sta Z h "com/example/brevidns/brevidns/CborReader$Kind" "TAG" "Lcom/example/brevidns/brevidns/CborReader$Kind;" (.ref zt) → G (T.setTop (mkF m 184 #[vI u0, vI u1, vI u2, vI om, vI ol, vI p1, vI nv, vI im, vI ig, vI p2, vI mv, vI kv, vI tg, vR b739, vI kv, .unset, .unset, .unset, .unset, .unset, .unset, .unset] [])) := by
           intro s kS hZ hown rb
           have rt := own_rt rb
           intro T742 lc742 h742 X742 e742 N742  Z742 Y742 g0 kN hkN hk3 hV hz f742_0 f742_1 f742_2 f742_3 f742_4
           show G (T742.setTop (mkF m 184 #[vI u0, vI u1, vI u2, vI om, vI ol, vI p1, vI nv, vI im, vI ig, vI p2, vI mv, vI kv, vI tg, vR b739, vI kv, .unset, .unset, .unset, .unset, .unset, .unset, .unset] []))
           have J197 : ∀ (T : State) (locs : List Loc), Stand p l e room_1 s m #[(.int u0), (.int u1), (.int u2)] below meth c T locs 1 64 → T.heap = h742 → Fr n0 locs → ∀ (mv1 : Int32), (mv1 = mvOf om) → G (T.setTop (mkF m 197 #[vI u0, vI u1, vI u2, vI om, vI ol, vI p1, vI nv, vI im, vI ig, vI p2, vI mv, vI kv, vI tg, vR b739, vI kv, .unset, .unset, .unset, .unset, .unset, .unset, .unset] [(.int mv1)])) := by
            intro T743 locs743 X743 e743 N743j mv1 hmv1
            subst hmv1
            show G (T743.setTop (mkF m 197 #[vI u0, vI u1, vI u2, vI om, vI ol, vI p1, vI nv, vI im, vI ig, vI p2, vI mv, vI kv, vI tg, vR b739, vI kv, .unset, .unset, .unset, .unset, .unset, .unset, .unset] [(.int (mvOf om))]))
            refine go _ _ (fun _ k => XS.istore X743.here hx rfl (hb hby at_197) rfl (l' := #[vI u0, vI u1, vI u2, vI om, vI ol, vI p1, vI nv, vI im, vI ig, vI p2, vI mv, vI kv, vI tg, vR b739, vI kv, vI (mvOf om), .unset, .unset, .unset, .unset, .unset, .unset]) rfl k) ?_
            show G (T743.setTop (mkF m 199 #[vI u0, vI u1, vI u2, vI om, vI ol, vI p1, vI nv, vI im, vI ig, vI p2, vI mv, vI kv, vI tg, vR b739, vI kv, vI (mvOf om), .unset, .unset, .unset, .unset, .unset, .unset] []))
            have J251 : ∀ (s : State) (kS : Nat), Z.Warmed39 s.vm → s.vm.findClass "com/example/brevidns/brevidns/CborReaderItemsLeftPinLaw" = some m.cls → RtB p l e room_1 s m #[(.int u0), (.int u1), (.int u2)] below meth c (fun v h L => v = some (.int 1) ∧ Fr n0 L) (room_1).cells (room_1).slots G kS → ∀ (T : State) (lc : List Loc) (h : Heap), Stand p l e room_1 s m #[(.int u0), (.int u1), (.int u2)] below meth c T lc 1 64 → T.heap = h → Fr n0 lc → n0 ≤ h.size → kS ≤ h.size → ∀ (pv : Int32) (w1 : Nat) (g1 : Nat → Int32), (pv.toInt = ((kN + w1 : Nat) : Int)) → (Head g1 (mjOf om) kN w1 nN) → (∀ i, i < kN → Head g1 4 i 1 1) → (∀ i, kN + w1 ≤ i → g1 i = 0) → Ary Z h b739 .byte 64 (fun i => .int (g1 i)) → Sta Z h "com/example/brevidns/brevidns/CborReader$Kind" "UNSIGNED_INTEGER" "Lcom/example/brevidns/brevidns/CborReader$Kind;" (.ref zu) → Sta Z h "com/example/brevidns/brevidns/CborReader$Kind" "ARRAY" "Lcom/example/brevidns/brevidns/CborReader$Kind;" (.ref za) → Sta Z h "com/example/brevidns/brevidns/CborReader$Kind" "MAP" "Lcom/example/brevidns/brevidns/CborReader$Kind;" (.ref zm) → Sta Z h "com/example/brevidns/brevidns/CborReader$Kind" "TAG" "Lcom/example/brevidns/brevidns/CborReader$Kind;" (.ref zt) → G (T.setTop (mkF m 251 #[vI u0, vI u1, vI u2, vI om, vI ol, vI p1, vI nv, vI im, vI ig, vI p2, vI mv, vI kv, vI tg, vR b739, vI pv, vI (mvOf om), .unset, .unset, .unset, .unset, .unset, .unset] [])) := by
             intro s kS hZ hown rb
             have rt := own_rt rb
             intro T744 lc744 h744 X744 e744 N744  Z744 Y744 pv w1 g1 hpv H1 hV hz f744_0 f744_1 f744_2 f744_3 f744_4
             have ww1 := H1.ww
             show G (T744.setTop (mkF m 251 #[vI u0, vI u1, vI u2, vI om, vI ol, vI p1, vI nv, vI im, vI ig, vI p2, vI mv, vI kv, vI tg, vR b739, vI pv, vI (mvOf om), .unset, .unset, .unset, .unset, .unset, .unset] []))
             have J265 : ∀ (T : State) (locs : List Loc), Stand p l e room_1 s m #[(.int u0), (.int u1), (.int u2)] below meth c T locs 1 64 → T.heap = h744 → Fr n0 locs → ∀ (mv2 : Int32), (mv2 = mvOf im) → G (T.setTop (mkF m 265 #[vI u0, vI u1, vI u2, vI om, vI ol, vI p1, vI nv, vI im, vI ig, vI p2, vI mv, vI kv, vI tg, vR b739, vI pv, vI (mvOf om), .unset, .unset, .unset, .unset, .unset, .unset] [(.int mv2)])) := by
              intro T745 locs745 X745 e745 N745j mv2 hmv2
              subst hmv2
              show G (T745.setTop (mkF m 265 #[vI u0, vI u1, vI u2, vI om, vI ol, vI p1, vI nv, vI im, vI ig, vI p2, vI mv, vI kv, vI tg, vR b739, vI pv, vI (mvOf om), .unset, .unset, .unset, .unset, .unset, .unset] [(.int (mvOf im))]))
              refine go _ _ (fun _ k => XS.istore X745.here hx rfl (hb hby at_265) rfl (l' := #[vI u0, vI u1, vI u2, vI om, vI ol, vI p1, vI nv, vI im, vI ig, vI p2, vI mv, vI kv, vI tg, vR b739, vI pv, vI (mvOf om), vI (mvOf im), .unset, .unset, .unset, .unset, .unset]) rfl k) ?_
              show G (T745.setTop (mkF m 267 #[vI u0, vI u1, vI u2, vI om, vI ol, vI p1, vI nv, vI im, vI ig, vI p2, vI mv, vI kv, vI tg, vR b739, vI pv, vI (mvOf om), vI (mvOf im), .unset, .unset, .unset, .unset, .unset] []))
              have J319 : ∀ (s : State) (kS : Nat), Z.Warmed39 s.vm → s.vm.findClass "com/example/brevidns/brevidns/CborReaderItemsLeftPinLaw" = some m.cls → RtB p l e room_1 s m #[(.int u0), (.int u1), (.int u2)] below meth c (fun v h L => v = some (.int 1) ∧ Fr n0 L) (room_1).cells (room_1).slots G kS → ∀ (T : State) (lc : List Loc) (h : Heap), Stand p l e room_1 s m #[(.int u0), (.int u1), (.int u2)] below meth c T lc 1 64 → T.heap = h → Fr n0 lc → n0 ≤ h.size → kS ≤ h.size → ∀ (qv : Int32) (w2 : Nat) (g2 : Nat → Int32), (qv.toInt = ((kN + w1 + w2 : Nat) : Int)) → (Head g2 (mjOf om) kN w1 nN) → (Head g2 (mjOf im) (kN + w1) w2 mN) → (∀ i, i < kN → Head g2 4 i 1 1) → (∀ i, kN + w1 + w2 ≤ i → g2 i = 0) → Ary Z h b739 .byte 64 (fun i => .int (g2 i)) → Sta Z h "com/example/brevidns/brevidns/CborReader$Kind" "UNSIGNED_INTEGER" "Lcom/example/brevidns/brevidns/CborReader$Kind;" (.ref zu) → Sta Z h "com/example/brevidns/brevidns/CborReader$Kind" "ARRAY" "Lcom/example/brevidns/brevidns/CborReader$Kind;" (.ref za) → Sta Z h "com/example/brevidns/brevidns/CborReader$Kind" "MAP" "Lcom/example/brevidns/brevidns/CborReader$Kind;" (.ref zm) → Sta Z h "com/example/brevidns/brevidns/CborReader$Kind" "TAG" "Lcom/example/brevidns/brevidns/CborReader$Kind;" (.ref zt) → G (T.setTop (mkF m 319 #[vI u0, vI u1, vI u2, vI om, vI ol, vI p1, vI nv, vI im, vI ig, vI p2, vI mv, vI kv, vI tg, vR b739, vI qv, vI (mvOf om), vI (mvOf im), .unset, .unset, .unset, .unset, .unset] [])) := by
               intro s kS hZ hown rb
               have rt := own_rt rb
               intro T746 lc746 h746 X746 e746 N746  Z746 Y746 qv w2 g2 hqv H1 H2 hV hz f746_0 f746_1 f746_2 f746_3 f746_4
               have ww2 := H2.ww
               show G (T746.setTop (mkF m 319 #[vI u0, vI u1, vI u2, vI om, vI ol, vI p1, vI nv, vI im, vI ig, vI p2, vI mv, vI kv, vI tg, vR b739, vI qv, vI (mvOf om), vI (mvOf im), .unset, .unset, .unset, .unset, .unset] []))
               have J331 : ∀ (s : State) (kS : Nat), Z.Warmed39 s.vm → s.vm.findClass "com/example/brevidns/brevidns/CborReaderItemsLeftPinLaw" = some m.cls → RtB p l e room_1 s m #[(.int u0), (.int u1), (.int u2)] below meth c (fun v h L => v = some (.int 1) ∧ Fr n0 L) (room_1).cells (room_1).slots G kS → ∀ (T : State) (lc : List Loc) (h : Heap), Stand p l e room_1 s m #[(.int u0), (.int u1), (.int u2)] below meth c T lc 1 64 → T.heap = h → Fr n0 lc → n0 ≤ h.size → kS ≤ h.size → ∀ (g3 : Nat → Int32), (Head g3 (mjOf om) kN w1 nN) → (Head g3 (mjOf im) (kN + w1) w2 mN) → (∀ i, i < kN → Head g3 4 i 1 1) → ((tg = 0 ∧ Head g3 0 (kN + w1 + w2) 1 0) ∨ (¬ tg = 0 ∧ Head g3 6 (kN + w1 + w2) 1 6 ∧ Head g3 0 ((kN + w1 + w2) + 1) 1 0)) → Ary Z h b739 .byte 64 (fun i => .int (g3 i)) → Sta Z h "com/example/brevidns/brevidns/CborReader$Kind" "UNSIGNED_INTEGER" "Lcom/example/brevidns/brevidns/CborReader$Kind;" (.ref zu) → Sta Z h "com/example/brevidns/brevidns/CborReader$Kind" "ARRAY" "Lcom/example/brevidns/brevidns/CborReader$Kind;" (.ref za) → Sta Z h "com/example/brevidns/brevidns/CborReader$Kind" "MAP" "Lcom/example/brevidns/brevidns/CborReader$Kind;" (.ref zm) → Sta Z h "com/example/brevidns/brevidns/CborReader$Kind" "TAG" "Lcom/example/brevidns/brevidns/CborReader$Kind;" (.ref zt) → G (T.setTop (mkF m 331 #[vI u0, vI u1, vI u2, vI om, vI ol, vI p1, vI nv, vI im, vI ig, vI p2, vI mv, vI kv, vI tg, vR b739, vI qv, vI (mvOf om), vI (mvOf im), .unset, .unset, .unset, .unset, .unset] [])) := by
                intro s kS hZ hown rb
                have rt := own_rt rb
                intro T747 lc747 h747 X747 e747 N747  Z747 Y747 g3 H1 H2 hV HT f747_0 f747_1 f747_2 f747_3 f747_4
                show G (T747.setTop (mkF m 331 #[vI u0, vI u1, vI u2, vI om, vI ol, vI p1, vI nv, vI im, vI ig, vI p2, vI mv, vI kv, vI tg, vR b739, vI qv, vI (mvOf om), vI (mvOf im), .unset, .unset, .unset, .unset, .unset] []))
                obtain ⟨T748, h748, X748, e748, E748, A748, D748, -, st748⟩ := newO X747 hx hZ hown (wd hw 1 rfl) (wd hw 2 rfl) (wd hw 3 rfl) e747 (g := (mkF m 331 #[vI u0, vI u1, vI u2, vI om, vI ol, vI p1, vI nv, vI im, vI ig, vI p2, vI mv, vI kv, vI tg, vR b739, vI qv, vI (mvOf om), vI (mvOf im), .unset, .unset, .unset, .unset, .unset] [])) rfl (hb hby at_331) (by decide) (by decide)
                obtain ⟨b748, g748⟩ : ∃ z, z = h747.size := ⟨_, rfl⟩
                rw [← g748] at A748 D748 st748
                have ne749 : b739 ≠ b748 := Nat.ne_of_lt (by rw [g748]; exact f747_0.lt)
                have g_b748 : n0 ≤ b748 := Nat.le_trans Z747 (Nat.le_of_eq g748.symm)
                have Z750 : n0 ≤ h748.size := Nat.le_trans Z747 E748.1
                have Y751 : kS ≤ h748.size := Nat.le_trans Y747 E748.1
                have F752 : Fld Z h748 b748 "com/example/brevidns/brevidns/CborReader" "itemsLeft" "[I" .null := D748 (Or.inl (wd hw 12 rfl)) (ty := (.array .int)) (by decide)
                have F753 : Fld Z h748 b748 "com/example/brevidns/brevidns/CborReader" "input" "[B" .null := D748 (Or.inr (wd hw 14 rfl)) (ty := (.array .byte)) (by decide)
                have F754 : Fld Z h748 b748 "com/example/brevidns/brevidns/CborReader" "position" "I" (.int (0 : Int32)) := D748 (Or.inl (wd hw 36 rfl)) (ty := .int) (by decide)
                have F755 : Fld Z h748 b748 "com/example/brevidns/brevidns/CborReader" "depth" "I" (.int (0 : Int32)) := D748 (Or.inl (wd hw 51 rfl)) (ty := .int) (by decide)
                refine go _ _ st748 ?_
                show G (T748.setTop (mkF m 334 #[vI u0, vI u1, vI u2, vI om, vI ol, vI p1, vI nv, vI im, vI ig, vI p2, vI mv, vI kv, vI tg, vR b739, vI qv, vI (mvOf om), vI (mvOf im), .unset, .unset, .unset, .unset, .unset] [(.ref b748)]))
                refine go _ _ (fun _ k => XS.dup X748.here hx rfl (hb hby at_334) rfl rfl k) ?_
                show G (T748.setTop (mkF m 335 #[vI u0, vI u1, vI u2, vI om, vI ol, vI p1, vI nv, vI im, vI ig, vI p2, vI mv, vI kv, vI tg, vR b739, vI qv, vI (mvOf om), vI (mvOf im), .unset, .unset, .unset, .unset, .unset] [(.ref b748), (.ref b748)]))
                refine go _ _ (fun _ k => XS.aload X748.here hx rfl (hb hby at_335) rfl rfl  k) ?_
                show G (T748.setTop (mkF m 337 #[vI u0, vI u1, vI u2, vI om, vI ol, vI p1, vI nv, vI im, vI ig, vI p2, vI mv, vI kv, vI tg, vR b739, vI qv, vI (mvOf om), vI (mvOf im), .unset, .unset, .unset, .unset, .unset] [(.ref b739), (.ref b748), (.ref b748)]))
                have f756 := (f747_0.ext E748)
                refine own_init go X748 hx hZ e748 rfl hown (wd hw 4 rfl) (wd hw 5 rfl) (wd hw 3 rfl) (wd hw 6 rfl) (by decide) (rm_in l Z a0 hw b748 b739 h748 n0 Z750 g_b748 A748 F753 F754 F752 F755) 1 (by decide) (by decide) (by decide) (by decide) (g := (mkF m 337 #[vI u0, vI u1, vI u2, vI om, vI ol, vI p1, vI nv, vI im, vI ig, vI p2, vI mv, vI kv, vI tg, vR b739, vI qv, vI (mvOf om), vI (mvOf im), .unset, .unset, .unset, .unset, .unset] [(.ref b739), (.ref b748), (.ref b748)])) rfl (by rw [hml]; rfl) b748 [(.ref b739)] [(.ref b748)] rfl (lenOf pd_9 rfl) rfl (by show 2 * 0 + _ ≤ _; exact Nat.le_of_eq rfl) (hb hby at_337) ?_
                intro T757 L757 v757 X757 q757
                obtain ⟨rfl, N757, K757, il, Fp757, Fi757, Fl757, Fd757, B757, g_il, szq⟩ := q757
                have n20 : il ≠ b748 := Ne.symm (Nat.ne_of_lt (Nat.lt_of_lt_of_le A748.lt szq))
                have n12 : b739 ≠ il := Nat.ne_of_lt (Nat.lt_of_lt_of_le f756.lt szq)
                have ns758 : ∀ w ∈ [b748], ∃ c : Cell, h748[w]? = some c ∧ c.vm.isStatics = false := (allS (own_exa_ns A748) all0)
                obtain ⟨lc757, X757h, N757h⟩ := own_hide X757 (Fr.app N747 N757)
                have Z759 : n0 ≤ T757.heap.size := Nat.le_trans Z750 K757.1
                have Y760 : kS ≤ T757.heap.size := Nat.le_trans Y751 K757.1
                show G (T757.setTop (mkF m 340 #[vI u0, vI u1, vI u2, vI om, vI ol, vI p1, vI nv, vI im, vI ig, vI p2, vI mv, vI kv, vI tg, vR b739, vI qv, vI (mvOf om), vI (mvOf im), .unset, .unset, .unset, .unset, .unset] [(.ref b748)]))
                refine go _ _ (fun _ k => XS.astore X757h.here hx rfl (hb hby at_340) rfl rfl (l' := #[vI u0, vI u1, vI u2, vI om, vI ol, vI p1, vI nv, vI im, vI ig, vI p2, vI mv, vI kv, vI tg, vR b739, vI qv, vI (mvOf om), vI (mvOf im), vR b748, .unset, .unset, .unset, .unset]) rfl k) ?_
                show G (T757.setTop (mkF m 342 #[vI u0, vI u1, vI u2, vI om, vI ol, vI p1, vI nv, vI im, vI ig, vI p2, vI mv, vI kv, vI tg, vR b739, vI qv, vI (mvOf om), vI (mvOf im), vR b748, .unset, .unset, .unset, .unset] []))
                have J375 : ∀ (s : State) (kS : Nat), Z.Warmed39 s.vm → s.vm.findClass "com/example/brevidns/brevidns/CborReaderItemsLeftPinLaw" = some m.cls → RtB p l e room_1 s m #[(.int u0), (.int u1), (.int u2)] below meth c (fun v h L => v = some (.int 1) ∧ Fr n0 L) (room_1).cells (room_1).slots G kS → ∀ (T : State) (lc : List Loc) (h : Heap), Stand p l e room_1 s m #[(.int u0), (.int u1), (.int u2)] below meth c T lc 15 264 → T.heap = h → Fr n0 lc → n0 ≤ h.size → kS ≤ h.size → ∀ (po dp : Int32) (t3 : Nat → Int32), (po.toInt = kN) → (dp.toInt = kN) → (1 ≤ kN → ¬ t3 (kN - 1) = 0) → Exa Z h b748 "com/example/brevidns/brevidns/CborReader" → Fld Z h b748 "com/example/brevidns/brevidns/CborReader" "position" "I" (.int po) → Fld Z h b748 "com/example/brevidns/brevidns/CborReader" "input" "[B" (.ref b739) → Fld Z h b748 "com/example/brevidns/brevidns/CborReader" "itemsLeft" "[I" (.ref il) → Fld Z h b748 "com/example/brevidns/brevidns/CborReader" "depth" "I" (.int dp) → Ary Z h b739 .byte 64 (fun i => .int (g3 i)) → Ary Z h il .int 4 (fun i => .int (t3 i)) → Sta Z h "com/example/brevidns/brevidns/CborReader$Kind" "UNSIGNED_INTEGER" "Lcom/example/brevidns/brevidns/CborReader$Kind;" (.ref zu) → Sta Z h "com/example/brevidns/brevidns/CborReader$Kind" "ARRAY" "Lcom/example/brevidns/brevidns/CborReader$Kind;" (.ref za) → Sta Z h "com/example/brevidns/brevidns/CborReader$Kind" "MAP" "Lcom/example/brevidns/brevidns/CborReader$Kind;" (.ref zm) → Sta Z h "com/example/brevidns/brevidns/CborReader$Kind" "TAG" "Lcom/example/brevidns/brevidns/CborReader$Kind;" (.ref zt) → G (T.setTop (mkF m 375 #[vI u0, vI u1, vI u2, vI om, vI ol, vI p1, vI nv, vI im, vI ig, vI p2, vI mv, vI kv, vI tg, vR b739, vI qv, vI (mvOf om), vI (mvOf im), vR b748, .unset, .unset, .unset, .unset] [])) := by
                 intro s kS hZ hown rb
                 have rt := own_rt rb
                 intro T761 lc761 h761 X761 e761 N761  Z761 Y761 po dp t3 hpo hdp hnz f761_0 f761_1 f761_2 f761_3 f761_4 f761_5 f761_6 f761_7 f761_8 f761_9 f761_10
                 show G (T761.setTop (mkF m 375 #[vI u0, vI u1, vI u2, vI om, vI ol, vI p1, vI nv, vI im, vI ig, vI p2, vI mv, vI kv, vI tg, vR b739, vI qv, vI (mvOf om), vI (mvOf im), vR b748, .unset, .unset, .unset, .unset] []))
                 have J392 : ∀ (s : State) (kS : Nat), Z.Warmed39 s.vm → s.vm.findClass "com/example/brevidns/brevidns/CborReaderItemsLeftPinLaw" = some m.cls → RtB p l e room_1 s m #[(.int u0), (.int u1), (.int u2)] below meth c (fun v h L => v = some (.int 1) ∧ Fr n0 L) (room_1).cells (room_1).slots G kS → ∀ (T : State) (lc : List Loc) (h : Heap), Stand p l e room_1 s m #[(.int u0), (.int u1), (.int u2)] below meth c T lc 19 328 → T.heap = h → Fr n0 lc → n0 ≤ h.size → kS ≤ h.size → ∀ (po dp : Int32) (t4 : Nat → Int32), (po.toInt = ((kN + w1 : Nat) : Int)) → (dp.toInt = ((kN + 1 : Nat) : Int)) → (t4 kN = Int32.ofNat (nN * perOf om)) → Exa Z h b748 "com/example/brevidns/brevidns/CborReader" → Fld Z h b748 "com/example/brevidns/brevidns/CborReader" "position" "I" (.int po) → Fld Z h b748 "com/example/brevidns/brevidns/CborReader" "input" "[B" (.ref b739) → Fld Z h b748 "com/example/brevidns/brevidns/CborReader" "itemsLeft" "[I" (.ref il) → Fld Z h b748 "com/example/brevidns/brevidns/CborReader" "depth" "I" (.int dp) → Ary Z h b739 .byte 64 (fun i => .int (g3 i)) → Ary Z h il .int 4 (fun i => .int (t4 i)) → Sta Z h "com/example/brevidns/brevidns/CborReader$Kind" "UNSIGNED_INTEGER" "Lcom/example/brevidns/brevidns/CborReader$Kind;" (.ref zu) → Sta Z h "com/example/brevidns/brevidns/CborReader$Kind" "ARRAY" "Lcom/example/brevidns/brevidns/CborReader$Kind;" (.ref za) → Sta Z h "com/example/brevidns/brevidns/CborReader$Kind" "MAP" "Lcom/example/brevidns/brevidns/CborReader$Kind;" (.ref zm) → Sta Z h "com/example/brevidns/brevidns/CborReader$Kind" "TAG" "Lcom/example/brevidns/brevidns/CborReader$Kind;" (.ref zt) → G (T.setTop (mkF m 392 #[vI u0, vI u1, vI u2, vI om, vI ol, vI p1, vI nv, vI im, vI ig, vI p2, vI mv, vI kv, vI tg, vR b739, vI qv, vI (mvOf om), vI (mvOf im), vR b748, .unset, .unset, .unset, .unset] [])) := by
                  intro s kS hZ hown rb
                  have rt := own_rt rb
                  intro T762 lc762 h762 X762 e762 N762  Z762 Y762 po dp t4 hpo hdp ht4 f762_0 f762_1 f762_2 f762_3 f762_4 f762_5 f762_6 f762_7 f762_8 f762_9 f762_10
                  show G (T762.setTop (mkF m 392 #[vI u0, vI u1, vI u2, vI om, vI ol, vI p1, vI nv, vI im, vI ig, vI p2, vI mv, vI kv, vI tg, vR b739, vI qv, vI (mvOf om), vI (mvOf im), vR b748, .unset, .unset, .unset, .unset] []))
                  refine go _ _ (fun _ k => XS.aload X762.here hx rfl (hb hby at_392) rfl rfl  k) ?_
                  show G (T762.setTop (mkF m 394 #[vI u0, vI u1, vI u2, vI om, vI ol, vI p1, vI nv, vI im, vI ig, vI p2, vI mv, vI kv, vI tg, vR b739, vI qv, vI (mvOf om), vI (mvOf im), vR b748, .unset, .unset, .unset, .unset] [(.ref b748)]))
                  refine own_virtual go X762 hx hZ e762 hown (wd hw 71 rfl) (wd hw 72 rfl) (notFace_of_selects (args := #[]) (mvT hZ (wd hw 74 rfl))) (wd hw 74 rfl) (wd hw 73 rfl) (wd hw 3 rfl) (wd hw 75 rfl) (by decide) (rm_il l Z a0 hw b748 il dp (kN + 1) 4 t4 h762 n0 Z762 f762_3 f762_4 f762_6 hdp (by omega) (by omega) (by omega)) 0 (by decide) (by decide) (by decide) (by decide) f762_0 (g := (mkF m 394 #[vI u0, vI u1, vI u2, vI om, vI ol, vI p1, vI nv, vI im, vI ig, vI p2, vI mv, vI kv, vI tg, vR b739, vI qv, vI (mvOf om), vI (mvOf im), vR b748, .unset, .unset, .unset, .unset] [(.ref b748)])) rfl (by rw [hml]; rfl) [] [] rfl (lenOf pd_3 rfl) rfl (by show 2 * 0 + _ ≤ _; exact Nat.le_of_eq rfl) (hb hby at_394) ?_
                  intro T763 L763 v763 X763 q763
                  obtain ⟨rfl, N763, hh763⟩ := q763
                  obtain ⟨lc763, X763h, N763h⟩ := own_hide X763 (Fr.app N762 N763)
                  show G (T763.setTop (mkF m 397 #[vI u0, vI u1, vI u2, vI om, vI ol, vI p1, vI nv, vI im, vI ig, vI p2, vI mv, vI kv, vI tg, vR b739, vI qv, vI (mvOf om), vI (mvOf im), vR b748, .unset, .unset, .unset, .unset] [(.int (t4 ((kN + 1) - 1)))]))
                  refine go _ _ (fun _ k => XS.istore X763h.here hx rfl (hb hby at_397) rfl (l' := #[vI u0, vI u1, vI u2, vI om, vI ol, vI p1, vI nv, vI im, vI ig, vI p2, vI mv, vI kv, vI tg, vR b739, vI qv, vI (mvOf om), vI (mvOf im), vR b748, vI (t4 ((kN + 1) - 1)), .unset, .unset, .unset]) rfl k) ?_
                  show G (T763.setTop (mkF m 399 #[vI u0, vI u1, vI u2, vI om, vI ol, vI p1, vI nv, vI im, vI ig, vI p2, vI mv, vI kv, vI tg, vR b739, vI qv, vI (mvOf om), vI (mvOf im), vR b748, vI (t4 ((kN + 1) - 1)), .unset, .unset, .unset] []))
                  have J417 : ∀ (s : State) (kS : Nat), Z.Warmed39 s.vm → s.vm.findClass "com/example/brevidns/brevidns/CborReaderItemsLeftPinLaw" = some m.cls → RtB p l e room_1 s m #[(.int u0), (.int u1), (.int u2)] below meth c (fun v h L => v = some (.int 1) ∧ Fr n0 L) (room_1).cells (room_1).slots G kS → ∀ (T : State) (lc : List Loc) (h : Heap), Stand p l e room_1 s m #[(.int u0), (.int u1), (.int u2)] below meth c T lc 24 400 → T.heap = h → Fr n0 lc → n0 ≤ h.size → kS ≤ h.size → ∀ (po2 dp2 : Int32) (t5 : Nat → Int32) (il2 : Addr) (sz : Nat), (po2.toInt = ((kN + w1 + w2 : Nat) : Int)) → (dp2.toInt = ((kN + 2 : Nat) : Int)) → (t5 (kN + 1) = Int32.ofNat (mN * perOf im)) → (t5 kN = Int32.ofNat (nN * perOf om) - 1) → (n0 ≤ il2) → (il2 ≠ b748) → (b739 ≠ il2) → (kN + 2 ≤ sz) → (sz ≤ 8) → Exa Z h b748 "com/example/brevidns/brevidns/CborReader" → Fld Z h b748 "com/example/brevidns/brevidns/CborReader" "position" "I" (.int po2) → Fld Z h b748 "com/example/brevidns/brevidns/CborReader" "input" "[B" (.ref b739) → Fld Z h b748 "com/example/brevidns/brevidns/CborReader" "itemsLeft" "[I" (.ref il2) → Fld Z h b748 "com/example/brevidns/brevidns/CborReader" "depth" "I" (.int dp2) → Ary Z h b739 .byte 64 (fun i => .int (g3 i)) → Ary Z h il2 .int sz (fun i => .int (t5 i)) → Sta Z h "com/example/brevidns/brevidns/CborReader$Kind" "UNSIGNED_INTEGER" "Lcom/example/brevidns/brevidns/CborReader$Kind;" (.ref zu) → Sta Z h "com/example/brevidns/brevidns/CborReader$Kind" "ARRAY" "Lcom/example/brevidns/brevidns/CborReader$Kind;" (.ref za) → Sta Z h "com/example/brevidns/brevidns/CborReader$Kind" "MAP" "Lcom/example/brevidns/brevidns/CborReader$Kind;" (.ref zm) → Sta Z h "com/example/brevidns/brevidns/CborReader$Kind" "TAG" "Lcom/example/brevidns/brevidns/CborReader$Kind;" (.ref zt) → G (T.setTop (mkF m 417 #[vI u0, vI u1, vI u2, vI om, vI ol, vI p1, vI nv, vI im, vI ig, vI p2, vI mv, vI kv, vI tg, vR b739, vI qv, vI (mvOf om), vI (mvOf im), vR b748, vI (t4 ((kN + 1) - 1)), .unset, .unset, .unset] [])) := by
                   intro s kS hZ hown rb
                   have rt := own_rt rb
                   intro T764 lc764 h764 X764 e764 N764  Z764 Y764 po2 dp2 t5 il2 sz hpo2 hdp2 ht5 ht6 g_il2 n20b n12b hsz hs8 f764_0 f764_1 f764_2 f764_3 f764_4 f764_5 f764_6 f764_7 f764_8 f764_9 f764_10
                   show G (T764.setTop (mkF m 417 #[vI u0, vI u1, vI u2, vI om, vI ol, vI p1, vI nv, vI im, vI ig, vI p2, vI mv, vI kv, vI tg, vR b739, vI qv, vI (mvOf om), vI (mvOf im), vR b748, vI (t4 ((kN + 1) - 1)), .unset, .unset, .unset] []))
                   refine go _ _ (fun _ k => XS.aload X764.here hx rfl (hb hby at_417) rfl rfl  k) ?_
                   show G (T764.setTop (mkF m 419 #[vI u0, vI u1, vI u2, vI om, vI ol, vI p1, vI nv, vI im, vI ig, vI p2, vI mv, vI kv, vI tg, vR b739, vI qv, vI (mvOf om), vI (mvOf im), vR b748, vI (t4 ((kN + 1) - 1)), .unset, .unset, .unset] [(.ref b748)]))
                   refine own_virtual go X764 hx hZ e764 hown (wd hw 71 rfl) (wd hw 72 rfl) (notFace_of_selects (args := #[]) (mvT hZ (wd hw 74 rfl))) (wd hw 74 rfl) (wd hw 73 rfl) (wd hw 3 rfl) (wd hw 75 rfl) (by decide) (rm_il l Z a0 hw b748 il2 dp2 (kN + 2) sz t5 h764 n0 Z764 f764_3 f764_4 f764_6 hdp2 (by omega) (by omega) (by omega)) 0 (by decide) (by decide) (by decide) (by decide) f764_0 (g := (mkF m 419 #[vI u0, vI u1, vI u2, vI om, vI ol, vI p1, vI nv, vI im, vI ig, vI p2, vI mv, vI kv, vI tg, vR b739, vI qv, vI (mvOf om), vI (mvOf im), vR b748, vI (t4 ((kN + 1) - 1)), .unset, .unset, .unset] [(.ref b748)])) rfl (by rw [hml]; rfl) [] [] rfl (lenOf pd_3 rfl) rfl (by show 2 * 0 + _ ≤ _; exact Nat.le_of_eq rfl) (hb hby at_419) ?_
                   intro T765 L765 v765 X765 q765
                   obtain ⟨rfl, N765, hh765⟩ := q765
                   obtain ⟨lc765, X765h, N765h⟩ := own_hide X765 (Fr.app N764 N765)
                   show G (T765.setTop (mkF m 422 #[vI u0, vI u1, vI u2, vI om, vI ol, vI p1, vI nv, vI im, vI ig, vI p2, vI mv, vI kv, vI tg, vR b739, vI qv, vI (mvOf om), vI (mvOf im), vR b748, vI (t4 ((kN + 1) - 1)), .unset, .unset, .unset] [(.int (t5 ((kN + 2) - 1)))]))
                   refine go _ _ (fun _ k => XS.istore X765h.here hx rfl (hb hby at_422) rfl (l' := #[vI u0, vI u1, vI u2, vI om, vI ol, vI p1, vI nv, vI im, vI ig, vI p2, vI mv, vI kv, vI tg, vR b739, vI qv, vI (mvOf om), vI (mvOf im), vR b748, vI (t4 ((kN + 1) - 1)), vI (t5 ((kN + 2) - 1)), .unset, .unset]) rfl k) ?_
                   show G (T765.setTop (mkF m 424 #[vI u0, vI u1, vI u2, vI om, vI ol, vI p1, vI nv, vI im, vI ig, vI p2, vI mv, vI kv, vI tg, vR b739, vI qv, vI (mvOf om), vI (mvOf im), vR b748, vI (t4 ((kN + 1) - 1)), vI (t5 ((kN + 2) - 1)), .unset, .unset] []))
                   refine go _ _ (fun _ k => XS.iload X765h.here hx rfl (hb hby at_424) rfl  k) ?_
                   show G (T765.setTop (mkF m 426 #[vI u0, vI u1, vI u2, vI om, vI ol, vI p1, vI nv, vI im, vI ig, vI p2, vI mv, vI kv, vI tg, vR b739, vI qv, vI (mvOf om), vI (mvOf im), vR b748, vI (t4 ((kN + 1) - 1)), vI (t5 ((kN + 2) - 1)), .unset, .unset] [(.int (t4 ((kN + 1) - 1)))]))
                   refine go _ _ (fun _ k => XS.iload X765h.here hx rfl (hb hby at_426) rfl  k) ?_
                   show G (T765.setTop (mkF m 428 #[vI u0, vI u1, vI u2, vI om, vI ol, vI p1, vI nv, vI im, vI ig, vI p2, vI mv, vI kv, vI tg, vR b739, vI qv, vI (mvOf om), vI (mvOf im), vR b748, vI (t4 ((kN + 1) - 1)), vI (t5 ((kN + 2) - 1)), .unset, .unset] [(.int nv), (.int (t4 ((kN + 1) - 1)))]))
                   refine go _ _ (fun _ k => XS.iload X765h.here hx rfl (hb hby at_428) rfl  k) ?_
                   show G (T765.setTop (mkF m 430 #[vI u0, vI u1, vI u2, vI om, vI ol, vI p1, vI nv, vI im, vI ig, vI p2, vI mv, vI kv, vI tg, vR b739, vI qv, vI (mvOf om), vI (mvOf im), vR b748, vI (t4 ((kN + 1) - 1)), vI (t5 ((kN + 2) - 1)), .unset, .unset] [(.int p1), (.int nv), (.int (t4 ((kN + 1) - 1)))]))
                   refine go _ _ (fun _ k => XS.imul X765h.here hx rfl (hb hby at_430) rfl k) ?_
                   show G (T765.setTop (mkF m 431 #[vI u0, vI u1, vI u2, vI om, vI ol, vI p1, vI nv, vI im, vI ig, vI p2, vI mv, vI kv, vI tg, vR b739, vI qv, vI (mvOf om), vI (mvOf im), vR b748, vI (t4 ((kN + 1) - 1)), vI (t5 ((kN + 2) - 1)), .unset, .unset] [(.int (nv * p1)), (.int (t4 ((kN + 1) - 1)))]))
                   refine go _ _ (fun _ k => XS.icmpNo X765h.here hx rfl (hb hby at_431) rfl (Free.XT.ii_ne_f (own_mulN hnN hp1 (own_per om) (by omega) ht4)) k) ?_
                   show G (T765.setTop (mkF m 434 #[vI u0, vI u1, vI u2, vI om, vI ol, vI p1, vI nv, vI im, vI ig, vI p2, vI mv, vI kv, vI tg, vR b739, vI qv, vI (mvOf om), vI (mvOf im), vR b748, vI (t4 ((kN + 1) - 1)), vI (t5 ((kN + 2) - 1)), .unset, .unset] []))
                   refine go _ _ (fun _ k => XS.iload X765h.here hx rfl (hb hby at_434) rfl  k) ?_
                   show G (T765.setTop (mkF m 436 #[vI u0, vI u1, vI u2, vI om, vI ol, vI p1, vI nv, vI im, vI ig, vI p2, vI mv, vI kv, vI tg, vR b739, vI qv, vI (mvOf om), vI (mvOf im), vR b748, vI (t4 ((kN + 1) - 1)), vI (t5 ((kN + 2) - 1)), .unset, .unset] [(.int (t5 ((kN + 2) - 1)))]))
                   refine go _ _ (fun _ k => XS.iload X765h.here hx rfl (hb hby at_436) rfl  k) ?_
                   show G (T765.setTop (mkF m 438 #[vI u0, vI u1, vI u2, vI om, vI ol, vI p1, vI nv, vI im, vI ig, vI p2, vI mv, vI kv, vI tg, vR b739, vI qv, vI (mvOf om), vI (mvOf im), vR b748, vI (t4 ((kN + 1) - 1)), vI (t5 ((kN + 2) - 1)), .unset, .unset] [(.int mv), (.int (t5 ((kN + 2) - 1)))]))
                   refine go _ _ (fun _ k => XS.iload X765h.here hx rfl (hb hby at_438) rfl  k) ?_
                   show G (T765.setTop (mkF m 440 #[vI u0, vI u1, vI u2, vI om, vI ol, vI p1, vI nv, vI im, vI ig, vI p2, vI mv, vI kv, vI tg, vR b739, vI qv, vI (mvOf om), vI (mvOf im), vR b748, vI (t4 ((kN + 1) - 1)), vI (t5 ((kN + 2) - 1)), .unset, .unset] [(.int p2), (.int mv), (.int (t5 ((kN + 2) - 1)))]))
                   refine go _ _ (fun _ k => XS.imul X765h.here hx rfl (hb hby at_440) rfl k) ?_
                   show G (T765.setTop (mkF m 441 #[vI u0, vI u1, vI u2, vI om, vI ol, vI p1, vI nv, vI im, vI ig, vI p2, vI mv, vI kv, vI tg, vR b739, vI qv, vI (mvOf om), vI (mvOf im), vR b748, vI (t4 ((kN + 1) - 1)), vI (t5 ((kN + 2) - 1)), .unset, .unset] [(.int (mv * p2)), (.int (t5 ((kN + 2) - 1)))]))
                   refine go _ _ (fun _ k => XS.icmpNo X765h.here hx rfl (hb hby at_441) rfl (Free.XT.ii_ne_f (own_mulN hmN hp2 (own_per im) (by omega) ht5)) k) ?_
                   show G (T765.setTop (mkF m 444 #[vI u0, vI u1, vI u2, vI om, vI ol, vI p1, vI nv, vI im, vI ig, vI p2, vI mv, vI kv, vI tg, vR b739, vI qv, vI (mvOf om), vI (mvOf im), vR b748, vI (t4 ((kN + 1) - 1)), vI (t5 ((kN + 2) - 1)), .unset, .unset] []))
                   refine go _ _ (fun _ k => XS.iconst X765h.here hx rfl (hb hby at_444) k) ?_
                   show G (T765.setTop (mkF m 445 #[vI u0, vI u1, vI u2, vI om, vI ol, vI p1, vI nv, vI im, vI ig, vI p2, vI mv, vI kv, vI tg, vR b739, vI qv, vI (mvOf om), vI (mvOf im), vR b748, vI (t4 ((kN + 1) - 1)), vI (t5 ((kN + 2) - 1)), .unset, .unset] [(.int (1 : Int32))]))
                   refine go _ _ (fun _ k => XS.goto X765h.here hx rfl (pc0 := 445) (pc' := 449) rfl (hb hby at_445) (by decide) (by decide) k) ?_
                   show G (T765.setTop (mkF m 449 #[vI u0, vI u1, vI u2, vI om, vI ol, vI p1, vI nv, vI im, vI ig, vI p2, vI mv, vI kv, vI tg, vR b739, vI qv, vI (mvOf om), vI (mvOf im), vR b748, vI (t4 ((kN + 1) - 1)), vI (t5 ((kN + 2) - 1)), .unset, .unset] [(.int (1 : Int32))]))
                   refine go _ _ (fun _ k => XS.istore X765h.here hx rfl (hb hby at_449) rfl (l' := #[vI u0, vI u1, vI u2, vI om, vI ol, vI p1, vI nv, vI im, vI ig, vI p2, vI mv, vI kv, vI tg, vR b739, vI qv, vI (mvOf om), vI (mvOf im), vR b748, vI (t4 ((kN + 1) - 1)), vI (t5 ((kN + 2) - 1)), vI 1, .unset]) rfl k) ?_
                   show G (T765.setTop (mkF m 451 #[vI u0, vI u1, vI u2, vI om, vI ol, vI p1, vI nv, vI im, vI ig, vI p2, vI mv, vI kv, vI tg, vR b739, vI qv, vI (mvOf om), vI (mvOf im), vR b748, vI (t4 ((kN + 1) - 1)), vI (t5 ((kN + 2) - 1)), vI 1, .unset] []))
                   refine go _ _ (fun _ k => XS.iload X765h.here hx rfl (hb hby at_451) rfl  k) ?_
                   show G (T765.setTop (mkF m 453 #[vI u0, vI u1, vI u2, vI om, vI ol, vI p1, vI nv, vI im, vI ig, vI p2, vI mv, vI kv, vI tg, vR b739, vI qv, vI (mvOf om), vI (mvOf im), vR b748, vI (t4 ((kN + 1) - 1)), vI (t5 ((kN + 2) - 1)), vI 1, .unset] [(.int mv)]))
                   by_cases c766 : mv = (0 : Int32)
                   ·refine go _ _ (fun _ k => XS.ifNo X765h.here hx rfl (hb hby at_453) rfl (Free.XT.i0_ne_f c766) k) ?_
                    show G (T765.setTop (mkF m 456 #[vI u0, vI u1, vI u2, vI om, vI ol, vI p1, vI nv, vI im, vI ig, vI p2, vI mv, vI kv, vI tg, vR b739, vI qv, vI (mvOf om), vI (mvOf im), vR b748, vI (t4 ((kN + 1) - 1)), vI (t5 ((kN + 2) - 1)), vI 1, .unset] []))
                    refine go _ _ (fun _ k => XS.iload X765h.here hx rfl (hb hby at_456) rfl  k) ?_
                    show G (T765.setTop (mkF m 458 #[vI u0, vI u1, vI u2, vI om, vI ol, vI p1, vI nv, vI im, vI ig, vI p2, vI mv, vI kv, vI tg, vR b739, vI qv, vI (mvOf om), vI (mvOf im), vR b748, vI (t4 ((kN + 1) - 1)), vI (t5 ((kN + 2) - 1)), vI 1, .unset] [(.int im)]))
                    by_cases c767 : im = (0 : Int32)
                    ·refine go _ _ (fun _ k => XS.ifYes X765h.here hx rfl (pc0 := 458) (pc' := 469) rfl (hb hby at_458) rfl (Free.XT.i0_eq_t c767) (by decide) (by decide) k) ?_
                     show G (T765.setTop (mkF m 469 #[vI u0, vI u1, vI u2, vI om, vI ol, vI p1, vI nv, vI im, vI ig, vI p2, vI mv, vI kv, vI tg, vR b739, vI qv, vI (mvOf om), vI (mvOf im), vR b748, vI (t4 ((kN + 1) - 1)), vI (t5 ((kN + 2) - 1)), vI 1, .unset] []))
                     refine go _ _ (fun _ k => XS.aload X765h.here hx rfl (hb hby at_469) rfl rfl  k) ?_
                     show G (T765.setTop (mkF m 471 #[vI u0, vI u1, vI u2, vI om, vI ol, vI p1, vI nv, vI im, vI ig, vI p2, vI mv, vI kv, vI tg, vR b739, vI qv, vI (mvOf om), vI (mvOf im), vR b748, vI (t4 ((kN + 1) - 1)), vI (t5 ((kN + 2) - 1)), vI 1, .unset] [(.ref b748)]))
                     refine own_virtual go X765h hx hZ hh765 hown (wd hw 119 rfl) (wd hw 120 rfl) (notFace_of_selects (args := #[]) (mvT hZ (wd hw 122 rfl))) (wd hw 122 rfl) (wd hw 121 rfl) (wd hw 3 rfl) (wd hw 123 rfl) (by decide) (rm_closeArray l Z a0 hw b748 il2 dp2 (kN + 2) sz t5 h764 n0 Z764 g_b748 f764_0 f764_3 f764_4 f764_6 hdp2 (by omega) hsz hs8 n20b (ht5.trans (by rw [(own_lit 0 (kk := 0) rfl hmN).mp c766, Nat.zero_mul]; rfl))) 0 (by decide) (by decide) (by decide) (by decide) f764_0 (g := (mkF m 471 #[vI u0, vI u1, vI u2, vI om, vI ol, vI p1, vI nv, vI im, vI ig, vI p2, vI mv, vI kv, vI tg, vR b739, vI qv, vI (mvOf om), vI (mvOf im), vR b748, vI (t4 ((kN + 1) - 1)), vI (t5 ((kN + 2) - 1)), vI 1, .unset] [(.ref b748)])) rfl (by rw [hml]; rfl) [] [] rfl (lenOf pd_0 rfl) rfl (by show 2 * 0 + _ ≤ _; exact Nat.le_of_eq rfl) (hb hby at_471) ?_
                     intro T768 L768 v768 X768 q768
                     obtain ⟨rfl, N768, K768, dp768, hd768, Fd768, Fl768⟩ := q768
                     have ns769 : ∀ w ∈ [b748], ∃ c : Cell, h764[w]? = some c ∧ c.vm.isStatics = false := (allS (own_exa_ns f764_0) all0)
                     obtain ⟨lc768, X768h, N768h⟩ := own_hide X768 (Fr.app N765h N768)
                     have Z770 : n0 ≤ T768.heap.size := Nat.le_trans Z764 K768.1
                     have Y771 : kS ≤ T768.heap.size := Nat.le_trans Y764 K768.1
                     show G (T768.setTop (mkF m 474 #[vI u0, vI u1, vI u2, vI om, vI ol, vI p1, vI nv, vI im, vI ig, vI p2, vI mv, vI kv, vI tg, vR b739, vI qv, vI (mvOf om), vI (mvOf im), vR b748, vI (t4 ((kN + 1) - 1)), vI (t5 ((kN + 2) - 1)), vI 1, .unset] []))
                     refine go _ _ (fun _ k => XS.aload X768h.here hx rfl (hb hby at_474) rfl rfl  k) ?_
                     show G (T768.setTop (mkF m 476 #[vI u0, vI u1, vI u2, vI om, vI ol, vI p1, vI nv, vI im, vI ig, vI p2, vI mv, vI kv, vI tg, vR b739, vI qv, vI (mvOf om), vI (mvOf im), vR b748, vI (t4 ((kN + 1) - 1)), vI (t5 ((kN + 2) - 1)), vI 1, .unset] [(.ref b748)]))
                     have f772 := (f764_6.keep K768 (ninS n20b nin0))
                     have f774 := (f764_0.keep K768)
                     refine own_virtual go X768h hx hZ rfl hown (wd hw 71 rfl) (wd hw 72 rfl) (notFace_of_selects (args := #[]) (mvT hZ (wd hw 74 rfl))) (wd hw 74 rfl) (wd hw 73 rfl) (wd hw 3 rfl) (wd hw 75 rfl) (by decide) (rm_il l Z a0 hw b748 il2 dp768 (kN + 1) sz t5 T768.heap n0 Z770 Fl768 Fd768 f772 hd768 (by omega) (by omega) (by omega)) 0 (by decide) (by decide) (by decide) (by decide) f774 (g := (mkF m 476 #[vI u0, vI u1, vI u2, vI om, vI ol, vI p1, vI nv, vI im, vI ig, vI p2, vI mv, vI kv, vI tg, vR b739, vI qv, vI (mvOf om), vI (mvOf im), vR b748, vI (t4 ((kN + 1) - 1)), vI (t5 ((kN + 2) - 1)), vI 1, .unset] [(.ref b748)])) rfl (by rw [hml]; rfl) [] [] rfl (lenOf pd_3 rfl) rfl (by show 2 * 0 + _ ≤ _; exact Nat.le_of_eq rfl) (hb hby at_476) ?_
                     intro T773 L773 v773 X773 q773
                     obtain ⟨rfl, N773, hh773⟩ := q773
                     obtain ⟨lc773, X773h, N773h⟩ := own_hide X773 (Fr.app N768h N773)
                     show G (T773.setTop (mkF m 479 #[vI u0, vI u1, vI u2, vI om, vI ol, vI p1, vI nv, vI im, vI ig, vI p2, vI mv, vI kv, vI tg, vR b739, vI qv, vI (mvOf om), vI (mvOf im), vR b748, vI (t4 ((kN + 1) - 1)), vI (t5 ((kN + 2) - 1)), vI 1, .unset] [(.int (t5 ((kN + 1) - 1)))]))
                     refine go _ _ (fun _ k => XS.istore X773h.here hx rfl (hb hby at_479) rfl (l' := #[vI u0, vI u1, vI u2, vI om, vI ol, vI p1, vI nv, vI im, vI ig, vI p2, vI mv, vI kv, vI tg, vR b739, vI qv, vI (mvOf om), vI (mvOf im), vR b748, vI (t4 ((kN + 1) - 1)), vI (t5 ((kN + 2) - 1)), vI 1, vI (t5 ((kN + 1) - 1))]) rfl k) ?_
                     show G (T773.setTop (mkF m 481 #[vI u0, vI u1, vI u2, vI om, vI ol, vI p1, vI nv, vI im, vI ig, vI p2, vI mv, vI kv, vI tg, vR b739, vI qv, vI (mvOf om), vI (mvOf im), vR b748, vI (t4 ((kN + 1) - 1)), vI (t5 ((kN + 2) - 1)), vI 1, vI (t5 ((kN + 1) - 1))] []))
                     refine go _ _ (fun _ k => XS.iload X773h.here hx rfl (hb hby at_481) rfl  k) ?_
                     show G (T773.setTop (mkF m 483 #[vI u0, vI u1, vI u2, vI om, vI ol, vI p1, vI nv, vI im, vI ig, vI p2, vI mv, vI kv, vI tg, vR b739, vI qv, vI (mvOf om), vI (mvOf im), vR b748, vI (t4 ((kN + 1) - 1)), vI (t5 ((kN + 2) - 1)), vI 1, vI (t5 ((kN + 1) - 1))] [(.int (1 : Int32))]))
                     refine go _ _ (fun _ k => XS.ifNo X773h.here hx rfl (hb hby at_483) rfl (Free.XT.i0_eq_f (by decide)) k) ?_
                     show G (T773.setTop (mkF m 486 #[vI u0, vI u1, vI u2, vI om, vI ol, vI p1, vI nv, vI im, vI ig, vI p2, vI mv, vI kv, vI tg, vR b739, vI qv, vI (mvOf om), vI (mvOf im), vR b748, vI (t4 ((kN + 1) - 1)), vI (t5 ((kN + 2) - 1)), vI 1, vI (t5 ((kN + 1) - 1))] []))
                     refine go _ _ (fun _ k => XS.iload X773h.here hx rfl (hb hby at_486) rfl  k) ?_
                     show G (T773.setTop (mkF m 488 #[vI u0, vI u1, vI u2, vI om, vI ol, vI p1, vI nv, vI im, vI ig, vI p2, vI mv, vI kv, vI tg, vR b739, vI qv, vI (mvOf om), vI (mvOf im), vR b748, vI (t4 ((kN + 1) - 1)), vI (t5 ((kN + 2) - 1)), vI 1, vI (t5 ((kN + 1) - 1))] [(.int (t5 ((kN + 1) - 1)))]))
                     refine go _ _ (fun _ k => XS.iload X773h.here hx rfl (hb hby at_488) rfl  k) ?_
                     show G (T773.setTop (mkF m 490 #[vI u0, vI u1, vI u2, vI om, vI ol, vI p1, vI nv, vI im, vI ig, vI p2, vI mv, vI kv, vI tg, vR b739, vI qv, vI (mvOf om), vI (mvOf im), vR b748, vI (t4 ((kN + 1) - 1)), vI (t5 ((kN + 2) - 1)), vI 1, vI (t5 ((kN + 1) - 1))] [(.int nv), (.int (t5 ((kN + 1) - 1)))]))
                     refine go _ _ (fun _ k => XS.iload X773h.here hx rfl (hb hby at_490) rfl  k) ?_
                     show G (T773.setTop (mkF m 492 #[vI u0, vI u1, vI u2, vI om, vI ol, vI p1, vI nv, vI im, vI ig, vI p2, vI mv, vI kv, vI tg, vR b739, vI qv, vI (mvOf om), vI (mvOf im), vR b748, vI (t4 ((kN + 1) - 1)), vI (t5 ((kN + 2) - 1)), vI 1, vI (t5 ((kN + 1) - 1))] [(.int p1), (.int nv), (.int (t5 ((kN + 1) - 1)))]))
                     refine go _ _ (fun _ k => XS.imul X773h.here hx rfl (hb hby at_492) rfl k) ?_
                     show G (T773.setTop (mkF m 493 #[vI u0, vI u1, vI u2, vI om, vI ol, vI p1, vI nv, vI im, vI ig, vI p2, vI mv, vI kv, vI tg, vR b739, vI qv, vI (mvOf om), vI (mvOf im), vR b748, vI (t4 ((kN + 1) - 1)), vI (t5 ((kN + 2) - 1)), vI 1, vI (t5 ((kN + 1) - 1))] [(.int (nv * p1)), (.int (t5 ((kN + 1) - 1)))]))
                     refine go _ _ (fun _ k => XS.iconst X773h.here hx rfl (hb hby at_493) k) ?_
                     show G (T773.setTop (mkF m 494 #[vI u0, vI u1, vI u2, vI om, vI ol, vI p1, vI nv, vI im, vI ig, vI p2, vI mv, vI kv, vI tg, vR b739, vI qv, vI (mvOf om), vI (mvOf im), vR b748, vI (t4 ((kN + 1) - 1)), vI (t5 ((kN + 2) - 1)), vI 1, vI (t5 ((kN + 1) - 1))] [(.int (1 : Int32)), (.int (nv * p1)), (.int (t5 ((kN + 1) - 1)))]))
                     refine go _ _ (fun _ k => XS.isub X773h.here hx rfl (hb hby at_494) rfl k) ?_
                     show G (T773.setTop (mkF m 495 #[vI u0, vI u1, vI u2, vI om, vI ol, vI p1, vI nv, vI im, vI ig, vI p2, vI mv, vI kv, vI tg, vR b739, vI qv, vI (mvOf om), vI (mvOf im), vR b748, vI (t4 ((kN + 1) - 1)), vI (t5 ((kN + 2) - 1)), vI 1, vI (t5 ((kN + 1) - 1))] [(.int ((nv * p1) - (1 : Int32))), (.int (t5 ((kN + 1) - 1)))]))
                     refine go _ _ (fun _ k => XS.icmpNo X773h.here hx rfl (hb hby at_495) rfl (Free.XT.ii_ne_f (own_mulN1 hnN hp1 (own_per om) (by omega) ht6)) k) ?_
                     show G (T773.setTop (mkF m 498 #[vI u0, vI u1, vI u2, vI om, vI ol, vI p1, vI nv, vI im, vI ig, vI p2, vI mv, vI kv, vI tg, vR b739, vI qv, vI (mvOf om), vI (mvOf im), vR b748, vI (t4 ((kN + 1) - 1)), vI (t5 ((kN + 2) - 1)), vI 1, vI (t5 ((kN + 1) - 1))] []))
                     refine go _ _ (fun _ k => XS.iconst X773h.here hx rfl (hb hby at_498) k) ?_
                     show G (T773.setTop (mkF m 499 #[vI u0, vI u1, vI u2, vI om, vI ol, vI p1, vI nv, vI im, vI ig, vI p2, vI mv, vI kv, vI tg, vR b739, vI qv, vI (mvOf om), vI (mvOf im), vR b748, vI (t4 ((kN + 1) - 1)), vI (t5 ((kN + 2) - 1)), vI 1, vI (t5 ((kN + 1) - 1))] [(.int (1 : Int32))]))
                     refine go _ _ (fun _ k => XS.goto X773h.here hx rfl (pc0 := 499) (pc' := 503) rfl (hb hby at_499) (by decide) (by decide) k) ?_
                     show G (T773.setTop (mkF m 503 #[vI u0, vI u1, vI u2, vI om, vI ol, vI p1, vI nv, vI im, vI ig, vI p2, vI mv, vI kv, vI tg, vR b739, vI qv, vI (mvOf om), vI (mvOf im), vR b748, vI (t4 ((kN + 1) - 1)), vI (t5 ((kN + 2) - 1)), vI 1, vI (t5 ((kN + 1) - 1))] [(.int (1 : Int32))]))
                     refine go _ _ (fun _ k => XS.istore X773h.here hx rfl (hb hby at_503) rfl (l' := #[vI u0, vI u1, vI u2, vI om, vI ol, vI p1, vI nv, vI im, vI ig, vI p2, vI mv, vI kv, vI tg, vR b739, vI qv, vI (mvOf om), vI (mvOf im), vR b748, vI (t4 ((kN + 1) - 1)), vI (t5 ((kN + 2) - 1)), vI 1, vI (t5 ((kN + 1) - 1))]) rfl k) ?_
                     show G (T773.setTop (mkF m 505 #[vI u0, vI u1, vI u2, vI om, vI ol, vI p1, vI nv, vI im, vI ig, vI p2, vI mv, vI kv, vI tg, vR b739, vI qv, vI (mvOf om), vI (mvOf im), vR b748, vI (t4 ((kN + 1) - 1)), vI (t5 ((kN + 2) - 1)), vI 1, vI (t5 ((kN + 1) - 1))] []))
                     refine go _ _ (fun _ k => XS.goto X773h.here hx rfl (pc0 := 505) (pc' := 556) rfl (hb hby at_505) (by decide) (by decide) k) ?_
                     show G (T773.setTop (mkF m 556 #[vI u0, vI u1, vI u2, vI om, vI ol, vI p1, vI nv, vI im, vI ig, vI p2, vI mv, vI kv, vI tg, vR b739, vI qv, vI (mvOf om), vI (mvOf im), vR b748, vI (t4 ((kN + 1) - 1)), vI (t5 ((kN + 2) - 1)), vI 1, vI (t5 ((kN + 1) - 1))] []))
                     refine go _ _ (fun _ k => XS.iload X773h.here hx rfl (hb hby at_556) rfl  k) ?_
                     show G (T773.setTop (mkF m 558 #[vI u0, vI u1, vI u2, vI om, vI ol, vI p1, vI nv, vI im, vI ig, vI p2, vI mv, vI kv, vI tg, vR b739, vI qv, vI (mvOf om), vI (mvOf im), vR b748, vI (t4 ((kN + 1) - 1)), vI (t5 ((kN + 2) - 1)), vI 1, vI (t5 ((kN + 1) - 1))] [(.int (1 : Int32))]))
                     refine own_retZ rt X773h hx (t := .boolean) hret (by simp) (hb hby at_558) (by decide) (by decide) ?_
                     refine ⟨(by rw [hh773]; exact Y771), ?_⟩
                     exact ⟨rfl, N773h⟩
                    ·refine go _ _ (fun _ k => XS.ifNo X765h.here hx rfl (hb hby at_458) rfl (Free.XT.i0_eq_f c767) k) ?_
                     show G (T765.setTop (mkF m 461 #[vI u0, vI u1, vI u2, vI om, vI ol, vI p1, vI nv, vI im, vI ig, vI p2, vI mv, vI kv, vI tg, vR b739, vI qv, vI (mvOf om), vI (mvOf im), vR b748, vI (t4 ((kN + 1) - 1)), vI (t5 ((kN + 2) - 1)), vI 1, .unset] []))
                     refine go _ _ (fun _ k => XS.aload X765h.here hx rfl (hb hby at_461) rfl rfl  k) ?_
                     show G (T765.setTop (mkF m 463 #[vI u0, vI u1, vI u2, vI om, vI ol, vI p1, vI nv, vI im, vI ig, vI p2, vI mv, vI kv, vI tg, vR b739, vI qv, vI (mvOf om), vI (mvOf im), vR b748, vI (t4 ((kN + 1) - 1)), vI (t5 ((kN + 2) - 1)), vI 1, .unset] [(.ref b748)]))
                     refine own_virtual go X765h hx hZ hh765 hown (wd hw 85 rfl) (wd hw 86 rfl) (notFace_of_selects (args := #[]) (mvT hZ (wd hw 88 rfl))) (wd hw 88 rfl) (wd hw 87 rfl) (wd hw 3 rfl) (wd hw 89 rfl) (by decide) (rm_closeMap l Z a0 hw b748 il2 dp2 (kN + 2) sz t5 h764 n0 Z764 g_b748 f764_0 f764_3 f764_4 f764_6 hdp2 (by omega) hsz hs8 n20b (ht5.trans (by rw [(own_lit 0 (kk := 0) rfl hmN).mp c766, Nat.zero_mul]; rfl))) 0 (by decide) (by decide) (by decide) (by decide) f764_0 (g := (mkF m 463 #[vI u0, vI u1, vI u2, vI om, vI ol, vI p1, vI nv, vI im, vI ig, vI p2, vI mv, vI kv, vI tg, vR b739, vI qv, vI (mvOf om), vI (mvOf im), vR b748, vI (t4 ((kN + 1) - 1)), vI (t5 ((kN + 2) - 1)), vI 1, .unset] [(.ref b748)])) rfl (by rw [hml]; rfl) [] [] rfl (lenOf pd_0 rfl) rfl (by show 2 * 0 + _ ≤ _; exact Nat.le_of_eq rfl) (hb hby at_463) ?_
                     intro T775 L775 v775 X775 q775
                     obtain ⟨rfl, N775, K775, dp775, hd775, Fd775, Fl775⟩ := q775
                     have ns776 : ∀ w ∈ [b748], ∃ c : Cell, h764[w]? = some c ∧ c.vm.isStatics = false := (allS (own_exa_ns f764_0) all0)
                     obtain ⟨lc775, X775h, N775h⟩ := own_hide X775 (Fr.app N765h N775)
                     have Z777 : n0 ≤ T775.heap.size := Nat.le_trans Z764 K775.1
                     have Y778 : kS ≤ T775.heap.size := Nat.le_trans Y764 K775.1
                     show G (T775.setTop (mkF m 466 #[vI u0, vI u1, vI u2, vI om, vI ol, vI p1, vI nv, vI im, vI ig, vI p2, vI mv, vI kv, vI tg, vR b739, vI qv, vI (mvOf om), vI (mvOf im), vR b748, vI (t4 ((kN + 1) - 1)), vI (t5 ((kN + 2) - 1)), vI 1, .unset] []))
                     refine go _ _ (fun _ k => XS.goto X775h.here hx rfl (pc0 := 466) (pc' := 474) rfl (hb hby at_466) (by decide) (by decide) k) ?_
                     show G (T775.setTop (mkF m 474 #[vI u0, vI u1, vI u2, vI om, vI ol, vI p1, vI nv, vI im, vI ig, vI p2, vI mv, vI kv, vI tg, vR b739, vI qv, vI (mvOf om), vI (mvOf im), vR b748, vI (t4 ((kN + 1) - 1)), vI (t5 ((kN + 2) - 1)), vI 1, .unset] []))
                     refine go _ _ (fun _ k => XS.aload X775h.here hx rfl (hb hby at_474) rfl rfl  k) ?_
                     show G (T775.setTop (mkF m 476 #[vI u0, vI u1, vI u2, vI om, vI ol, vI p1, vI nv, vI im, vI ig, vI p2, vI mv, vI kv, vI tg, vR b739, vI qv, vI (mvOf om), vI (mvOf im), vR b748, vI (t4 ((kN + 1) - 1)), vI (t5 ((kN + 2) - 1)), vI 1, .unset] [(.ref b748)]))
                     have f779 := (f764_6.keep K775 (ninS n20b nin0))
                     have f781 := (f764_0.keep K775)
                     refine own_virtual go X775h hx hZ rfl hown (wd hw 71 rfl) (wd hw 72 rfl) (notFace_of_selects (args := #[]) (mvT hZ (wd hw 74 rfl))) (wd hw 74 rfl) (wd hw 73 rfl) (wd hw 3 rfl) (wd hw 75 rfl) (by decide) (rm_il l Z a0 hw b748 il2 dp775 (kN + 1) sz t5 T775.heap n0 Z777 Fl775 Fd775 f779 hd775 (by omega) (by omega) (by omega)) 0 (by decide) (by decide) (by decide) (by decide) f781 (g := (mkF m 476 #[vI u0, vI u1, vI u2, vI om, vI ol, vI p1, vI nv, vI im, vI ig, vI p2, vI mv, vI kv, vI tg, vR b739, vI qv, vI (mvOf om), vI (mvOf im), vR b748, vI (t4 ((kN + 1) - 1)), vI (t5 ((kN + 2) - 1)), vI 1, .unset] [(.ref b748)])) rfl (by rw [hml]; rfl) [] [] rfl (lenOf pd_3 rfl) rfl (by show 2 * 0 + _ ≤ _; exact Nat.le_of_eq rfl) (hb hby at_476) ?_
                     intro T780 L780 v780 X780 q780
                     obtain ⟨rfl, N780, hh780⟩ := q780
                     obtain ⟨lc780, X780h, N780h⟩ := own_hide X780 (Fr.app N775h N780)
                     show G (T780.setTop (mkF m 479 #[vI u0, vI u1, vI u2, vI om, vI ol, vI p1, vI nv, vI im, vI ig, vI p2, vI mv, vI kv, vI tg, vR b739, vI qv, vI (mvOf om), vI (mvOf im), vR b748, vI (t4 ((kN + 1) - 1)), vI (t5 ((kN + 2) - 1)), vI 1, .unset] [(.int (t5 ((kN + 1) - 1)))]))
                     refine go _ _ (fun _ k => XS.istore X780h.here hx rfl (hb hby at_479) rfl (l' := #[vI u0, vI u1, vI u2, vI om, vI ol, vI p1, vI nv, vI im, vI ig, vI p2, vI mv, vI kv, vI tg, vR b739, vI qv, vI (mvOf om), vI (mvOf im), vR b748, vI (t4 ((kN + 1) - 1)), vI (t5 ((kN + 2) - 1)), vI 1, vI (t5 ((kN + 1) - 1))]) rfl k) ?_
                     show G (T780.setTop (mkF m 481 #[vI u0, vI u1, vI u2, vI om, vI ol, vI p1, vI nv, vI im, vI ig, vI p2, vI mv, vI kv, vI tg, vR b739, vI qv, vI (mvOf om), vI (mvOf im), vR b748, vI (t4 ((kN + 1) - 1)), vI (t5 ((kN + 2) - 1)), vI 1, vI (t5 ((kN + 1) - 1))] []))
                     refine go _ _ (fun _ k => XS.iload X780h.here hx rfl (hb hby at_481) rfl  k) ?_
                     show G (T780.setTop (mkF m 483 #[vI u0, vI u1, vI u2, vI om, vI ol, vI p1, vI nv, vI im, vI ig, vI p2, vI mv, vI kv, vI tg, vR b739, vI qv, vI (mvOf om), vI (mvOf im), vR b748, vI (t4 ((kN + 1) - 1)), vI (t5 ((kN + 2) - 1)), vI 1, vI (t5 ((kN + 1) - 1))] [(.int (1 : Int32))]))
                     refine go _ _ (fun _ k => XS.ifNo X780h.here hx rfl (hb hby at_483) rfl (Free.XT.i0_eq_f (by decide)) k) ?_
                     show G (T780.setTop (mkF m 486 #[vI u0, vI u1, vI u2, vI om, vI ol, vI p1, vI nv, vI im, vI ig, vI p2, vI mv, vI kv, vI tg, vR b739, vI qv, vI (mvOf om), vI (mvOf im), vR b748, vI (t4 ((kN + 1) - 1)), vI (t5 ((kN + 2) - 1)), vI 1, vI (t5 ((kN + 1) - 1))] []))
                     refine go _ _ (fun _ k => XS.iload X780h.here hx rfl (hb hby at_486) rfl  k) ?_
                     show G (T780.setTop (mkF m 488 #[vI u0, vI u1, vI u2, vI om, vI ol, vI p1, vI nv, vI im, vI ig, vI p2, vI mv, vI kv, vI tg, vR b739, vI qv, vI (mvOf om), vI (mvOf im), vR b748, vI (t4 ((kN + 1) - 1)), vI (t5 ((kN + 2) - 1)), vI 1, vI (t5 ((kN + 1) - 1))] [(.int (t5 ((kN + 1) - 1)))]))
                     refine go _ _ (fun _ k => XS.iload X780h.here hx rfl (hb hby at_488) rfl  k) ?_
                     show G (T780.setTop (mkF m 490 #[vI u0, vI u1, vI u2, vI om, vI ol, vI p1, vI nv, vI im, vI ig, vI p2, vI mv, vI kv, vI tg, vR b739, vI qv, vI (mvOf om), vI (mvOf im), vR b748, vI (t4 ((kN + 1) - 1)), vI (t5 ((kN + 2) - 1)), vI 1, vI (t5 ((kN + 1) - 1))] [(.int nv), (.int (t5 ((kN + 1) - 1)))]))
                     refine go _ _ (fun _ k => XS.iload X780h.here hx rfl (hb hby at_490) rfl  k) ?_
                     show G (T780.setTop (mkF m 492 #[vI u0, vI u1, vI u2, vI om, vI ol, vI p1, vI nv, vI im, vI ig, vI p2, vI mv, vI kv, vI tg, vR b739, vI qv, vI (mvOf om), vI (mvOf im), vR b748, vI (t4 ((kN + 1) - 1)), vI (t5 ((kN + 2) - 1)), vI 1, vI (t5 ((kN + 1) - 1))] [(.int p1), (.int nv), (.int (t5 ((kN + 1) - 1)))]))
                     refine go _ _ (fun _ k => XS.imul X780h.here hx rfl (hb hby at_492) rfl k) ?_
                     show G (T780.setTop (mkF m 493 #[vI u0, vI u1, vI u2, vI om, vI ol, vI p1, vI nv, vI im, vI ig, vI p2, vI mv, vI kv, vI tg, vR b739, vI qv, vI (mvOf om), vI (mvOf im), vR b748, vI (t4 ((kN + 1) - 1)), vI (t5 ((kN + 2) - 1)), vI 1, vI (t5 ((kN + 1) - 1))] [(.int (nv * p1)), (.int (t5 ((kN + 1) - 1)))]))
                     refine go _ _ (fun _ k => XS.iconst X780h.here hx rfl (hb hby at_493) k) ?_
                     show G (T780.setTop (mkF m 494 #[vI u0, vI u1, vI u2, vI om, vI ol, vI p1, vI nv, vI im, vI ig, vI p2, vI mv, vI kv, vI tg, vR b739, vI qv, vI (mvOf om), vI (mvOf im), vR b748, vI (t4 ((kN + 1) - 1)), vI (t5 ((kN + 2) - 1)), vI 1, vI (t5 ((kN + 1) - 1))] [(.int (1 : Int32)), (.int (nv * p1)), (.int (t5 ((kN + 1) - 1)))]))
                     refine go _ _ (fun _ k => XS.isub X780h.here hx rfl (hb hby at_494) rfl k) ?_
                     show G (T780.setTop (mkF m 495 #[vI u0, vI u1, vI u2, vI om, vI ol, vI p1, vI nv, vI im, vI ig, vI p2, vI mv, vI kv, vI tg, vR b739, vI qv, vI (mvOf om), vI (mvOf im), vR b748, vI (t4 ((kN + 1) - 1)), vI (t5 ((kN + 2) - 1)), vI 1, vI (t5 ((kN + 1) - 1))] [(.int ((nv * p1) - (1 : Int32))), (.int (t5 ((kN + 1) - 1)))]))
                     refine go _ _ (fun _ k => XS.icmpNo X780h.here hx rfl (hb hby at_495) rfl (Free.XT.ii_ne_f (own_mulN1 hnN hp1 (own_per om) (by omega) ht6)) k) ?_
                     show G (T780.setTop (mkF m 498 #[vI u0, vI u1, vI u2, vI om, vI ol, vI p1, vI nv, vI im, vI ig, vI p2, vI mv, vI kv, vI tg, vR b739, vI qv, vI (mvOf om), vI (mvOf im), vR b748, vI (t4 ((kN + 1) - 1)), vI (t5 ((kN + 2) - 1)), vI 1, vI (t5 ((kN + 1) - 1))] []))
                     refine go _ _ (fun _ k => XS.iconst X780h.here hx rfl (hb hby at_498) k) ?_
                     show G (T780.setTop (mkF m 499 #[vI u0, vI u1, vI u2, vI om, vI ol, vI p1, vI nv, vI im, vI ig, vI p2, vI mv, vI kv, vI tg, vR b739, vI qv, vI (mvOf om), vI (mvOf im), vR b748, vI (t4 ((kN + 1) - 1)), vI (t5 ((kN + 2) - 1)), vI 1, vI (t5 ((kN + 1) - 1))] [(.int (1 : Int32))]))
                     refine go _ _ (fun _ k => XS.goto X780h.here hx rfl (pc0 := 499) (pc' := 503) rfl (hb hby at_499) (by decide) (by decide) k) ?_
                     show G (T780.setTop (mkF m 503 #[vI u0, vI u1, vI u2, vI om, vI ol, vI p1, vI nv, vI im, vI ig, vI p2, vI mv, vI kv, vI tg, vR b739, vI qv, vI (mvOf om), vI (mvOf im), vR b748, vI (t4 ((kN + 1) - 1)), vI (t5 ((kN + 2) - 1)), vI 1, vI (t5 ((kN + 1) - 1))] [(.int (1 : Int32))]))
                     refine go _ _ (fun _ k => XS.istore X780h.here hx rfl (hb hby at_503) rfl (l' := #[vI u0, vI u1, vI u2, vI om, vI ol, vI p1, vI nv, vI im, vI ig, vI p2, vI mv, vI kv, vI tg, vR b739, vI qv, vI (mvOf om), vI (mvOf im), vR b748, vI (t4 ((kN + 1) - 1)), vI (t5 ((kN + 2) - 1)), vI 1, vI (t5 ((kN + 1) - 1))]) rfl k) ?_
                     show G (T780.setTop (mkF m 505 #[vI u0, vI u1, vI u2, vI om, vI ol, vI p1, vI nv, vI im, vI ig, vI p2, vI mv, vI kv, vI tg, vR b739, vI qv, vI (mvOf om), vI (mvOf im), vR b748, vI (t4 ((kN + 1) - 1)), vI (t5 ((kN + 2) - 1)), vI 1, vI (t5 ((kN + 1) - 1))] []))
                     refine go _ _ (fun _ k => XS.goto X780h.here hx rfl (pc0 := 505) (pc' := 556) rfl (hb hby at_505) (by decide) (by decide) k) ?_
                     show G (T780.setTop (mkF m 556 #[vI u0, vI u1, vI u2, vI om, vI ol, vI p1, vI nv, vI im, vI ig, vI p2, vI mv, vI kv, vI tg, vR b739, vI qv, vI (mvOf om), vI (mvOf im), vR b748, vI (t4 ((kN + 1) - 1)), vI (t5 ((kN + 2) - 1)), vI 1, vI (t5 ((kN + 1) - 1))] []))
                     refine go _ _ (fun _ k => XS.iload X780h.here hx rfl (hb hby at_556) rfl  k) ?_
                     show G (T780.setTop (mkF m 558 #[vI u0, vI u1, vI u2, vI om, vI ol, vI p1, vI nv, vI im, vI ig, vI p2, vI mv, vI kv, vI tg, vR b739, vI qv, vI (mvOf om), vI (mvOf im), vR b748, vI (t4 ((kN + 1) - 1)), vI (t5 ((kN + 2) - 1)), vI 1, vI (t5 ((kN + 1) - 1))] [(.int (1 : Int32))]))
                     refine own_retZ rt X780h hx (t := .boolean) hret (by simp) (hb hby at_558) (by decide) (by decide) ?_
                     refine ⟨(by rw [hh780]; exact Y778), ?_⟩
                     exact ⟨rfl, N780h⟩
                   ·refine go _ _ (fun _ k => XS.ifYes X765h.here hx rfl (pc0 := 453) (pc' := 508) rfl (hb hby at_453) rfl (Free.XT.i0_ne_t c766) (by decide) (by decide) k) ?_
                    show G (T765.setTop (mkF m 508 #[vI u0, vI u1, vI u2, vI om, vI ol, vI p1, vI nv, vI im, vI ig, vI p2, vI mv, vI kv, vI tg, vR b739, vI qv, vI (mvOf om), vI (mvOf im), vR b748, vI (t4 ((kN + 1) - 1)), vI (t5 ((kN + 2) - 1)), vI 1, .unset] []))
                    refine go _ _ (fun _ k => XS.iload X765h.here hx rfl (hb hby at_508) rfl  k) ?_
                    show G (T765.setTop (mkF m 510 #[vI u0, vI u1, vI u2, vI om, vI ol, vI p1, vI nv, vI im, vI ig, vI p2, vI mv, vI kv, vI tg, vR b739, vI qv, vI (mvOf om), vI (mvOf im), vR b748, vI (t4 ((kN + 1) - 1)), vI (t5 ((kN + 2) - 1)), vI 1, .unset] [(.int tg)]))
                    by_cases c782 : tg = (0 : Int32)
                    ·refine go _ _ (fun _ k => XS.ifYes X765h.here hx rfl (pc0 := 510) (pc' := 519) rfl (hb hby at_510) rfl (Free.XT.i0_eq_t c782) (by decide) (by decide) k) ?_
                     show G (T765.setTop (mkF m 519 #[vI u0, vI u1, vI u2, vI om, vI ol, vI p1, vI nv, vI im, vI ig, vI p2, vI mv, vI kv, vI tg, vR b739, vI qv, vI (mvOf om), vI (mvOf im), vR b748, vI (t4 ((kN + 1) - 1)), vI (t5 ((kN + 2) - 1)), vI 1, .unset] []))
                     refine go _ _ (fun _ k => XS.aload X765h.here hx rfl (hb hby at_519) rfl rfl  k) ?_
                     show G (T765.setTop (mkF m 521 #[vI u0, vI u1, vI u2, vI om, vI ol, vI p1, vI nv, vI im, vI ig, vI p2, vI mv, vI kv, vI tg, vR b739, vI qv, vI (mvOf om), vI (mvOf im), vR b748, vI (t4 ((kN + 1) - 1)), vI (t5 ((kN + 2) - 1)), vI 1, .unset] [(.ref b748)]))
                     refine own_virtual go X765h hx hZ hh765 hown (wd hw 107 rfl) (wd hw 108 rfl) (notFace_of_selects (args := #[]) (mvT hZ (wd hw 110 rfl))) (wd hw 110 rfl) (wd hw 109 rfl) (wd hw 3 rfl) (wd hw 111 rfl) (by decide) (rm_readUnsigned l Z a0 hw b748 b739 il2 zu za zm zt po2 dp2 (kN + w1 + w2) (kN + 2) sz g3 t5 1 0 h764 n0 Z764 g_b748 g_il2 f764_0 f764_1 f764_2 f764_3 f764_4 f764_5 f764_6 ne749 n20b n12b hpo2 hdp2 f764_7 f764_8 f764_9 f764_10 nut nat nmt ((HT.resolve_right (fun z => z.1 c782)).2) (by omega) (by omega) hsz hs8 (fun z => own_ofnz (n := mN * perOf im) (Nat.mul_pos (Nat.pos_of_ne_zero (fun y => c766 ((own_lit 0 (kk := 0) rfl hmN).mpr y))) (by rcases own_per im with q | q <;> omega)) (by omega) (ht5.symm.trans z))) 0 (by decide) (by decide) (by decide) (by decide) f764_0 (g := (mkF m 521 #[vI u0, vI u1, vI u2, vI om, vI ol, vI p1, vI nv, vI im, vI ig, vI p2, vI mv, vI kv, vI tg, vR b739, vI qv, vI (mvOf om), vI (mvOf im), vR b748, vI (t4 ((kN + 1) - 1)), vI (t5 ((kN + 2) - 1)), vI 1, .unset] [(.ref b748)])) rfl (by rw [hml]; rfl) [] [] rfl (lenOf pd_10 rfl) rfl (by show 2 * 0 + _ ≤ _; exact Nat.le_of_eq rfl) (hb hby at_521) ?_
                     intro T783 L783 v783 X783 q783
                     obtain ⟨⟨y783, rfl⟩, N783, K783, po783, hp783, Ee783, Fp783, Fi783, Fl783, Fd783, B783⟩ := q783
                     have ns784 : ∀ w ∈ [b748, il2], ∃ c : Cell, h764[w]? = some c ∧ c.vm.isStatics = false := (allS (own_exa_ns f764_0) (allS (own_ary_ns f764_6) all0))
                     obtain ⟨lc783, X783h, N783h⟩ := own_hide X783 (Fr.app N765h N783)
                     have Z785 : n0 ≤ T783.heap.size := Nat.le_trans Z764 K783.1
                     have Y786 : kS ≤ T783.heap.size := Nat.le_trans Y764 K783.1
                     show G (T783.setTop (mkF m 524 #[vI u0, vI u1, vI u2, vI om, vI ol, vI p1, vI nv, vI im, vI ig, vI p2, vI mv, vI kv, vI tg, vR b739, vI qv, vI (mvOf om), vI (mvOf im), vR b748, vI (t4 ((kN + 1) - 1)), vI (t5 ((kN + 2) - 1)), vI 1, .unset] [(.long y783)]))
                     refine go _ _ (fun _ k => own_pop2L X783h.here hx rfl (hb hby at_524) rfl k) ?_
                     show G (T783.setTop (mkF m 525 #[vI u0, vI u1, vI u2, vI om, vI ol, vI p1, vI nv, vI im, vI ig, vI p2, vI mv, vI kv, vI tg, vR b739, vI qv, vI (mvOf om), vI (mvOf im), vR b748, vI (t4 ((kN + 1) - 1)), vI (t5 ((kN + 2) - 1)), vI 1, .unset] []))
                     refine go _ _ (fun _ k => XS.aload X783h.here hx rfl (hb hby at_525) rfl rfl  k) ?_
                     show G (T783.setTop (mkF m 527 #[vI u0, vI u1, vI u2, vI om, vI ol, vI p1, vI nv, vI im, vI ig, vI p2, vI mv, vI kv, vI tg, vR b739, vI qv, vI (mvOf om), vI (mvOf im), vR b748, vI (t4 ((kN + 1) - 1)), vI (t5 ((kN + 2) - 1)), vI 1, .unset] [(.ref b748)]))
                     refine own_virtual go X783h hx hZ rfl hown (wd hw 71 rfl) (wd hw 72 rfl) (notFace_of_selects (args := #[]) (mvT hZ (wd hw 74 rfl))) (wd hw 74 rfl) (wd hw 73 rfl) (wd hw 3 rfl) (wd hw 75 rfl) (by decide) (rm_il l Z a0 hw b748 il2 dp2 (kN + 2) sz (upd t5 ((kN + 2) - 1) (t5 ((kN + 2) - 1) - 1)) T783.heap n0 Z785 Fl783 Fd783 B783 hdp2 (by omega) (by omega) (by omega)) 0 (by decide) (by decide) (by decide) (by decide) Ee783 (g := (mkF m 527 #[vI u0, vI u1, vI u2, vI om, vI ol, vI p1, vI nv, vI im, vI ig, vI p2, vI mv, vI kv, vI tg, vR b739, vI qv, vI (mvOf om), vI (mvOf im), vR b748, vI (t4 ((kN + 1) - 1)), vI (t5 ((kN + 2) - 1)), vI 1, .unset] [(.ref b748)])) rfl (by rw [hml]; rfl) [] [] rfl (lenOf pd_3 rfl) rfl (by show 2 * 0 + _ ≤ _; exact Nat.le_of_eq rfl) (hb hby at_527) ?_
                     intro T787 L787 v787 X787 q787
                     obtain ⟨rfl, N787, hh787⟩ := q787
                     obtain ⟨lc787, X787h, N787h⟩ := own_hide X787 (Fr.app N783h N787)
                     show G (T787.setTop (mkF m 530 #[vI u0, vI u1, vI u2, vI om, vI ol, vI p1, vI nv, vI im, vI ig, vI p2, vI mv, vI kv, vI tg, vR b739, vI qv, vI (mvOf om), vI (mvOf im), vR b748, vI (t4 ((kN + 1) - 1)), vI (t5 ((kN + 2) - 1)), vI 1, .unset] [(.int ((upd t5 ((kN + 2) - 1) (t5 ((kN + 2) - 1) - 1)) ((kN + 2) - 1)))]))
                     refine go _ _ (fun _ k => XS.istore X787h.here hx rfl (hb hby at_530) rfl (l' := #[vI u0, vI u1, vI u2, vI om, vI ol, vI p1, vI nv, vI im, vI ig, vI p2, vI mv, vI kv, vI tg, vR b739, vI qv, vI (mvOf om), vI (mvOf im), vR b748, vI (t4 ((kN + 1) - 1)), vI (t5 ((kN + 2) - 1)), vI 1, vI ((upd t5 ((kN + 2) - 1) (t5 ((kN + 2) - 1) - 1)) ((kN + 2) - 1))]) rfl k) ?_
                     show G (T787.setTop (mkF m 532 #[vI u0, vI u1, vI u2, vI om, vI ol, vI p1, vI nv, vI im, vI ig, vI p2, vI mv, vI kv, vI tg, vR b739, vI qv, vI (mvOf om), vI (mvOf im), vR b748, vI (t4 ((kN + 1) - 1)), vI (t5 ((kN + 2) - 1)), vI 1, vI ((upd t5 ((kN + 2) - 1) (t5 ((kN + 2) - 1) - 1)) ((kN + 2) - 1))] []))
                     refine go _ _ (fun _ k => XS.iload X787h.here hx rfl (hb hby at_532) rfl  k) ?_
                     show G (T787.setTop (mkF m 534 #[vI u0, vI u1, vI u2, vI om, vI ol, vI p1, vI nv, vI im, vI ig, vI p2, vI mv, vI kv, vI tg, vR b739, vI qv, vI (mvOf om), vI (mvOf im), vR b748, vI (t4 ((kN + 1) - 1)), vI (t5 ((kN + 2) - 1)), vI 1, vI ((upd t5 ((kN + 2) - 1) (t5 ((kN + 2) - 1) - 1)) ((kN + 2) - 1))] [(.int (1 : Int32))]))
                     refine go _ _ (fun _ k => XS.ifNo X787h.here hx rfl (hb hby at_534) rfl (Free.XT.i0_eq_f (by decide)) k) ?_
                     show G (T787.setTop (mkF m 537 #[vI u0, vI u1, vI u2, vI om, vI ol, vI p1, vI nv, vI im, vI ig, vI p2, vI mv, vI kv, vI tg, vR b739, vI qv, vI (mvOf om), vI (mvOf im), vR b748, vI (t4 ((kN + 1) - 1)), vI (t5 ((kN + 2) - 1)), vI 1, vI ((upd t5 ((kN + 2) - 1) (t5 ((kN + 2) - 1) - 1)) ((kN + 2) - 1))] []))
                     refine go _ _ (fun _ k => XS.iload X787h.here hx rfl (hb hby at_537) rfl  k) ?_
                     show G (T787.setTop (mkF m 539 #[vI u0, vI u1, vI u2, vI om, vI ol, vI p1, vI nv, vI im, vI ig, vI p2, vI mv, vI kv, vI tg, vR b739, vI qv, vI (mvOf om), vI (mvOf im), vR b748, vI (t4 ((kN + 1) - 1)), vI (t5 ((kN + 2) - 1)), vI 1, vI ((upd t5 ((kN + 2) - 1) (t5 ((kN + 2) - 1) - 1)) ((kN + 2) - 1))] [(.int ((upd t5 ((kN + 2) - 1) (t5 ((kN + 2) - 1) - 1)) ((kN + 2) - 1)))]))
                     refine go _ _ (fun _ k => XS.iload X787h.here hx rfl (hb hby at_539) rfl  k) ?_
                     show G (T787.setTop (mkF m 541 #[vI u0, vI u1, vI u2, vI om, vI ol, vI p1, vI nv, vI im, vI ig, vI p2, vI mv, vI kv, vI tg, vR b739, vI qv, vI (mvOf om), vI (mvOf im), vR b748, vI (t4 ((kN + 1) - 1)), vI (t5 ((kN + 2) - 1)), vI 1, vI ((upd t5 ((kN + 2) - 1) (t5 ((kN + 2) - 1) - 1)) ((kN + 2) - 1))] [(.int mv), (.int ((upd t5 ((kN + 2) - 1) (t5 ((kN + 2) - 1) - 1)) ((kN + 2) - 1)))]))
                     refine go _ _ (fun _ k => XS.iload X787h.here hx rfl (hb hby at_541) rfl  k) ?_
                     show G (T787.setTop (mkF m 543 #[vI u0, vI u1, vI u2, vI om, vI ol, vI p1, vI nv, vI im, vI ig, vI p2, vI mv, vI kv, vI tg, vR b739, vI qv, vI (mvOf om), vI (mvOf im), vR b748, vI (t4 ((kN + 1) - 1)), vI (t5 ((kN + 2) - 1)), vI 1, vI ((upd t5 ((kN + 2) - 1) (t5 ((kN + 2) - 1) - 1)) ((kN + 2) - 1))] [(.int p2), (.int mv), (.int ((upd t5 ((kN + 2) - 1) (t5 ((kN + 2) - 1) - 1)) ((kN + 2) - 1)))]))
                     refine go _ _ (fun _ k => XS.imul X787h.here hx rfl (hb hby at_543) rfl k) ?_
                     show G (T787.setTop (mkF m 544 #[vI u0, vI u1, vI u2, vI om, vI ol, vI p1, vI nv, vI im, vI ig, vI p2, vI mv, vI kv, vI tg, vR b739, vI qv, vI (mvOf om), vI (mvOf im), vR b748, vI (t4 ((kN + 1) - 1)), vI (t5 ((kN + 2) - 1)), vI 1, vI ((upd t5 ((kN + 2) - 1) (t5 ((kN + 2) - 1) - 1)) ((kN + 2) - 1))] [(.int (mv * p2)), (.int ((upd t5 ((kN + 2) - 1) (t5 ((kN + 2) - 1) - 1)) ((kN + 2) - 1)))]))
                     refine go _ _ (fun _ k => XS.iconst X787h.here hx rfl (hb hby at_544) k) ?_
                     show G (T787.setTop (mkF m 545 #[vI u0, vI u1, vI u2, vI om, vI ol, vI p1, vI nv, vI im, vI ig, vI p2, vI mv, vI kv, vI tg, vR b739, vI qv, vI (mvOf om), vI (mvOf im), vR b748, vI (t4 ((kN + 1) - 1)), vI (t5 ((kN + 2) - 1)), vI 1, vI ((upd t5 ((kN + 2) - 1) (t5 ((kN + 2) - 1) - 1)) ((kN + 2) - 1))] [(.int (1 : Int32)), (.int (mv * p2)), (.int ((upd t5 ((kN + 2) - 1) (t5 ((kN + 2) - 1) - 1)) ((kN + 2) - 1)))]))
                     refine go _ _ (fun _ k => XS.isub X787h.here hx rfl (hb hby at_545) rfl k) ?_
                     show G (T787.setTop (mkF m 546 #[vI u0, vI u1, vI u2, vI om, vI ol, vI p1, vI nv, vI im, vI ig, vI p2, vI mv, vI kv, vI tg, vR b739, vI qv, vI (mvOf om), vI (mvOf im), vR b748, vI (t4 ((kN + 1) - 1)), vI (t5 ((kN + 2) - 1)), vI 1, vI ((upd t5 ((kN + 2) - 1) (t5 ((kN + 2) - 1) - 1)) ((kN + 2) - 1))] [(.int ((mv * p2) - (1 : Int32))), (.int ((upd t5 ((kN + 2) - 1) (t5 ((kN + 2) - 1) - 1)) ((kN + 2) - 1)))]))
                     refine go _ _ (fun _ k => XS.icmpNo X787h.here hx rfl (hb hby at_546) rfl (Free.XT.ii_ne_f (own_mulN1 hmN hp2 (own_per im) (by omega) (upd_eq.trans (congrArg (fun z => z - 1) ht5)))) k) ?_
                     show G (T787.setTop (mkF m 549 #[vI u0, vI u1, vI u2, vI om, vI ol, vI p1, vI nv, vI im, vI ig, vI p2, vI mv, vI kv, vI tg, vR b739, vI qv, vI (mvOf om), vI (mvOf im), vR b748, vI (t4 ((kN + 1) - 1)), vI (t5 ((kN + 2) - 1)), vI 1, vI ((upd t5 ((kN + 2) - 1) (t5 ((kN + 2) - 1) - 1)) ((kN + 2) - 1))] []))
                     refine go _ _ (fun _ k => XS.iconst X787h.here hx rfl (hb hby at_549) k) ?_
                     show G (T787.setTop (mkF m 550 #[vI u0, vI u1, vI u2, vI om, vI ol, vI p1, vI nv, vI im, vI ig, vI p2, vI mv, vI kv, vI tg, vR b739, vI qv, vI (mvOf om), vI (mvOf im), vR b748, vI (t4 ((kN + 1) - 1)), vI (t5 ((kN + 2) - 1)), vI 1, vI ((upd t5 ((kN + 2) - 1) (t5 ((kN + 2) - 1) - 1)) ((kN + 2) - 1))] [(.int (1 : Int32))]))
                     refine go _ _ (fun _ k => XS.goto X787h.here hx rfl (pc0 := 550) (pc' := 554) rfl (hb hby at_550) (by decide) (by decide) k) ?_
                     show G (T787.setTop (mkF m 554 #[vI u0, vI u1, vI u2, vI om, vI ol, vI p1, vI nv, vI im, vI ig, vI p2, vI mv, vI kv, vI tg, vR b739, vI qv, vI (mvOf om), vI (mvOf im), vR b748, vI (t4 ((kN + 1) - 1)), vI (t5 ((kN + 2) - 1)), vI 1, vI ((upd t5 ((kN + 2) - 1) (t5 ((kN + 2) - 1) - 1)) ((kN + 2) - 1))] [(.int (1 : Int32))]))
                     refine go _ _ (fun _ k => XS.istore X787h.here hx rfl (hb hby at_554) rfl (l' := #[vI u0, vI u1, vI u2, vI om, vI ol, vI p1, vI nv, vI im, vI ig, vI p2, vI mv, vI kv, vI tg, vR b739, vI qv, vI (mvOf om), vI (mvOf im), vR b748, vI (t4 ((kN + 1) - 1)), vI (t5 ((kN + 2) - 1)), vI 1, vI ((upd t5 ((kN + 2) - 1) (t5 ((kN + 2) - 1) - 1)) ((kN + 2) - 1))]) rfl k) ?_
                     show G (T787.setTop (mkF m 556 #[vI u0, vI u1, vI u2, vI om, vI ol, vI p1, vI nv, vI im, vI ig, vI p2, vI mv, vI kv, vI tg, vR b739, vI qv, vI (mvOf om), vI (mvOf im), vR b748, vI (t4 ((kN + 1) - 1)), vI (t5 ((kN + 2) - 1)), vI 1, vI ((upd t5 ((kN + 2) - 1) (t5 ((kN + 2) - 1) - 1)) ((kN + 2) - 1))] []))
                     refine go _ _ (fun _ k => XS.iload X787h.here hx rfl (hb hby at_556) rfl  k) ?_
                     show G (T787.setTop (mkF m 558 #[vI u0, vI u1, vI u2, vI om, vI ol, vI p1, vI nv, vI im, vI ig, vI p2, vI mv, vI kv, vI tg, vR b739, vI qv, vI (mvOf om), vI (mvOf im), vR b748, vI (t4 ((kN + 1) - 1)), vI (t5 ((kN + 2) - 1)), vI 1, vI ((upd t5 ((kN + 2) - 1) (t5 ((kN + 2) - 1) - 1)) ((kN + 2) - 1))] [(.int (1 : Int32))]))
                     refine own_retZ rt X787h hx (t := .boolean) hret (by simp) (hb hby at_558) (by decide) (by decide) ?_
                     refine ⟨(by rw [hh787]; exact Y786), ?_⟩
                     exact ⟨rfl, N787h⟩
                    ·refine go _ _ (fun _ k => XS.ifNo X765h.here hx rfl (hb hby at_510) rfl (Free.XT.i0_eq_f c782) k) ?_
                     show G (T765.setTop (mkF m 513 #[vI u0, vI u1, vI u2, vI om, vI ol, vI p1, vI nv, vI im, vI ig, vI p2, vI mv, vI kv, vI tg, vR b739, vI qv, vI (mvOf om), vI (mvOf im), vR b748, vI (t4 ((kN + 1) - 1)), vI (t5 ((kN + 2) - 1)), vI 1, .unset] []))
                     refine go _ _ (fun _ k => XS.aload X765h.here hx rfl (hb hby at_513) rfl rfl  k) ?_
                     show G (T765.setTop (mkF m 515 #[vI u0, vI u1, vI u2, vI om, vI ol, vI p1, vI nv, vI im, vI ig, vI p2, vI mv, vI kv, vI tg, vR b739, vI qv, vI (mvOf om), vI (mvOf im), vR b748, vI (t4 ((kN + 1) - 1)), vI (t5 ((kN + 2) - 1)), vI 1, .unset] [(.ref b748)]))
                     refine own_virtual go X765h hx hZ hh765 hown (wd hw 114 rfl) (wd hw 115 rfl) (notFace_of_selects (args := #[]) (mvT hZ (wd hw 117 rfl))) (wd hw 117 rfl) (wd hw 116 rfl) (wd hw 3 rfl) (wd hw 118 rfl) (by decide) (rm_readTag l Z a0 hw b748 b739 il2 zu za zm zt po2 dp2 (kN + w1 + w2) (kN + 2) sz g3 t5 1 6 h764 n0 Z764 g_b748 f764_0 f764_1 f764_2 f764_3 f764_4 f764_5 f764_6 ne749 n20b n12b hpo2 hdp2 f764_7 f764_8 f764_9 f764_10 nut nat nmt ((HT.resolve_left (fun z => c782 z.1)).2.1) (by omega) (by omega) hsz hs8 (fun z => own_ofnz (n := mN * perOf im) (Nat.mul_pos (Nat.pos_of_ne_zero (fun y => c766 ((own_lit 0 (kk := 0) rfl hmN).mpr y))) (by rcases own_per im with q | q <;> omega)) (by omega) (ht5.symm.trans z))) 0 (by decide) (by decide) (by decide) (by decide) f764_0 (g := (mkF m 515 #[vI u0, vI u1, vI u2, vI om, vI ol, vI p1, vI nv, vI im, vI ig, vI p2, vI mv, vI kv, vI tg, vR b739, vI qv, vI (mvOf om), vI (mvOf im), vR b748, vI (t4 ((kN + 1) - 1)), vI (t5 ((kN + 2) - 1)), vI 1, .unset] [(.ref b748)])) rfl (by rw [hml]; rfl) [] [] rfl (lenOf pd_10 rfl) rfl (by show 2 * 0 + _ ≤ _; exact Nat.le_of_eq rfl) (hb hby at_515) ?_
                     intro T788 L788 v788 X788 q788
                     obtain ⟨⟨y788, rfl⟩, N788, K788, po788, hp788, Ee788, Fp788, Fi788, Fl788, Fd788, B788⟩ := q788
                     have ns789 : ∀ w ∈ [b748], ∃ c : Cell, h764[w]? = some c ∧ c.vm.isStatics = false := (allS (own_exa_ns f764_0) all0)
                     obtain ⟨lc788, X788h, N788h⟩ := own_hide X788 (Fr.app N765h N788)
                     have Z790 : n0 ≤ T788.heap.size := Nat.le_trans Z764 K788.1
                     have Y791 : kS ≤ T788.heap.size := Nat.le_trans Y764 K788.1
                     show G (T788.setTop (mkF m 518 #[vI u0, vI u1, vI u2, vI om, vI ol, vI p1, vI nv, vI im, vI ig, vI p2, vI mv, vI kv, vI tg, vR b739, vI qv, vI (mvOf om), vI (mvOf im), vR b748, vI (t4 ((kN + 1) - 1)), vI (t5 ((kN + 2) - 1)), vI 1, .unset] [(.long y788)]))
                     refine go _ _ (fun _ k => own_pop2L X788h.here hx rfl (hb hby at_518) rfl k) ?_
                     show G (T788.setTop (mkF m 519 #[vI u0, vI u1, vI u2, vI om, vI ol, vI p1, vI nv, vI im, vI ig, vI p2, vI mv, vI kv, vI tg, vR b739, vI qv, vI (mvOf om), vI (mvOf im), vR b748, vI (t4 ((kN + 1) - 1)), vI (t5 ((kN + 2) - 1)), vI 1, .unset] []))
                     refine go _ _ (fun _ k => XS.aload X788h.here hx rfl (hb hby at_519) rfl rfl  k) ?_
                     show G (T788.setTop (mkF m 521 #[vI u0, vI u1, vI u2, vI om, vI ol, vI p1, vI nv, vI im, vI ig, vI p2, vI mv, vI kv, vI tg, vR b739, vI qv, vI (mvOf om), vI (mvOf im), vR b748, vI (t4 ((kN + 1) - 1)), vI (t5 ((kN + 2) - 1)), vI 1, .unset] [(.ref b748)]))
                     have f792 := (f764_5.keep K788 (ninS ne749 nin0))
                     have f793 := (own_sta_keep f764_7 K788 ns789)
                     have f794 := (own_sta_keep f764_8 K788 ns789)
                     have f795 := (own_sta_keep f764_9 K788 ns789)
                     have f796 := (own_sta_keep f764_10 K788 ns789)
                     refine own_virtual go X788h hx hZ rfl hown (wd hw 107 rfl) (wd hw 108 rfl) (notFace_of_selects (args := #[]) (mvT hZ (wd hw 110 rfl))) (wd hw 110 rfl) (wd hw 109 rfl) (wd hw 3 rfl) (wd hw 111 rfl) (by decide) (rm_readUnsigned l Z a0 hw b748 b739 il2 zu za zm zt po788 dp2 ((kN + w1 + w2) + 1) (kN + 2) sz g3 t5 1 0 T788.heap n0 Z790 g_b748 g_il2 Ee788 Fp788 Fi788 Fl788 Fd788 f792 B788 ne749 n20b n12b hp788 hdp2 f793 f794 f795 f796 nut nat nmt ((HT.resolve_left (fun z => c782 z.1)).2.2) (by omega) (by omega) hsz hs8 (fun z => own_ofnz (n := mN * perOf im) (Nat.mul_pos (Nat.pos_of_ne_zero (fun y => c766 ((own_lit 0 (kk := 0) rfl hmN).mpr y))) (by rcases own_per im with q | q <;> omega)) (by omega) (ht5.symm.trans z))) 0 (by decide) (by decide) (by decide) (by decide) Ee788 (g := (mkF m 521 #[vI u0, vI u1, vI u2, vI om, vI ol, vI p1, vI nv, vI im, vI ig, vI p2, vI mv, vI kv, vI tg, vR b739, vI qv, vI (mvOf om), vI (mvOf im), vR b748, vI (t4 ((kN + 1) - 1)), vI (t5 ((kN + 2) - 1)), vI 1, .unset] [(.ref b748)])) rfl (by rw [hml]; rfl) [] [] rfl (lenOf pd_10 rfl) rfl (by show 2 * 0 + _ ≤ _; exact Nat.le_of_eq rfl) (hb hby at_521) ?_
                     intro T797 L797 v797 X797 q797
                     obtain ⟨⟨y797, rfl⟩, N797, K797, po797, hp797, Ee797, Fp797, Fi797, Fl797, Fd797, B797⟩ := q797
                     have ns798 : ∀ w ∈ [b748, il2], ∃ c : Cell, T788.heap[w]? = some c ∧ c.vm.isStatics = false := (allS (own_exa_ns Ee788) (allS (own_ary_ns B788) all0))
                     obtain ⟨lc797, X797h, N797h⟩ := own_hide X797 (Fr.app N788h N797)
                     have Z799 : n0 ≤ T797.heap.size := Nat.le_trans Z790 K797.1
                     have Y800 : kS ≤ T797.heap.size := Nat.le_trans Y791 K797.1
                     show G (T797.setTop (mkF m 524 #[vI u0, vI u1, vI u2, vI om, vI ol, vI p1, vI nv, vI im, vI ig, vI p2, vI mv, vI kv, vI tg, vR b739, vI qv, vI (mvOf om), vI (mvOf im), vR b748, vI (t4 ((kN + 1) - 1)), vI (t5 ((kN + 2) - 1)), vI 1, .unset] [(.long y797)]))
                     refine go _ _ (fun _ k => own_pop2L X797h.here hx rfl (hb hby at_524) rfl k) ?_
                     show G (T797.setTop (mkF m 525 #[vI u0, vI u1, vI u2, vI om, vI ol, vI p1, vI nv, vI im, vI ig, vI p2, vI mv, vI kv, vI tg, vR b739, vI qv, vI (mvOf om), vI (mvOf im), vR b748, vI (t4 ((kN + 1) - 1)), vI (t5 ((kN + 2) - 1)), vI 1, .unset] []))
                     refine go _ _ (fun _ k => XS.aload X797h.here hx rfl (hb hby at_525) rfl rfl  k) ?_
                     show G (T797.setTop (mkF m 527 #[vI u0, vI u1, vI u2, vI om, vI ol, vI p1, vI nv, vI im, vI ig, vI p2, vI mv, vI kv, vI tg, vR b739, vI qv, vI (mvOf om), vI (mvOf im), vR b748, vI (t4 ((kN + 1) - 1)), vI (t5 ((kN + 2) - 1)), vI 1, .unset] [(.ref b748)]))
                     refine own_virtual go X797h hx hZ rfl hown (wd hw 71 rfl) (wd hw 72 rfl) (notFace_of_selects (args := #[]) (mvT hZ (wd hw 74 rfl))) (wd hw 74 rfl) (wd hw 73 rfl) (wd hw 3 rfl) (wd hw 75 rfl) (by decide) (rm_il l Z a0 hw b748 il2 dp2 (kN + 2) sz (upd t5 ((kN + 2) - 1) (t5 ((kN + 2) - 1) - 1)) T797.heap n0 Z799 Fl797 Fd797 B797 hdp2 (by omega) (by omega) (by omega)) 0 (by decide) (by decide) (by decide) (by decide) Ee797 (g := (mkF m 527 #[vI u0, vI u1, vI u2, vI om, vI ol, vI p1, vI nv, vI im, vI ig, vI p2, vI mv, vI kv, vI tg, vR b739, vI qv, vI (mvOf om), vI (mvOf im), vR b748, vI (t4 ((kN + 1) - 1)), vI (t5 ((kN + 2) - 1)), vI 1, .unset] [(.ref b748)])) rfl (by rw [hml]; rfl) [] [] rfl (lenOf pd_3 rfl) rfl (by show 2 * 0 + _ ≤ _; exact Nat.le_of_eq rfl) (hb hby at_527) ?_
                     intro T801 L801 v801 X801 q801
                     obtain ⟨rfl, N801, hh801⟩ := q801
                     obtain ⟨lc801, X801h, N801h⟩ := own_hide X801 (Fr.app N797h N801)
                     show G (T801.setTop (mkF m 530 #[vI u0, vI u1, vI u2, vI om, vI ol, vI p1, vI nv, vI im, vI ig, vI p2, vI mv, vI kv, vI tg, vR b739, vI qv, vI (mvOf om), vI (mvOf im), vR b748, vI (t4 ((kN + 1) - 1)), vI (t5 ((kN + 2) - 1)), vI 1, .unset] [(.int ((upd t5 ((kN + 2) - 1) (t5 ((kN + 2) - 1) - 1)) ((kN + 2) - 1)))]))
                     refine go _ _ (fun _ k => XS.istore X801h.here hx rfl (hb hby at_530) rfl (l' := #[vI u0, vI u1, vI u2, vI om, vI ol, vI p1, vI nv, vI im, vI ig, vI p2, vI mv, vI kv, vI tg, vR b739, vI qv, vI (mvOf om), vI (mvOf im), vR b748, vI (t4 ((kN + 1) - 1)), vI (t5 ((kN + 2) - 1)), vI 1, vI ((upd t5 ((kN + 2) - 1) (t5 ((kN + 2) - 1) - 1)) ((kN + 2) - 1))]) rfl k) ?_
                     show G (T801.setTop (mkF m 532 #[vI u0, vI u1, vI u2, vI om, vI ol, vI p1, vI nv, vI im, vI ig, vI p2, vI mv, vI kv, vI tg, vR b739, vI qv, vI (mvOf om), vI (mvOf im), vR b748, vI (t4 ((kN + 1) - 1)), vI (t5 ((kN + 2) - 1)), vI 1, vI ((upd t5 ((kN + 2) - 1) (t5 ((kN + 2) - 1) - 1)) ((kN + 2) - 1))] []))
                     refine go _ _ (fun _ k => XS.iload X801h.here hx rfl (hb hby at_532) rfl  k) ?_
                     show G (T801.setTop (mkF m 534 #[vI u0, vI u1, vI u2, vI om, vI ol, vI p1, vI nv, vI im, vI ig, vI p2, vI mv, vI kv, vI tg, vR b739, vI qv, vI (mvOf om), vI (mvOf im), vR b748, vI (t4 ((kN + 1) - 1)), vI (t5 ((kN + 2) - 1)), vI 1, vI ((upd t5 ((kN + 2) - 1) (t5 ((kN + 2) - 1) - 1)) ((kN + 2) - 1))] [(.int (1 : Int32))]))
                     refine go _ _ (fun _ k => XS.ifNo X801h.here hx rfl (hb hby at_534) rfl (Free.XT.i0_eq_f (by decide)) k) ?_
                     show G (T801.setTop (mkF m 537 #[vI u0, vI u1, vI u2, vI om, vI ol, vI p1, vI nv, vI im, vI ig, vI p2, vI mv, vI kv, vI tg, vR b739, vI qv, vI (mvOf om), vI (mvOf im), vR b748, vI (t4 ((kN + 1) - 1)), vI (t5 ((kN + 2) - 1)), vI 1, vI ((upd t5 ((kN + 2) - 1) (t5 ((kN + 2) - 1) - 1)) ((kN + 2) - 1))] []))
                     refine go _ _ (fun _ k => XS.iload X801h.here hx rfl (hb hby at_537) rfl  k) ?_
                     show G (T801.setTop (mkF m 539 #[vI u0, vI u1, vI u2, vI om, vI ol, vI p1, vI nv, vI im, vI ig, vI p2, vI mv, vI kv, vI tg, vR b739, vI qv, vI (mvOf om), vI (mvOf im), vR b748, vI (t4 ((kN + 1) - 1)), vI (t5 ((kN + 2) - 1)), vI 1, vI ((upd t5 ((kN + 2) - 1) (t5 ((kN + 2) - 1) - 1)) ((kN + 2) - 1))] [(.int ((upd t5 ((kN + 2) - 1) (t5 ((kN + 2) - 1) - 1)) ((kN + 2) - 1)))]))
                     refine go _ _ (fun _ k => XS.iload X801h.here hx rfl (hb hby at_539) rfl  k) ?_
                     show G (T801.setTop (mkF m 541 #[vI u0, vI u1, vI u2, vI om, vI ol, vI p1, vI nv, vI im, vI ig, vI p2, vI mv, vI kv, vI tg, vR b739, vI qv, vI (mvOf om), vI (mvOf im), vR b748, vI (t4 ((kN + 1) - 1)), vI (t5 ((kN + 2) - 1)), vI 1, vI ((upd t5 ((kN + 2) - 1) (t5 ((kN + 2) - 1) - 1)) ((kN + 2) - 1))] [(.int mv), (.int ((upd t5 ((kN + 2) - 1) (t5 ((kN + 2) - 1) - 1)) ((kN + 2) - 1)))]))
                     refine go _ _ (fun _ k => XS.iload X801h.here hx rfl (hb hby at_541) rfl  k) ?_
                     show G (T801.setTop (mkF m 543 #[vI u0, vI u1, vI u2, vI om, vI ol, vI p1, vI nv, vI im, vI ig, vI p2, vI mv, vI kv, vI tg, vR b739, vI qv, vI (mvOf om), vI (mvOf im), vR b748, vI (t4 ((kN + 1) - 1)), vI (t5 ((kN + 2) - 1)), vI 1, vI ((upd t5 ((kN + 2) - 1) (t5 ((kN + 2) - 1) - 1)) ((kN + 2) - 1))] [(.int p2), (.int mv), (.int ((upd t5 ((kN + 2) - 1) (t5 ((kN + 2) - 1) - 1)) ((kN + 2) - 1)))]))
                     refine go _ _ (fun _ k => XS.imul X801h.here hx rfl (hb hby at_543) rfl k) ?_
                     show G (T801.setTop (mkF m 544 #[vI u0, vI u1, vI u2, vI om, vI ol, vI p1, vI nv, vI im, vI ig, vI p2, vI mv, vI kv, vI tg, vR b739, vI qv, vI (mvOf om), vI (mvOf im), vR b748, vI (t4 ((kN + 1) - 1)), vI (t5 ((kN + 2) - 1)), vI 1, vI ((upd t5 ((kN + 2) - 1) (t5 ((kN + 2) - 1) - 1)) ((kN + 2) - 1))] [(.int (mv * p2)), (.int ((upd t5 ((kN + 2) - 1) (t5 ((kN + 2) - 1) - 1)) ((kN + 2) - 1)))]))
                     refine go _ _ (fun _ k => XS.iconst X801h.here hx rfl (hb hby at_544) k) ?_
                     show G (T801.setTop (mkF m 545 #[vI u0, vI u1, vI u2, vI om, vI ol, vI p1, vI nv, vI im, vI ig, vI p2, vI mv, vI kv, vI tg, vR b739, vI qv, vI (mvOf om), vI (mvOf im), vR b748, vI (t4 ((kN + 1) - 1)), vI (t5 ((kN + 2) - 1)), vI 1, vI ((upd t5 ((kN + 2) - 1) (t5 ((kN + 2) - 1) - 1)) ((kN + 2) - 1))] [(.int (1 : Int32)), (.int (mv * p2)), (.int ((upd t5 ((kN + 2) - 1) (t5 ((kN + 2) - 1) - 1)) ((kN + 2) - 1)))]))
                     refine go _ _ (fun _ k => XS.isub X801h.here hx rfl (hb hby at_545) rfl k) ?_
                     show G (T801.setTop (mkF m 546 #[vI u0, vI u1, vI u2, vI om, vI ol, vI p1, vI nv, vI im, vI ig, vI p2, vI mv, vI kv, vI tg, vR b739, vI qv, vI (mvOf om), vI (mvOf im), vR b748, vI (t4 ((kN + 1) - 1)), vI (t5 ((kN + 2) - 1)), vI 1, vI ((upd t5 ((kN + 2) - 1) (t5 ((kN + 2) - 1) - 1)) ((kN + 2) - 1))] [(.int ((mv * p2) - (1 : Int32))), (.int ((upd t5 ((kN + 2) - 1) (t5 ((kN + 2) - 1) - 1)) ((kN + 2) - 1)))]))
                     refine go _ _ (fun _ k => XS.icmpNo X801h.here hx rfl (hb hby at_546) rfl (Free.XT.ii_ne_f (own_mulN1 hmN hp2 (own_per im) (by omega) (upd_eq.trans (congrArg (fun z => z - 1) ht5)))) k) ?_
                     show G (T801.setTop (mkF m 549 #[vI u0, vI u1, vI u2, vI om, vI ol, vI p1, vI nv, vI im, vI ig, vI p2, vI mv, vI kv, vI tg, vR b739, vI qv, vI (mvOf om), vI (mvOf im), vR b748, vI (t4 ((kN + 1) - 1)), vI (t5 ((kN + 2) - 1)), vI 1, vI ((upd t5 ((kN + 2) - 1) (t5 ((kN + 2) - 1) - 1)) ((kN + 2) - 1))] []))
                     refine go _ _ (fun _ k => XS.iconst X801h.here hx rfl (hb hby at_549) k) ?_
                     show G (T801.setTop (mkF m 550 #[vI u0, vI u1, vI u2, vI om, vI ol, vI p1, vI nv, vI im, vI ig, vI p2, vI mv, vI kv, vI tg, vR b739, vI qv, vI (mvOf om), vI (mvOf im), vR b748, vI (t4 ((kN + 1) - 1)), vI (t5 ((kN + 2) - 1)), vI 1, vI ((upd t5 ((kN + 2) - 1) (t5 ((kN + 2) - 1) - 1)) ((kN + 2) - 1))] [(.int (1 : Int32))]))
                     refine go _ _ (fun _ k => XS.goto X801h.here hx rfl (pc0 := 550) (pc' := 554) rfl (hb hby at_550) (by decide) (by decide) k) ?_
                     show G (T801.setTop (mkF m 554 #[vI u0, vI u1, vI u2, vI om, vI ol, vI p1, vI nv, vI im, vI ig, vI p2, vI mv, vI kv, vI tg, vR b739, vI qv, vI (mvOf om), vI (mvOf im), vR b748, vI (t4 ((kN + 1) - 1)), vI (t5 ((kN + 2) - 1)), vI 1, vI ((upd t5 ((kN + 2) - 1) (t5 ((kN + 2) - 1) - 1)) ((kN + 2) - 1))] [(.int (1 : Int32))]))
                     refine go _ _ (fun _ k => XS.istore X801h.here hx rfl (hb hby at_554) rfl (l' := #[vI u0, vI u1, vI u2, vI om, vI ol, vI p1, vI nv, vI im, vI ig, vI p2, vI mv, vI kv, vI tg, vR b739, vI qv, vI (mvOf om), vI (mvOf im), vR b748, vI (t4 ((kN + 1) - 1)), vI (t5 ((kN + 2) - 1)), vI 1, vI ((upd t5 ((kN + 2) - 1) (t5 ((kN + 2) - 1) - 1)) ((kN + 2) - 1))]) rfl k) ?_
                     show G (T801.setTop (mkF m 556 #[vI u0, vI u1, vI u2, vI om, vI ol, vI p1, vI nv, vI im, vI ig, vI p2, vI mv, vI kv, vI tg, vR b739, vI qv, vI (mvOf om), vI (mvOf im), vR b748, vI (t4 ((kN + 1) - 1)), vI (t5 ((kN + 2) - 1)), vI 1, vI ((upd t5 ((kN + 2) - 1) (t5 ((kN + 2) - 1) - 1)) ((kN + 2) - 1))] []))
                     refine go _ _ (fun _ k => XS.iload X801h.here hx rfl (hb hby at_556) rfl  k) ?_
                     show G (T801.setTop (mkF m 558 #[vI u0, vI u1, vI u2, vI om, vI ol, vI p1, vI nv, vI im, vI ig, vI p2, vI mv, vI kv, vI tg, vR b739, vI qv, vI (mvOf om), vI (mvOf im), vR b748, vI (t4 ((kN + 1) - 1)), vI (t5 ((kN + 2) - 1)), vI 1, vI ((upd t5 ((kN + 2) - 1) (t5 ((kN + 2) - 1) - 1)) ((kN + 2) - 1))] [(.int (1 : Int32))]))
                     refine own_retZ rt X801h hx (t := .boolean) hret (by simp) (hb hby at_558) (by decide) (by decide) ?_
                     refine ⟨(by rw [hh801]; exact Y800), ?_⟩
                     exact ⟨rfl, N801h⟩
                  refine go _ _ (fun _ k => XS.iload X763h.here hx rfl (hb hby at_399) rfl  k) ?_
                  show G (T763.setTop (mkF m 401 #[vI u0, vI u1, vI u2, vI om, vI ol, vI p1, vI nv, vI im, vI ig, vI p2, vI mv, vI kv, vI tg, vR b739, vI qv, vI (mvOf om), vI (mvOf im), vR b748, vI (t4 ((kN + 1) - 1)), .unset, .unset, .unset] [(.int im)]))
                  by_cases c802 : im = (0 : Int32)
                  ·refine go _ _ (fun _ k => XS.ifYes X763h.here hx rfl (pc0 := 401) (pc' := 412) rfl (hb hby at_401) rfl (Free.XT.i0_eq_t c802) (by decide) (by decide) k) ?_
                   show G (T763.setTop (mkF m 412 #[vI u0, vI u1, vI u2, vI om, vI ol, vI p1, vI nv, vI im, vI ig, vI p2, vI mv, vI kv, vI tg, vR b739, vI qv, vI (mvOf om), vI (mvOf im), vR b748, vI (t4 ((kN + 1) - 1)), .unset, .unset, .unset] []))
                   by_cases c803 : kN = 3
                   ·obtain rfl : kN = 3 := c803
                    obtain rfl : dp = (4 : Int32) := (own_lit 4 (kk := 4) rfl hdp).mpr rfl
                    show G (T763.setTop (mkF m 412 #[vI u0, vI u1, vI u2, vI om, vI ol, vI p1, vI nv, vI im, vI ig, vI p2, vI mv, vI kv, vI tg, vR b739, vI qv, vI (mvOf om), vI (mvOf im), vR b748, vI (t4 ((3 + 1) - 1)), .unset, .unset, .unset] []))
                    refine go _ _ (fun _ k => XS.aload X763h.here hx rfl (hb hby at_412) rfl rfl  k) ?_
                    show G (T763.setTop (mkF m 414 #[vI u0, vI u1, vI u2, vI om, vI ol, vI p1, vI nv, vI im, vI ig, vI p2, vI mv, vI kv, vI tg, vR b739, vI qv, vI (mvOf om), vI (mvOf im), vR b748, vI (t4 ((3 + 1) - 1)), .unset, .unset, .unset] [(.ref b748)]))
                    refine own_virtualW go X763h hx hZ hh763 hown (wd hw 15 rfl) (wd hw 16 rfl) (notFace_of_selects (args := #[]) (mvT hZ (wd hw 18 rfl))) (wd hw 18 rfl) (wd hw 17 rfl) (wd hw 3 rfl) (wd hw 19 rfl) (by decide) (rm_op4c l Z a0 hw b748 b739 il zu za zm zt po (3 + w1) g3 t4 w2 mN h762 n0 Z762 g_b748 g_il f762_0 f762_1 f762_2 f762_3 f762_4 f762_5 f762_6 ne749 n20 n12 hpo f762_7 f762_8 f762_9 f762_10 nut nat nmt (mjOf_z c802 ▸ H2) (by omega) (by have q3 := hm2; rw [perOf_z c802] at q3; omega) (fun z => own_ofnz hn6 (by omega) (ht4.symm.trans z))) 0 (by decide) (by decide) (by decide) (by decide) f762_0 (g := (mkF m 414 #[vI u0, vI u1, vI u2, vI om, vI ol, vI p1, vI nv, vI im, vI ig, vI p2, vI mv, vI kv, vI tg, vR b739, vI qv, vI (mvOf om), vI (mvOf im), vR b748, vI (t4 ((3 + 1) - 1)), .unset, .unset, .unset] [(.ref b748)])) rfl (by rw [hml]; rfl) [] [] rfl (lenOf pd_0 rfl) rfl (by show 2 * 0 + _ ≤ _; exact Nat.le_of_eq rfl) (hb hby at_414) rb Y762 ?_
                    intro s kS T804 L804 v804 hZ hown rb Y804 X804 q804
                    have rt := own_rt rb
                    obtain ⟨rfl, N804, K804, po804, dp804, il804, t804, hp804, hdp804, ht804, hu804, g_il804, szq804, Ee804, Fp804, Fi804, Fl804, Fd804, B804⟩ := q804
                    have n20804 : il804 ≠ b748 := Ne.symm (Nat.ne_of_lt (Nat.lt_of_lt_of_le f762_0.lt szq804))
                    have n12804 : b739 ≠ il804 := Nat.ne_of_lt (Nat.lt_of_lt_of_le f762_5.lt szq804)
                    have ns805 : ∀ w ∈ [b748, il], ∃ c : Cell, h762[w]? = some c ∧ c.vm.isStatics = false := (allS (own_exa_ns f762_0) (allS (own_ary_ns f762_6) all0))
                    obtain ⟨lc804, X804h, N804h⟩ := own_hide X804 (Fr.app N763h N804)
                    have Z806 : n0 ≤ T804.heap.size := Nat.le_trans Z762 K804.1
                    show G (T804.setTop (mkF m 417 #[vI u0, vI u1, vI u2, vI om, vI ol, vI p1, vI nv, vI im, vI ig, vI p2, vI mv, vI kv, vI tg, vR b739, vI qv, vI (mvOf om), vI (mvOf im), vR b748, vI (t4 ((3 + 1) - 1)), .unset, .unset, .unset] []))
                    have f807 := (f762_5.keep K804 (ninS ne749 (ninS n12 nin0)))
                    have f808 := (own_sta_keep f762_7 K804 ns805)
                    have f809 := (own_sta_keep f762_8 K804 ns805)
                    have f810 := (own_sta_keep f762_9 K804 ns805)
                    have f811 := (own_sta_keep f762_10 K804 ns805)
                    exact J417 s kS hZ hown rb T804 _ T804.heap (X804h.mono (by decide) (by decide)) rfl N804h  Z806 Y804 _ _ _ _ 8 hp804 hdp804 (by rw [perOf_z c802]; exact ht804) (hu804.trans (congrArg (fun z => z - 1) ht4)) g_il804 n20804 n12804 (by omega) (by decide) Ee804 Fp804 Fi804 Fl804 Fd804 f807 B804 f808 f809 f810 f811
                   ·show G (T763.setTop (mkF m 412 #[vI u0, vI u1, vI u2, vI om, vI ol, vI p1, vI nv, vI im, vI ig, vI p2, vI mv, vI kv, vI tg, vR b739, vI qv, vI (mvOf om), vI (mvOf im), vR b748, vI (t4 ((kN + 1) - 1)), .unset, .unset, .unset] []))
                    refine go _ _ (fun _ k => XS.aload X763h.here hx rfl (hb hby at_412) rfl rfl  k) ?_
                    show G (T763.setTop (mkF m 414 #[vI u0, vI u1, vI u2, vI om, vI ol, vI p1, vI nv, vI im, vI ig, vI p2, vI mv, vI kv, vI tg, vR b739, vI qv, vI (mvOf om), vI (mvOf im), vR b748, vI (t4 ((kN + 1) - 1)), .unset, .unset, .unset] [(.ref b748)]))
                    refine own_virtualW go X763h hx hZ hh763 hown (wd hw 15 rfl) (wd hw 16 rfl) (notFace_of_selects (args := #[]) (mvT hZ (wd hw 18 rfl))) (wd hw 18 rfl) (wd hw 17 rfl) (wd hw 3 rfl) (wd hw 19 rfl) (by decide) (rm_op4d l Z a0 hw b748 b739 il zu za zm zt po dp (kN + w1) (kN + 1) g3 t4 w2 mN h762 n0 Z762 g_b748 g_il f762_0 f762_1 f762_2 f762_3 f762_4 f762_5 f762_6 ne749 n20 n12 hpo hdp f762_7 f762_8 f762_9 f762_10 nut nat nmt (mjOf_z c802 ▸ H2) (by omega) (by have q3 := hm2; rw [perOf_z c802] at q3; omega) (by omega) (by omega) (fun z => own_ofnz hn6 (by omega) (ht4.symm.trans z))) 0 (by decide) (by decide) (by decide) (by decide) f762_0 (g := (mkF m 414 #[vI u0, vI u1, vI u2, vI om, vI ol, vI p1, vI nv, vI im, vI ig, vI p2, vI mv, vI kv, vI tg, vR b739, vI qv, vI (mvOf om), vI (mvOf im), vR b748, vI (t4 ((kN + 1) - 1)), .unset, .unset, .unset] [(.ref b748)])) rfl (by rw [hml]; rfl) [] [] rfl (lenOf pd_0 rfl) rfl (by show 2 * 0 + _ ≤ _; exact Nat.le_of_eq rfl) (hb hby at_414) rb Y762 ?_
                    intro s kS T812 L812 v812 hZ hown rb Y812 X812 q812
                    have rt := own_rt rb
                    obtain ⟨rfl, N812, K812, po812, dp812, t812, hp812, hdp812, ht812, hu812, Ee812, Fp812, Fi812, Fl812, Fd812, B812⟩ := q812
                    have ns813 : ∀ w ∈ [b748, il], ∃ c : Cell, h762[w]? = some c ∧ c.vm.isStatics = false := (allS (own_exa_ns f762_0) (allS (own_ary_ns f762_6) all0))
                    obtain ⟨lc812, X812h, N812h⟩ := own_hide X812 (Fr.app N763h N812)
                    have Z814 : n0 ≤ T812.heap.size := Nat.le_trans Z762 K812.1
                    show G (T812.setTop (mkF m 417 #[vI u0, vI u1, vI u2, vI om, vI ol, vI p1, vI nv, vI im, vI ig, vI p2, vI mv, vI kv, vI tg, vR b739, vI qv, vI (mvOf om), vI (mvOf im), vR b748, vI (t4 ((kN + 1) - 1)), .unset, .unset, .unset] []))
                    have f815 := (f762_5.keep K812 (ninS ne749 (ninS n12 nin0)))
                    have f816 := (own_sta_keep f762_7 K812 ns813)
                    have f817 := (own_sta_keep f762_8 K812 ns813)
                    have f818 := (own_sta_keep f762_9 K812 ns813)
                    have f819 := (own_sta_keep f762_10 K812 ns813)
                    exact J417 s kS hZ hown rb T812 _ T812.heap (X812h.mono (by decide) (by decide)) rfl N812h  Z814 Y812 _ _ _ _ 4 hp812 hdp812 (by rw [perOf_z c802]; exact ht812) (hu812.trans (congrArg (fun z => z - 1) ht4)) g_il n20 n12 (by omega) (by decide) Ee812 Fp812 Fi812 Fl812 Fd812 f815 B812 f816 f817 f818 f819
                  ·refine go _ _ (fun _ k => XS.ifNo X763h.here hx rfl (hb hby at_401) rfl (Free.XT.i0_eq_f c802) k) ?_
                   show G (T763.setTop (mkF m 404 #[vI u0, vI u1, vI u2, vI om, vI ol, vI p1, vI nv, vI im, vI ig, vI p2, vI mv, vI kv, vI tg, vR b739, vI qv, vI (mvOf om), vI (mvOf im), vR b748, vI (t4 ((kN + 1) - 1)), .unset, .unset, .unset] []))
                   by_cases c820 : kN = 3
                   ·obtain rfl : kN = 3 := c820
                    obtain rfl : dp = (4 : Int32) := (own_lit 4 (kk := 4) rfl hdp).mpr rfl
                    show G (T763.setTop (mkF m 404 #[vI u0, vI u1, vI u2, vI om, vI ol, vI p1, vI nv, vI im, vI ig, vI p2, vI mv, vI kv, vI tg, vR b739, vI qv, vI (mvOf om), vI (mvOf im), vR b748, vI (t4 ((3 + 1) - 1)), .unset, .unset, .unset] []))
                    refine go _ _ (fun _ k => XS.aload X763h.here hx rfl (hb hby at_404) rfl rfl  k) ?_
                    show G (T763.setTop (mkF m 406 #[vI u0, vI u1, vI u2, vI om, vI ol, vI p1, vI nv, vI im, vI ig, vI p2, vI mv, vI kv, vI tg, vR b739, vI qv, vI (mvOf om), vI (mvOf im), vR b748, vI (t4 ((3 + 1) - 1)), .unset, .unset, .unset] [(.ref b748)]))
                    refine own_virtualW go X763h hx hZ hh763 hown (wd hw 76 rfl) (wd hw 77 rfl) (notFace_of_selects (args := #[]) (mvT hZ (wd hw 79 rfl))) (wd hw 79 rfl) (wd hw 78 rfl) (wd hw 3 rfl) (wd hw 80 rfl) (by decide) (rm_op5c l Z a0 hw b748 b739 il zu za zm zt po (3 + w1) g3 t4 w2 mN h762 n0 Z762 g_b748 g_il f762_0 f762_1 f762_2 f762_3 f762_4 f762_5 f762_6 ne749 n20 n12 hpo f762_7 f762_8 f762_9 f762_10 nut nat nmt (mjOf_n c802 ▸ H2) (by omega) (by have q3 := hm2; rw [perOf_n c802] at q3; omega) (fun z => own_ofnz hn6 (by omega) (ht4.symm.trans z))) 0 (by decide) (by decide) (by decide) (by decide) f762_0 (g := (mkF m 406 #[vI u0, vI u1, vI u2, vI om, vI ol, vI p1, vI nv, vI im, vI ig, vI p2, vI mv, vI kv, vI tg, vR b739, vI qv, vI (mvOf om), vI (mvOf im), vR b748, vI (t4 ((3 + 1) - 1)), .unset, .unset, .unset] [(.ref b748)])) rfl (by rw [hml]; rfl) [] [] rfl (lenOf pd_0 rfl) rfl (by show 2 * 0 + _ ≤ _; exact Nat.le_of_eq rfl) (hb hby at_406) rb Y762 ?_
                    intro s kS T821 L821 v821 hZ hown rb Y821 X821 q821
                    have rt := own_rt rb
                    obtain ⟨rfl, N821, K821, po821, dp821, il821, t821, hp821, hdp821, ht821, hu821, g_il821, szq821, Ee821, Fp821, Fi821, Fl821, Fd821, B821⟩ := q821
                    have n20821 : il821 ≠ b748 := Ne.symm (Nat.ne_of_lt (Nat.lt_of_lt_of_le f762_0.lt szq821))
                    have n12821 : b739 ≠ il821 := Nat.ne_of_lt (Nat.lt_of_lt_of_le f762_5.lt szq821)
                    have ns822 : ∀ w ∈ [b748, il], ∃ c : Cell, h762[w]? = some c ∧ c.vm.isStatics = false := (allS (own_exa_ns f762_0) (allS (own_ary_ns f762_6) all0))
                    obtain ⟨lc821, X821h, N821h⟩ := own_hide X821 (Fr.app N763h N821)
                    have Z823 : n0 ≤ T821.heap.size := Nat.le_trans Z762 K821.1
                    show G (T821.setTop (mkF m 409 #[vI u0, vI u1, vI u2, vI om, vI ol, vI p1, vI nv, vI im, vI ig, vI p2, vI mv, vI kv, vI tg, vR b739, vI qv, vI (mvOf om), vI (mvOf im), vR b748, vI (t4 ((3 + 1) - 1)), .unset, .unset, .unset] []))
                    refine go _ _ (fun _ k => XS.goto X821h.here hx rfl (pc0 := 409) (pc' := 417) rfl (hb hby at_409) (by decide) (by decide) k) ?_
                    show G (T821.setTop (mkF m 417 #[vI u0, vI u1, vI u2, vI om, vI ol, vI p1, vI nv, vI im, vI ig, vI p2, vI mv, vI kv, vI tg, vR b739, vI qv, vI (mvOf om), vI (mvOf im), vR b748, vI (t4 ((3 + 1) - 1)), .unset, .unset, .unset] []))
                    have f824 := (f762_5.keep K821 (ninS ne749 (ninS n12 nin0)))
                    have f825 := (own_sta_keep f762_7 K821 ns822)
                    have f826 := (own_sta_keep f762_8 K821 ns822)
                    have f827 := (own_sta_keep f762_9 K821 ns822)
                    have f828 := (own_sta_keep f762_10 K821 ns822)
                    exact J417 s kS hZ hown rb T821 _ T821.heap (X821h.mono (by decide) (by decide)) rfl N821h  Z823 Y821 _ _ _ _ 8 hp821 hdp821 (by rw [perOf_n c802]; exact ht821) (hu821.trans (congrArg (fun z => z - 1) ht4)) g_il821 n20821 n12821 (by omega) (by decide) Ee821 Fp821 Fi821 Fl821 Fd821 f824 B821 f825 f826 f827 f828
                   ·show G (T763.setTop (mkF m 404 #[vI u0, vI u1, vI u2, vI om, vI ol, vI p1, vI nv, vI im, vI ig, vI p2, vI mv, vI kv, vI tg, vR b739, vI qv, vI (mvOf om), vI (mvOf im), vR b748, vI (t4 ((kN + 1) - 1)), .unset, .unset, .unset] []))
                    refine go _ _ (fun _ k => XS.aload X763h.here hx rfl (hb hby at_404) rfl rfl  k) ?_
                    show G (T763.setTop (mkF m 406 #[vI u0, vI u1, vI u2, vI om, vI ol, vI p1, vI nv, vI im, vI ig, vI p2, vI mv, vI kv, vI tg, vR b739, vI qv, vI (mvOf om), vI (mvOf im), vR b748, vI (t4 ((kN + 1) - 1)), .unset, .unset, .unset] [(.ref b748)]))
                    refine own_virtualW go X763h hx hZ hh763 hown (wd hw 76 rfl) (wd hw 77 rfl) (notFace_of_selects (args := #[]) (mvT hZ (wd hw 79 rfl))) (wd hw 79 rfl) (wd hw 78 rfl) (wd hw 3 rfl) (wd hw 80 rfl) (by decide) (rm_op5d l Z a0 hw b748 b739 il zu za zm zt po dp (kN + w1) (kN + 1) g3 t4 w2 mN h762 n0 Z762 g_b748 g_il f762_0 f762_1 f762_2 f762_3 f762_4 f762_5 f762_6 ne749 n20 n12 hpo hdp f762_7 f762_8 f762_9 f762_10 nut nat nmt (mjOf_n c802 ▸ H2) (by omega) (by have q3 := hm2; rw [perOf_n c802] at q3; omega) (by omega) (by omega) (fun z => own_ofnz hn6 (by omega) (ht4.symm.trans z))) 0 (by decide) (by decide) (by decide) (by decide) f762_0 (g := (mkF m 406 #[vI u0, vI u1, vI u2, vI om, vI ol, vI p1, vI nv, vI im, vI ig, vI p2, vI mv, vI kv, vI tg, vR b739, vI qv, vI (mvOf om), vI (mvOf im), vR b748, vI (t4 ((kN + 1) - 1)), .unset, .unset, .unset] [(.ref b748)])) rfl (by rw [hml]; rfl) [] [] rfl (lenOf pd_0 rfl) rfl (by show 2 * 0 + _ ≤ _; exact Nat.le_of_eq rfl) (hb hby at_406) rb Y762 ?_
                    intro s kS T829 L829 v829 hZ hown rb Y829 X829 q829
                    have rt := own_rt rb
                    obtain ⟨rfl, N829, K829, po829, dp829, t829, hp829, hdp829, ht829, hu829, Ee829, Fp829, Fi829, Fl829, Fd829, B829⟩ := q829
                    have ns830 : ∀ w ∈ [b748, il], ∃ c : Cell, h762[w]? = some c ∧ c.vm.isStatics = false := (allS (own_exa_ns f762_0) (allS (own_ary_ns f762_6) all0))
                    obtain ⟨lc829, X829h, N829h⟩ := own_hide X829 (Fr.app N763h N829)
                    have Z831 : n0 ≤ T829.heap.size := Nat.le_trans Z762 K829.1
                    show G (T829.setTop (mkF m 409 #[vI u0, vI u1, vI u2, vI om, vI ol, vI p1, vI nv, vI im, vI ig, vI p2, vI mv, vI kv, vI tg, vR b739, vI qv, vI (mvOf om), vI (mvOf im), vR b748, vI (t4 ((kN + 1) - 1)), .unset, .unset, .unset] []))
                    refine go _ _ (fun _ k => XS.goto X829h.here hx rfl (pc0 := 409) (pc' := 417) rfl (hb hby at_409) (by decide) (by decide) k) ?_
                    show G (T829.setTop (mkF m 417 #[vI u0, vI u1, vI u2, vI om, vI ol, vI p1, vI nv, vI im, vI ig, vI p2, vI mv, vI kv, vI tg, vR b739, vI qv, vI (mvOf om), vI (mvOf im), vR b748, vI (t4 ((kN + 1) - 1)), .unset, .unset, .unset] []))
                    have f832 := (f762_5.keep K829 (ninS ne749 (ninS n12 nin0)))
                    have f833 := (own_sta_keep f762_7 K829 ns830)
                    have f834 := (own_sta_keep f762_8 K829 ns830)
                    have f835 := (own_sta_keep f762_9 K829 ns830)
                    have f836 := (own_sta_keep f762_10 K829 ns830)
                    exact J417 s kS hZ hown rb T829 _ T829.heap (X829h.mono (by decide) (by decide)) rfl N829h  Z831 Y829 _ _ _ _ 4 hp829 hdp829 (by rw [perOf_n c802]; exact ht829) (hu829.trans (congrArg (fun z => z - 1) ht4)) g_il n20 n12 (by omega) (by decide) Ee829 Fp829 Fi829 Fl829 Fd829 f832 B829 f833 f834 f835 f836
                 refine go _ _ (fun _ k => XS.iloadN X761.here hx rfl (hb hby at_375) rfl  k) ?_
                 show G (T761.setTop (mkF m 376 #[vI u0, vI u1, vI u2, vI om, vI ol, vI p1, vI nv, vI im, vI ig, vI p2, vI mv, vI kv, vI tg, vR b739, vI qv, vI (mvOf om), vI (mvOf im), vR b748, .unset, .unset, .unset, .unset] [(.int om)]))
                 by_cases c837 : om = (0 : Int32)
                 ·refine go _ _ (fun _ k => XS.ifYes X761.here hx rfl (pc0 := 376) (pc' := 387) rfl (hb hby at_376) rfl (Free.XT.i0_eq_t c837) (by decide) (by decide) k) ?_
                  show G (T761.setTop (mkF m 387 #[vI u0, vI u1, vI u2, vI om, vI ol, vI p1, vI nv, vI im, vI ig, vI p2, vI mv, vI kv, vI tg, vR b739, vI qv, vI (mvOf om), vI (mvOf im), vR b748, .unset, .unset, .unset, .unset] []))
                  by_cases c838 : kN = 0
                  ·obtain rfl : kN = 0 := c838
                   obtain rfl : dp = (0 : Int32) := (own_lit 0 (kk := 0) rfl hdp).mpr rfl
                   show G (T761.setTop (mkF m 387 #[vI u0, vI u1, vI u2, vI om, vI ol, vI p1, vI nv, vI im, vI ig, vI p2, vI mv, vI kv, vI tg, vR b739, vI qv, vI (mvOf om), vI (mvOf im), vR b748, .unset, .unset, .unset, .unset] []))
                   refine go _ _ (fun _ k => XS.aload X761.here hx rfl (hb hby at_387) rfl rfl  k) ?_
                   show G (T761.setTop (mkF m 389 #[vI u0, vI u1, vI u2, vI om, vI ol, vI p1, vI nv, vI im, vI ig, vI p2, vI mv, vI kv, vI tg, vR b739, vI qv, vI (mvOf om), vI (mvOf im), vR b748, .unset, .unset, .unset, .unset] [(.ref b748)]))
                   refine own_virtualW go X761 hx hZ e761 hown (wd hw 15 rfl) (wd hw 16 rfl) (notFace_of_selects (args := #[]) (mvT hZ (wd hw 18 rfl))) (wd hw 18 rfl) (wd hw 17 rfl) (wd hw 3 rfl) (wd hw 19 rfl) (by decide) (rm_op4z l Z a0 hw b748 b739 il zu za zm zt po 0 g3 t3 w1 nN h761 n0 Z761 g_b748 g_il f761_0 f761_1 f761_2 f761_3 f761_4 f761_5 f761_6 ne749 n20 n12 hpo f761_7 f761_8 f761_9 f761_10 nut nat nmt (mjOf_z c837 ▸ H1) (by omega) (by have q3 := hn3; rw [perOf_z c837] at q3; omega)) 0 (by decide) (by decide) (by decide) (by decide) f761_0 (g := (mkF m 389 #[vI u0, vI u1, vI u2, vI om, vI ol, vI p1, vI nv, vI im, vI ig, vI p2, vI mv, vI kv, vI tg, vR b739, vI qv, vI (mvOf om), vI (mvOf im), vR b748, .unset, .unset, .unset, .unset] [(.ref b748)])) rfl (by rw [hml]; rfl) [] [] rfl (lenOf pd_0 rfl) rfl (by show 2 * 0 + _ ≤ _; exact Nat.le_of_eq rfl) (hb hby at_389) rb Y761 ?_
                   intro s kS T839 L839 v839 hZ hown rb Y839 X839 q839
                   have rt := own_rt rb
                   obtain ⟨rfl, N839, K839, po839, dp839, t839, hp839, hdp839, ht839, Ee839, Fp839, Fi839, Fl839, Fd839, B839⟩ := q839
                   have ns840 : ∀ w ∈ [b748, il], ∃ c : Cell, h761[w]? = some c ∧ c.vm.isStatics = false := (allS (own_exa_ns f761_0) (allS (own_ary_ns f761_6) all0))
                   obtain ⟨lc839, X839h, N839h⟩ := own_hide X839 (Fr.app N761 N839)
                   have Z841 : n0 ≤ T839.heap.size := Nat.le_trans Z761 K839.1
                   show G (T839.setTop (mkF m 392 #[vI u0, vI u1, vI u2, vI om, vI ol, vI p1, vI nv, vI im, vI ig, vI p2, vI mv, vI kv, vI tg, vR b739, vI qv, vI (mvOf om), vI (mvOf im), vR b748, .unset, .unset, .unset, .unset] []))
                   have f842 := (f761_5.keep K839 (ninS ne749 (ninS n12 nin0)))
                   have f843 := (own_sta_keep f761_7 K839 ns840)
                   have f844 := (own_sta_keep f761_8 K839 ns840)
                   have f845 := (own_sta_keep f761_9 K839 ns840)
                   have f846 := (own_sta_keep f761_10 K839 ns840)
                   exact J392 s kS hZ hown rb T839 _ T839.heap (X839h.mono (by decide) (by decide)) rfl N839h  Z841 Y839 _ _ _ hp839 hdp839 (by rw [perOf_z c837]; exact ht839) Ee839 Fp839 Fi839 Fl839 Fd839 f842 B839 f843 f844 f845 f846
                  ·show G (T761.setTop (mkF m 387 #[vI u0, vI u1, vI u2, vI om, vI ol, vI p1, vI nv, vI im, vI ig, vI p2, vI mv, vI kv, vI tg, vR b739, vI qv, vI (mvOf om), vI (mvOf im), vR b748, .unset, .unset, .unset, .unset] []))
                   refine go _ _ (fun _ k => XS.aload X761.here hx rfl (hb hby at_387) rfl rfl  k) ?_
                   show G (T761.setTop (mkF m 389 #[vI u0, vI u1, vI u2, vI om, vI ol, vI p1, vI nv, vI im, vI ig, vI p2, vI mv, vI kv, vI tg, vR b739, vI qv, vI (mvOf om), vI (mvOf im), vR b748, .unset, .unset, .unset, .unset] [(.ref b748)]))
                   refine own_virtualW go X761 hx hZ e761 hown (wd hw 15 rfl) (wd hw 16 rfl) (notFace_of_selects (args := #[]) (mvT hZ (wd hw 18 rfl))) (wd hw 18 rfl) (wd hw 17 rfl) (wd hw 3 rfl) (wd hw 19 rfl) (by decide) (rm_op4d l Z a0 hw b748 b739 il zu za zm zt po dp kN kN g3 t3 w1 nN h761 n0 Z761 g_b748 g_il f761_0 f761_1 f761_2 f761_3 f761_4 f761_5 f761_6 ne749 n20 n12 hpo hdp f761_7 f761_8 f761_9 f761_10 nut nat nmt (mjOf_z c837 ▸ H1) (by omega) (by have q3 := hn3; rw [perOf_z c837] at q3; omega) (by omega) (by omega) (hnz (by omega))) 0 (by decide) (by decide) (by decide) (by decide) f761_0 (g := (mkF m 389 #[vI u0, vI u1, vI u2, vI om, vI ol, vI p1, vI nv, vI im, vI ig, vI p2, vI mv, vI kv, vI tg, vR b739, vI qv, vI (mvOf om), vI (mvOf im), vR b748, .unset, .unset, .unset, .unset] [(.ref b748)])) rfl (by rw [hml]; rfl) [] [] rfl (lenOf pd_0 rfl) rfl (by show 2 * 0 + _ ≤ _; exact Nat.le_of_eq rfl) (hb hby at_389) rb Y761 ?_
                   intro s kS T847 L847 v847 hZ hown rb Y847 X847 q847
                   have rt := own_rt rb
                   obtain ⟨rfl, N847, K847, po847, dp847, t847, hp847, hdp847, ht847, hu847, Ee847, Fp847, Fi847, Fl847, Fd847, B847⟩ := q847
                   have ns848 : ∀ w ∈ [b748, il], ∃ c : Cell, h761[w]? = some c ∧ c.vm.isStatics = false := (allS (own_exa_ns f761_0) (allS (own_ary_ns f761_6) all0))
                   obtain ⟨lc847, X847h, N847h⟩ := own_hide X847 (Fr.app N761 N847)
                   have Z849 : n0 ≤ T847.heap.size := Nat.le_trans Z761 K847.1
                   show G (T847.setTop (mkF m 392 #[vI u0, vI u1, vI u2, vI om, vI ol, vI p1, vI nv, vI im, vI ig, vI p2, vI mv, vI kv, vI tg, vR b739, vI qv, vI (mvOf om), vI (mvOf im), vR b748, .unset, .unset, .unset, .unset] []))
                   have f850 := (f761_5.keep K847 (ninS ne749 (ninS n12 nin0)))
                   have f851 := (own_sta_keep f761_7 K847 ns848)
                   have f852 := (own_sta_keep f761_8 K847 ns848)
                   have f853 := (own_sta_keep f761_9 K847 ns848)
                   have f854 := (own_sta_keep f761_10 K847 ns848)
                   exact J392 s kS hZ hown rb T847 _ T847.heap (X847h.mono (by decide) (by decide)) rfl N847h  Z849 Y847 _ _ _ hp847 hdp847 (by rw [perOf_z c837]; exact ht847) Ee847 Fp847 Fi847 Fl847 Fd847 f850 B847 f851 f852 f853 f854
                 ·refine go _ _ (fun _ k => XS.ifNo X761.here hx rfl (hb hby at_376) rfl (Free.XT.i0_eq_f c837) k) ?_
                  show G (T761.setTop (mkF m 379 #[vI u0, vI u1, vI u2, vI om, vI ol, vI p1, vI nv, vI im, vI ig, vI p2, vI mv, vI kv, vI tg, vR b739, vI qv, vI (mvOf om), vI (mvOf im), vR b748, .unset, .unset, .unset, .unset] []))
                  by_cases c855 : kN = 0
                  ·obtain rfl : kN = 0 := c855
                   obtain rfl : dp = (0 : Int32) := (own_lit 0 (kk := 0) rfl hdp).mpr rfl
                   show G (T761.setTop (mkF m 379 #[vI u0, vI u1, vI u2, vI om, vI ol, vI p1, vI nv, vI im, vI ig, vI p2, vI mv, vI kv, vI tg, vR b739, vI qv, vI (mvOf om), vI (mvOf im), vR b748, .unset, .unset, .unset, .unset] []))
                   refine go _ _ (fun _ k => XS.aload X761.here hx rfl (hb hby at_379) rfl rfl  k) ?_
                   show G (T761.setTop (mkF m 381 #[vI u0, vI u1, vI u2, vI om, vI ol, vI p1, vI nv, vI im, vI ig, vI p2, vI mv, vI kv, vI tg, vR b739, vI qv, vI (mvOf om), vI (mvOf im), vR b748, .unset, .unset, .unset, .unset] [(.ref b748)]))
                   refine own_virtualW go X761 hx hZ e761 hown (wd hw 76 rfl) (wd hw 77 rfl) (notFace_of_selects (args := #[]) (mvT hZ (wd hw 79 rfl))) (wd hw 79 rfl) (wd hw 78 rfl) (wd hw 3 rfl) (wd hw 80 rfl) (by decide) (rm_op5z l Z a0 hw b748 b739 il zu za zm zt po 0 g3 t3 w1 nN h761 n0 Z761 g_b748 g_il f761_0 f761_1 f761_2 f761_3 f761_4 f761_5 f761_6 ne749 n20 n12 hpo f761_7 f761_8 f761_9 f761_10 nut nat nmt (mjOf_n c837 ▸ H1) (by omega) (by have q3 := hn3; rw [perOf_n c837] at q3; omega)) 0 (by decide) (by decide) (by decide) (by decide) f761_0 (g := (mkF m 381 #[vI u0, vI u1, vI u2, vI om, vI ol, vI p1, vI nv, vI im, vI ig, vI p2, vI mv, vI kv, vI tg, vR b739, vI qv, vI (mvOf om), vI (mvOf im), vR b748, .unset, .unset, .unset, .unset] [(.ref b748)])) rfl (by rw [hml]; rfl) [] [] rfl (lenOf pd_0 rfl) rfl (by show 2 * 0 + _ ≤ _; exact Nat.le_of_eq rfl) (hb hby at_381) rb Y761 ?_
                   intro s kS T856 L856 v856 hZ hown rb Y856 X856 q856
                   have rt := own_rt rb
                   obtain ⟨rfl, N856, K856, po856, dp856, t856, hp856, hdp856, ht856, Ee856, Fp856, Fi856, Fl856, Fd856, B856⟩ := q856
                   have ns857 : ∀ w ∈ [b748, il], ∃ c : Cell, h761[w]? = some c ∧ c.vm.isStatics = false := (allS (own_exa_ns f761_0) (allS (own_ary_ns f761_6) all0))
                   obtain ⟨lc856, X856h, N856h⟩ := own_hide X856 (Fr.app N761 N856)
                   have Z858 : n0 ≤ T856.heap.size := Nat.le_trans Z761 K856.1
                   show G (T856.setTop (mkF m 384 #[vI u0, vI u1, vI u2, vI om, vI ol, vI p1, vI nv, vI im, vI ig, vI p2, vI mv, vI kv, vI tg, vR b739, vI qv, vI (mvOf om), vI (mvOf im), vR b748, .unset, .unset, .unset, .unset] []))
                   refine go _ _ (fun _ k => XS.goto X856h.here hx rfl (pc0 := 384) (pc' := 392) rfl (hb hby at_384) (by decide) (by decide) k) ?_
                   show G (T856.setTop (mkF m 392 #[vI u0, vI u1, vI u2, vI om, vI ol, vI p1, vI nv, vI im, vI ig, vI p2, vI mv, vI kv, vI tg, vR b739, vI qv, vI (mvOf om), vI (mvOf im), vR b748, .unset, .unset, .unset, .unset] []))
                   have f859 := (f761_5.keep K856 (ninS ne749 (ninS n12 nin0)))
                   have f860 := (own_sta_keep f761_7 K856 ns857)
                   have f861 := (own_sta_keep f761_8 K856 ns857)
                   have f862 := (own_sta_keep f761_9 K856 ns857)
                   have f863 := (own_sta_keep f761_10 K856 ns857)
                   exact J392 s kS hZ hown rb T856 _ T856.heap (X856h.mono (by decide) (by decide)) rfl N856h  Z858 Y856 _ _ _ hp856 hdp856 (by rw [perOf_n c837]; exact ht856) Ee856 Fp856 Fi856 Fl856 Fd856 f859 B856 f860 f861 f862 f863
                  ·show G (T761.setTop (mkF m 379 #[vI u0, vI u1, vI u2, vI om, vI ol, vI p1, vI nv, vI im, vI ig, vI p2, vI mv, vI kv, vI tg, vR b739, vI qv, vI (mvOf om), vI (mvOf im), vR b748, .unset, .unset, .unset, .unset] []))
                   refine go _ _ (fun _ k => XS.aload X761.here hx rfl (hb hby at_379) rfl rfl  k) ?_
                   show G (T761.setTop (mkF m 381 #[vI u0, vI u1, vI u2, vI om, vI ol, vI p1, vI nv, vI im, vI ig, vI p2, vI mv, vI kv, vI tg, vR b739, vI qv, vI (mvOf om), vI (mvOf im), vR b748, .unset, .unset, .unset, .unset] [(.ref b748)]))
                   refine own_virtualW go X761 hx hZ e761 hown (wd hw 76 rfl) (wd hw 77 rfl) (notFace_of_selects (args := #[]) (mvT hZ (wd hw 79 rfl))) (wd hw 79 rfl) (wd hw 78 rfl) (wd hw 3 rfl) (wd hw 80 rfl) (by decide) (rm_op5d l Z a0 hw b748 b739 il zu za zm zt po dp kN kN g3 t3 w1 nN h761 n0 Z761 g_b748 g_il f761_0 f761_1 f761_2 f761_3 f761_4 f761_5 f761_6 ne749 n20 n12 hpo hdp f761_7 f761_8 f761_9 f761_10 nut nat nmt (mjOf_n c837 ▸ H1) (by omega) (by have q3 := hn3; rw [perOf_n c837] at q3; omega) (by omega) (by omega) (hnz (by omega))) 0 (by decide) (by decide) (by decide) (by decide) f761_0 (g := (mkF m 381 #[vI u0, vI u1, vI u2, vI om, vI ol, vI p1, vI nv, vI im, vI ig, vI p2, vI mv, vI kv, vI tg, vR b739, vI qv, vI (mvOf om), vI (mvOf im), vR b748, .unset, .unset, .unset, .unset] [(.ref b748)])) rfl (by rw [hml]; rfl) [] [] rfl (lenOf pd_0 rfl) rfl (by show 2 * 0 + _ ≤ _; exact Nat.le_of_eq rfl) (hb hby at_381) rb Y761 ?_
                   intro s kS T864 L864 v864 hZ hown rb Y864 X864 q864
                   have rt := own_rt rb
                   obtain ⟨rfl, N864, K864, po864, dp864, t864, hp864, hdp864, ht864, hu864, Ee864, Fp864, Fi864, Fl864, Fd864, B864⟩ := q864
                   have ns865 : ∀ w ∈ [b748, il], ∃ c : Cell, h761[w]? = some c ∧ c.vm.isStatics = false := (allS (own_exa_ns f761_0) (allS (own_ary_ns f761_6) all0))
                   obtain ⟨lc864, X864h, N864h⟩ := own_hide X864 (Fr.app N761 N864)
                   have Z866 : n0 ≤ T864.heap.size := Nat.le_trans Z761 K864.1
                   show G (T864.setTop (mkF m 384 #[vI u0, vI u1, vI u2, vI om, vI ol, vI p1, vI nv, vI im, vI ig, vI p2, vI mv, vI kv, vI tg, vR b739, vI qv, vI (mvOf om), vI (mvOf im), vR b748, .unset, .unset, .unset, .unset] []))
                   refine go _ _ (fun _ k => XS.goto X864h.here hx rfl (pc0 := 384) (pc' := 392) rfl (hb hby at_384) (by decide) (by decide) k) ?_
                   show G (T864.setTop (mkF m 392 #[vI u0, vI u1, vI u2, vI om, vI ol, vI p1, vI nv, vI im, vI ig, vI p2, vI mv, vI kv, vI tg, vR b739, vI qv, vI (mvOf om), vI (mvOf im), vR b748, .unset, .unset, .unset, .unset] []))
                   have f867 := (f761_5.keep K864 (ninS ne749 (ninS n12 nin0)))
                   have f868 := (own_sta_keep f761_7 K864 ns865)
                   have f869 := (own_sta_keep f761_8 K864 ns865)
                   have f870 := (own_sta_keep f761_9 K864 ns865)
                   have f871 := (own_sta_keep f761_10 K864 ns865)
                   exact J392 s kS hZ hown rb T864 _ T864.heap (X864h.mono (by decide) (by decide)) rfl N864h  Z866 Y864 _ _ _ hp864 hdp864 (by rw [perOf_n c837]; exact ht864) Ee864 Fp864 Fi864 Fl864 Fd864 f867 B864 f868 f869 f870 f871
                rcases hk4 with rfl | rfl | rfl | rfl
                ·obtain rfl : kN = 0 := by have e : (0 : Int32).toInt = 0 := rfl; omega
                 show G (T757.setTop (mkF m 342 #[vI u0, vI u1, vI u2, vI om, vI ol, vI p1, vI nv, vI im, vI ig, vI p2, vI mv, vI 0, vI tg, vR b739, vI qv, vI (mvOf om), vI (mvOf im), vR b748, .unset, .unset, .unset, .unset] []))
                 refine go _ _ (fun _ k => XS.iload X757h.here hx rfl (hb hby at_342) rfl  k) ?_
                 show G (T757.setTop (mkF m 344 #[vI u0, vI u1, vI u2, vI om, vI ol, vI p1, vI nv, vI im, vI ig, vI p2, vI mv, vI 0, vI tg, vR b739, vI qv, vI (mvOf om), vI (mvOf im), vR b748, .unset, .unset, .unset, .unset] [(.int (0 : Int32))]))
                 refine go _ _ (fun _ k => XS.iconst X757h.here hx rfl (hb hby at_344) k) ?_
                 show G (T757.setTop (mkF m 345 #[vI u0, vI u1, vI u2, vI om, vI ol, vI p1, vI nv, vI im, vI ig, vI p2, vI mv, vI 0, vI tg, vR b739, vI qv, vI (mvOf om), vI (mvOf im), vR b748, .unset, .unset, .unset, .unset] [(.int (1 : Int32)), (.int (0 : Int32))]))
                 refine go _ _ (fun _ k => XS.icmpYes X757h.here hx rfl (pc0 := 345) (pc' := 353) rfl (hb hby at_345) rfl (Free.XT.ii_lt_t (by decide)) (by decide) (by decide) k) ?_
                 show G (T757.setTop (mkF m 353 #[vI u0, vI u1, vI u2, vI om, vI ol, vI p1, vI nv, vI im, vI ig, vI p2, vI mv, vI 0, vI tg, vR b739, vI qv, vI (mvOf om), vI (mvOf im), vR b748, .unset, .unset, .unset, .unset] []))
                 refine go _ _ (fun _ k => XS.iload X757h.here hx rfl (hb hby at_353) rfl  k) ?_
                 show G (T757.setTop (mkF m 355 #[vI u0, vI u1, vI u2, vI om, vI ol, vI p1, vI nv, vI im, vI ig, vI p2, vI mv, vI 0, vI tg, vR b739, vI qv, vI (mvOf om), vI (mvOf im), vR b748, .unset, .unset, .unset, .unset] [(.int (0 : Int32))]))
                 refine go _ _ (fun _ k => XS.iconst X757h.here hx rfl (hb hby at_355) k) ?_
                 show G (T757.setTop (mkF m 356 #[vI u0, vI u1, vI u2, vI om, vI ol, vI p1, vI nv, vI im, vI ig, vI p2, vI mv, vI 0, vI tg, vR b739, vI qv, vI (mvOf om), vI (mvOf im), vR b748, .unset, .unset, .unset, .unset] [(.int (2 : Int32)), (.int (0 : Int32))]))
                 refine go _ _ (fun _ k => XS.icmpYes X757h.here hx rfl (pc0 := 356) (pc' := 364) rfl (hb hby at_356) rfl (Free.XT.ii_lt_t (by decide)) (by decide) (by decide) k) ?_
                 show G (T757.setTop (mkF m 364 #[vI u0, vI u1, vI u2, vI om, vI ol, vI p1, vI nv, vI im, vI ig, vI p2, vI mv, vI 0, vI tg, vR b739, vI qv, vI (mvOf om), vI (mvOf im), vR b748, .unset, .unset, .unset, .unset] []))
                 refine go _ _ (fun _ k => XS.iload X757h.here hx rfl (hb hby at_364) rfl  k) ?_
                 show G (T757.setTop (mkF m 366 #[vI u0, vI u1, vI u2, vI om, vI ol, vI p1, vI nv, vI im, vI ig, vI p2, vI mv, vI 0, vI tg, vR b739, vI qv, vI (mvOf om), vI (mvOf im), vR b748, .unset, .unset, .unset, .unset] [(.int (0 : Int32))]))
                 refine go _ _ (fun _ k => XS.iconst X757h.here hx rfl (hb hby at_366) k) ?_
                 show G (T757.setTop (mkF m 367 #[vI u0, vI u1, vI u2, vI om, vI ol, vI p1, vI nv, vI im, vI ig, vI p2, vI mv, vI 0, vI tg, vR b739, vI qv, vI (mvOf om), vI (mvOf im), vR b748, .unset, .unset, .unset, .unset] [(.int (3 : Int32)), (.int (0 : Int32))]))
                 refine go _ _ (fun _ k => XS.icmpYes X757h.here hx rfl (pc0 := 367) (pc' := 375) rfl (hb hby at_367) rfl (Free.XT.ii_lt_t (by decide)) (by decide) (by decide) k) ?_
                 show G (T757.setTop (mkF m 375 #[vI u0, vI u1, vI u2, vI om, vI ol, vI p1, vI nv, vI im, vI ig, vI p2, vI mv, vI 0, vI tg, vR b739, vI qv, vI (mvOf om), vI (mvOf im), vR b748, .unset, .unset, .unset, .unset] []))
                 have f872 := (A748.keep K757)
                 have f873 := (f756.keep K757 (ninS ne749 nin0))
                 have f874 := (own_sta_keep (f747_1.ext E748) K757 ns758)
                 have f875 := (own_sta_keep (f747_2.ext E748) K757 ns758)
                 have f876 := (own_sta_keep (f747_3.ext E748) K757 ns758)
                 have f877 := (own_sta_keep (f747_4.ext E748) K757 ns758)
                 exact J375 s kS hZ hown rb T757 _ T757.heap (X757h.mono (by decide) (by decide)) rfl N757h  Z759 Y760 _ _ _ rfl rfl (fun q => absurd q (by decide)) f872 Fp757 Fi757 Fl757 Fd757 f873 B757 f874 f875 f876 f877
                ·obtain rfl : kN = 1 := by have e : (1 : Int32).toInt = 1 := rfl; omega
                 show G (T757.setTop (mkF m 342 #[vI u0, vI u1, vI u2, vI om, vI ol, vI p1, vI nv, vI im, vI ig, vI p2, vI mv, vI 1, vI tg, vR b739, vI qv, vI (mvOf om), vI (mvOf im), vR b748, .unset, .unset, .unset, .unset] []))
                 refine go _ _ (fun _ k => XS.iload X757h.here hx rfl (hb hby at_342) rfl  k) ?_
                 show G (T757.setTop (mkF m 344 #[vI u0, vI u1, vI u2, vI om, vI ol, vI p1, vI nv, vI im, vI ig, vI p2, vI mv, vI 1, vI tg, vR b739, vI qv, vI (mvOf om), vI (mvOf im), vR b748, .unset, .unset, .unset, .unset] [(.int (1 : Int32))]))
                 refine go _ _ (fun _ k => XS.iconst X757h.here hx rfl (hb hby at_344) k) ?_
                 show G (T757.setTop (mkF m 345 #[vI u0, vI u1, vI u2, vI om, vI ol, vI p1, vI nv, vI im, vI ig, vI p2, vI mv, vI 1, vI tg, vR b739, vI qv, vI (mvOf om), vI (mvOf im), vR b748, .unset, .unset, .unset, .unset] [(.int (1 : Int32)), (.int (1 : Int32))]))
                 refine go _ _ (fun _ k => XS.icmpNo X757h.here hx rfl (hb hby at_345) rfl (Free.XT.ii_lt_f (by decide)) k) ?_
                 show G (T757.setTop (mkF m 348 #[vI u0, vI u1, vI u2, vI om, vI ol, vI p1, vI nv, vI im, vI ig, vI p2, vI mv, vI 1, vI tg, vR b739, vI qv, vI (mvOf om), vI (mvOf im), vR b748, .unset, .unset, .unset, .unset] []))
                 refine go _ _ (fun _ k => XS.aload X757h.here hx rfl (hb hby at_348) rfl rfl  k) ?_
                 show G (T757.setTop (mkF m 350 #[vI u0, vI u1, vI u2, vI om, vI ol, vI p1, vI nv, vI im, vI ig, vI p2, vI mv, vI 1, vI tg, vR b739, vI qv, vI (mvOf om), vI (mvOf im), vR b748, .unset, .unset, .unset, .unset] [(.ref b748)]))
                 have f878 := (A748.keep K757)
                 have f879 := (f756.keep K757 (ninS ne749 nin0))
                 have f880 := (own_sta_keep (f747_1.ext E748) K757 ns758)
                 have f881 := (own_sta_keep (f747_2.ext E748) K757 ns758)
                 have f882 := (own_sta_keep (f747_3.ext E748) K757 ns758)
                 have f883 := (own_sta_keep (f747_4.ext E748) K757 ns758)
                 refine own_virtualW go X757h hx hZ rfl hown (wd hw 15 rfl) (wd hw 16 rfl) (notFace_of_selects (args := #[]) (mvT hZ (wd hw 18 rfl))) (wd hw 18 rfl) (wd hw 17 rfl) (wd hw 3 rfl) (wd hw 19 rfl) (by decide) (rm_op4z l Z a0 hw b748 b739 il zu za zm zt (0 : Int32) 0 g3 (fun _ => (0 : Int32)) 1 1 T757.heap n0 Z759 g_b748 g_il f878 Fp757 Fi757 Fl757 Fd757 f879 B757 ne749 n20 n12 rfl f880 f881 f882 f883 nut nat nmt (hV 0 (by decide)) (by omega) (by decide)) 0 (by decide) (by decide) (by decide) (by decide) f878 (g := (mkF m 350 #[vI u0, vI u1, vI u2, vI om, vI ol, vI p1, vI nv, vI im, vI ig, vI p2, vI mv, vI 1, vI tg, vR b739, vI qv, vI (mvOf om), vI (mvOf im), vR b748, .unset, .unset, .unset, .unset] [(.ref b748)])) rfl (by rw [hml]; rfl) [] [] rfl (lenOf pd_0 rfl) rfl (by show 2 * 0 + _ ≤ _; exact Nat.le_of_eq rfl) (hb hby at_350) rb Y760 ?_
                 intro s kS T884 L884 v884 hZ hown rb Y884 X884 q884
                 have rt := own_rt rb
                 obtain ⟨rfl, N884, K884, po884, dp884, t884, hp884, hdp884, ht884, Ee884, Fp884, Fi884, Fl884, Fd884, B884⟩ := q884
                 have ns885 : ∀ w ∈ [b748, il], ∃ c : Cell, T757.heap[w]? = some c ∧ c.vm.isStatics = false := (allS (own_exa_ns f878) (allS (own_ary_ns B757) all0))
                 obtain ⟨lc884, X884h, N884h⟩ := own_hide X884 (Fr.app N757h N884)
                 have Z886 : n0 ≤ T884.heap.size := Nat.le_trans Z759 K884.1
                 show G (T884.setTop (mkF m 353 #[vI u0, vI u1, vI u2, vI om, vI ol, vI p1, vI nv, vI im, vI ig, vI p2, vI mv, vI 1, vI tg, vR b739, vI qv, vI (mvOf om), vI (mvOf im), vR b748, .unset, .unset, .unset, .unset] []))
                 refine go _ _ (fun _ k => XS.iload X884h.here hx rfl (hb hby at_353) rfl  k) ?_
                 show G (T884.setTop (mkF m 355 #[vI u0, vI u1, vI u2, vI om, vI ol, vI p1, vI nv, vI im, vI ig, vI p2, vI mv, vI 1, vI tg, vR b739, vI qv, vI (mvOf om), vI (mvOf im), vR b748, .unset, .unset, .unset, .unset] [(.int (1 : Int32))]))
                 refine go _ _ (fun _ k => XS.iconst X884h.here hx rfl (hb hby at_355) k) ?_
                 show G (T884.setTop (mkF m 356 #[vI u0, vI u1, vI u2, vI om, vI ol, vI p1, vI nv, vI im, vI ig, vI p2, vI mv, vI 1, vI tg, vR b739, vI qv, vI (mvOf om), vI (mvOf im), vR b748, .unset, .unset, .unset, .unset] [(.int (2 : Int32)), (.int (1 : Int32))]))
                 refine go _ _ (fun _ k => XS.icmpYes X884h.here hx rfl (pc0 := 356) (pc' := 364) rfl (hb hby at_356) rfl (Free.XT.ii_lt_t (by decide)) (by decide) (by decide) k) ?_
                 show G (T884.setTop (mkF m 364 #[vI u0, vI u1, vI u2, vI om, vI ol, vI p1, vI nv, vI im, vI ig, vI p2, vI mv, vI 1, vI tg, vR b739, vI qv, vI (mvOf om), vI (mvOf im), vR b748, .unset, .unset, .unset, .unset] []))
                 refine go _ _ (fun _ k => XS.iload X884h.here hx rfl (hb hby at_364) rfl  k) ?_
                 show G (T884.setTop (mkF m 366 #[vI u0, vI u1, vI u2, vI om, vI ol, vI p1, vI nv, vI im, vI ig, vI p2, vI mv, vI 1, vI tg, vR b739, vI qv, vI (mvOf om), vI (mvOf im), vR b748, .unset, .unset, .unset, .unset] [(.int (1 : Int32))]))
                 refine go _ _ (fun _ k => XS.iconst X884h.here hx rfl (hb hby at_366) k) ?_
                 show G (T884.setTop (mkF m 367 #[vI u0, vI u1, vI u2, vI om, vI ol, vI p1, vI nv, vI im, vI ig, vI p2, vI mv, vI 1, vI tg, vR b739, vI qv, vI (mvOf om), vI (mvOf im), vR b748, .unset, .unset, .unset, .unset] [(.int (3 : Int32)), (.int (1 : Int32))]))
                 refine go _ _ (fun _ k => XS.icmpYes X884h.here hx rfl (pc0 := 367) (pc' := 375) rfl (hb hby at_367) rfl (Free.XT.ii_lt_t (by decide)) (by decide) (by decide) k) ?_
                 show G (T884.setTop (mkF m 375 #[vI u0, vI u1, vI u2, vI om, vI ol, vI p1, vI nv, vI im, vI ig, vI p2, vI mv, vI 1, vI tg, vR b739, vI qv, vI (mvOf om), vI (mvOf im), vR b748, .unset, .unset, .unset, .unset] []))
                 have f887 := (f879.keep K884 (ninS ne749 (ninS n12 nin0)))
                 have f888 := (own_sta_keep f880 K884 ns885)
                 have f889 := (own_sta_keep f881 K884 ns885)
                 have f890 := (own_sta_keep f882 K884 ns885)
                 have f891 := (own_sta_keep f883 K884 ns885)
                 exact J375 s kS hZ hown rb T884 _ T884.heap (X884h.mono (by decide) (by decide)) rfl N884h  Z886 Y884 _ _ _ hp884 hdp884 (fun q => (fun z => own_ofnz (n := 1) (by decide) (by decide) (ht884.symm.trans z))) Ee884 Fp884 Fi884 Fl884 Fd884 f887 B884 f888 f889 f890 f891
                ·obtain rfl : kN = 2 := by have e : (2 : Int32).toInt = 2 := rfl; omega
                 show G (T757.setTop (mkF m 342 #[vI u0, vI u1, vI u2, vI om, vI ol, vI p1, vI nv, vI im, vI ig, vI p2, vI mv, vI 2, vI tg, vR b739, vI qv, vI (mvOf om), vI (mvOf im), vR b748, .unset, .unset, .unset, .unset] []))
                 refine go _ _ (fun _ k => XS.iload X757h.here hx rfl (hb hby at_342) rfl  k) ?_
                 show G (T757.setTop (mkF m 344 #[vI u0, vI u1, vI u2, vI om, vI ol, vI p1, vI nv, vI im, vI ig, vI p2, vI mv, vI 2, vI tg, vR b739, vI qv, vI (mvOf om), vI (mvOf im), vR b748, .unset, .unset, .unset, .unset] [(.int (2 : Int32))]))
                 refine go _ _ (fun _ k => XS.iconst X757h.here hx rfl (hb hby at_344) k) ?_
                 show G (T757.setTop (mkF m 345 #[vI u0, vI u1, vI u2, vI om, vI ol, vI p1, vI nv, vI im, vI ig, vI p2, vI mv, vI 2, vI tg, vR b739, vI qv, vI (mvOf om), vI (mvOf im), vR b748, .unset, .unset, .unset, .unset] [(.int (1 : Int32)), (.int (2 : Int32))]))
                 refine go _ _ (fun _ k => XS.icmpNo X757h.here hx rfl (hb hby at_345) rfl (Free.XT.ii_lt_f (by decide)) k) ?_
                 show G (T757.setTop (mkF m 348 #[vI u0, vI u1, vI u2, vI om, vI ol, vI p1, vI nv, vI im, vI ig, vI p2, vI mv, vI 2, vI tg, vR b739, vI qv, vI (mvOf om), vI (mvOf im), vR b748, .unset, .unset, .unset, .unset] []))
                 refine go _ _ (fun _ k => XS.aload X757h.here hx rfl (hb hby at_348) rfl rfl  k) ?_
                 show G (T757.setTop (mkF m 350 #[vI u0, vI u1, vI u2, vI om, vI ol, vI p1, vI nv, vI im, vI ig, vI p2, vI mv, vI 2, vI tg, vR b739, vI qv, vI (mvOf om), vI (mvOf im), vR b748, .unset, .unset, .unset, .unset] [(.ref b748)]))
                 have f892 := (A748.keep K757)
                 have f893 := (f756.keep K757 (ninS ne749 nin0))
                 have f894 := (own_sta_keep (f747_1.ext E748) K757 ns758)
                 have f895 := (own_sta_keep (f747_2.ext E748) K757 ns758)
                 have f896 := (own_sta_keep (f747_3.ext E748) K757 ns758)
                 have f897 := (own_sta_keep (f747_4.ext E748) K757 ns758)
                 refine own_virtualW go X757h hx hZ rfl hown (wd hw 15 rfl) (wd hw 16 rfl) (notFace_of_selects (args := #[]) (mvT hZ (wd hw 18 rfl))) (wd hw 18 rfl) (wd hw 17 rfl) (wd hw 3 rfl) (wd hw 19 rfl) (by decide) (rm_op4z l Z a0 hw b748 b739 il zu za zm zt (0 : Int32) 0 g3 (fun _ => (0 : Int32)) 1 1 T757.heap n0 Z759 g_b748 g_il f892 Fp757 Fi757 Fl757 Fd757 f893 B757 ne749 n20 n12 rfl f894 f895 f896 f897 nut nat nmt (hV 0 (by decide)) (by omega) (by decide)) 0 (by decide) (by decide) (by decide) (by decide) f892 (g := (mkF m 350 #[vI u0, vI u1, vI u2, vI om, vI ol, vI p1, vI nv, vI im, vI ig, vI p2, vI mv, vI 2, vI tg, vR b739, vI qv, vI (mvOf om), vI (mvOf im), vR b748, .unset, .unset, .unset, .unset] [(.ref b748)])) rfl (by rw [hml]; rfl) [] [] rfl (lenOf pd_0 rfl) rfl (by show 2 * 0 + _ ≤ _; exact Nat.le_of_eq rfl) (hb hby at_350) rb Y760 ?_
                 intro s kS T898 L898 v898 hZ hown rb Y898 X898 q898
                 have rt := own_rt rb
                 obtain ⟨rfl, N898, K898, po898, dp898, t898, hp898, hdp898, ht898, Ee898, Fp898, Fi898, Fl898, Fd898, B898⟩ := q898
                 have ns899 : ∀ w ∈ [b748, il], ∃ c : Cell, T757.heap[w]? = some c ∧ c.vm.isStatics = false := (allS (own_exa_ns f892) (allS (own_ary_ns B757) all0))
                 obtain ⟨lc898, X898h, N898h⟩ := own_hide X898 (Fr.app N757h N898)
                 have Z900 : n0 ≤ T898.heap.size := Nat.le_trans Z759 K898.1
                 show G (T898.setTop (mkF m 353 #[vI u0, vI u1, vI u2, vI om, vI ol, vI p1, vI nv, vI im, vI ig, vI p2, vI mv, vI 2, vI tg, vR b739, vI qv, vI (mvOf om), vI (mvOf im), vR b748, .unset, .unset, .unset, .unset] []))
                 refine go _ _ (fun _ k => XS.iload X898h.here hx rfl (hb hby at_353) rfl  k) ?_
                 show G (T898.setTop (mkF m 355 #[vI u0, vI u1, vI u2, vI om, vI ol, vI p1, vI nv, vI im, vI ig, vI p2, vI mv, vI 2, vI tg, vR b739, vI qv, vI (mvOf om), vI (mvOf im), vR b748, .unset, .unset, .unset, .unset] [(.int (2 : Int32))]))
                 refine go _ _ (fun _ k => XS.iconst X898h.here hx rfl (hb hby at_355) k) ?_
                 show G (T898.setTop (mkF m 356 #[vI u0, vI u1, vI u2, vI om, vI ol, vI p1, vI nv, vI im, vI ig, vI p2, vI mv, vI 2, vI tg, vR b739, vI qv, vI (mvOf om), vI (mvOf im), vR b748, .unset, .unset, .unset, .unset] [(.int (2 : Int32)), (.int (2 : Int32))]))
                 refine go _ _ (fun _ k => XS.icmpNo X898h.here hx rfl (hb hby at_356) rfl (Free.XT.ii_lt_f (by decide)) k) ?_
                 show G (T898.setTop (mkF m 359 #[vI u0, vI u1, vI u2, vI om, vI ol, vI p1, vI nv, vI im, vI ig, vI p2, vI mv, vI 2, vI tg, vR b739, vI qv, vI (mvOf om), vI (mvOf im), vR b748, .unset, .unset, .unset, .unset] []))
                 refine go _ _ (fun _ k => XS.aload X898h.here hx rfl (hb hby at_359) rfl rfl  k) ?_
                 show G (T898.setTop (mkF m 361 #[vI u0, vI u1, vI u2, vI om, vI ol, vI p1, vI nv, vI im, vI ig, vI p2, vI mv, vI 2, vI tg, vR b739, vI qv, vI (mvOf om), vI (mvOf im), vR b748, .unset, .unset, .unset, .unset] [(.ref b748)]))
                 have f901 := (f893.keep K898 (ninS ne749 (ninS n12 nin0)))
                 have f902 := (own_sta_keep f894 K898 ns899)
                 have f903 := (own_sta_keep f895 K898 ns899)
                 have f904 := (own_sta_keep f896 K898 ns899)
                 have f905 := (own_sta_keep f897 K898 ns899)
                 refine own_virtualW go X898h hx hZ rfl hown (wd hw 15 rfl) (wd hw 16 rfl) (notFace_of_selects (args := #[]) (mvT hZ (wd hw 18 rfl))) (wd hw 18 rfl) (wd hw 17 rfl) (wd hw 3 rfl) (wd hw 19 rfl) (by decide) (rm_op4d l Z a0 hw b748 b739 il zu za zm zt po898 dp898 1 1 g3 t898 1 1 T898.heap n0 Z900 g_b748 g_il Ee898 Fp898 Fi898 Fl898 Fd898 f901 B898 ne749 n20 n12 hp898 hdp898 f902 f903 f904 f905 nut nat nmt (hV 1 (by decide)) (by omega) (by decide) (by omega) (by omega) (fun z => own_ofnz (n := 1) (by decide) (by decide) (ht898.symm.trans z))) 0 (by decide) (by decide) (by decide) (by decide) Ee898 (g := (mkF m 361 #[vI u0, vI u1, vI u2, vI om, vI ol, vI p1, vI nv, vI im, vI ig, vI p2, vI mv, vI 2, vI tg, vR b739, vI qv, vI (mvOf om), vI (mvOf im), vR b748, .unset, .unset, .unset, .unset] [(.ref b748)])) rfl (by rw [hml]; rfl) [] [] rfl (lenOf pd_0 rfl) rfl (by show 2 * 0 + _ ≤ _; exact Nat.le_of_eq rfl) (hb hby at_361) rb Y898 ?_
                 intro s kS T906 L906 v906 hZ hown rb Y906 X906 q906
                 have rt := own_rt rb
                 obtain ⟨rfl, N906, K906, po906, dp906, t906, hp906, hdp906, ht906, hu906, Ee906, Fp906, Fi906, Fl906, Fd906, B906⟩ := q906
                 have ns907 : ∀ w ∈ [b748, il], ∃ c : Cell, T898.heap[w]? = some c ∧ c.vm.isStatics = false := (allS (own_exa_ns Ee898) (allS (own_ary_ns B898) all0))
                 obtain ⟨lc906, X906h, N906h⟩ := own_hide X906 (Fr.app N898h N906)
                 have Z908 : n0 ≤ T906.heap.size := Nat.le_trans Z900 K906.1
                 show G (T906.setTop (mkF m 364 #[vI u0, vI u1, vI u2, vI om, vI ol, vI p1, vI nv, vI im, vI ig, vI p2, vI mv, vI 2, vI tg, vR b739, vI qv, vI (mvOf om), vI (mvOf im), vR b748, .unset, .unset, .unset, .unset] []))
                 refine go _ _ (fun _ k => XS.iload X906h.here hx rfl (hb hby at_364) rfl  k) ?_
                 show G (T906.setTop (mkF m 366 #[vI u0, vI u1, vI u2, vI om, vI ol, vI p1, vI nv, vI im, vI ig, vI p2, vI mv, vI 2, vI tg, vR b739, vI qv, vI (mvOf om), vI (mvOf im), vR b748, .unset, .unset, .unset, .unset] [(.int (2 : Int32))]))
                 refine go _ _ (fun _ k => XS.iconst X906h.here hx rfl (hb hby at_366) k) ?_
                 show G (T906.setTop (mkF m 367 #[vI u0, vI u1, vI u2, vI om, vI ol, vI p1, vI nv, vI im, vI ig, vI p2, vI mv, vI 2, vI tg, vR b739, vI qv, vI (mvOf om), vI (mvOf im), vR b748, .unset, .unset, .unset, .unset] [(.int (3 : Int32)), (.int (2 : Int32))]))
                 refine go _ _ (fun _ k => XS.icmpYes X906h.here hx rfl (pc0 := 367) (pc' := 375) rfl (hb hby at_367) rfl (Free.XT.ii_lt_t (by decide)) (by decide) (by decide) k) ?_
                 show G (T906.setTop (mkF m 375 #[vI u0, vI u1, vI u2, vI om, vI ol, vI p1, vI nv, vI im, vI ig, vI p2, vI mv, vI 2, vI tg, vR b739, vI qv, vI (mvOf om), vI (mvOf im), vR b748, .unset, .unset, .unset, .unset] []))
                 have f909 := (f901.keep K906 (ninS ne749 (ninS n12 nin0)))
                 have f910 := (own_sta_keep f902 K906 ns907)
                 have f911 := (own_sta_keep f903 K906 ns907)
                 have f912 := (own_sta_keep f904 K906 ns907)
                 have f913 := (own_sta_keep f905 K906 ns907)
                 exact J375 s kS hZ hown rb T906 _ T906.heap (X906h.mono (by decide) (by decide)) rfl N906h  Z908 Y906 _ _ _ hp906 hdp906 (fun q => (fun z => own_ofnz (n := 1) (by decide) (by decide) (ht906.symm.trans z))) Ee906 Fp906 Fi906 Fl906 Fd906 f909 B906 f910 f911 f912 f913
                ·obtain rfl : kN = 3 := by have e : (3 : Int32).toInt = 3 := rfl; omega
                 show G (T757.setTop (mkF m 342 #[vI u0, vI u1, vI u2, vI om, vI ol, vI p1, vI nv, vI im, vI ig, vI p2, vI mv, vI 3, vI tg, vR b739, vI qv, vI (mvOf om), vI (mvOf im), vR b748, .unset, .unset, .unset, .unset] []))
                 refine go _ _ (fun _ k => XS.iload X757h.here hx rfl (hb hby at_342) rfl  k) ?_
                 show G (T757.setTop (mkF m 344 #[vI u0, vI u1, vI u2, vI om, vI ol, vI p1, vI nv, vI im, vI ig, vI p2, vI mv, vI 3, vI tg, vR b739, vI qv, vI (mvOf om), vI (mvOf im), vR b748, .unset, .unset, .unset, .unset] [(.int (3 : Int32))]))
                 refine go _ _ (fun _ k => XS.iconst X757h.here hx rfl (hb hby at_344) k) ?_
                 show G (T757.setTop (mkF m 345 #[vI u0, vI u1, vI u2, vI om, vI ol, vI p1, vI nv, vI im, vI ig, vI p2, vI mv, vI 3, vI tg, vR b739, vI qv, vI (mvOf om), vI (mvOf im), vR b748, .unset, .unset, .unset, .unset] [(.int (1 : Int32)), (.int (3 : Int32))]))
                 refine go _ _ (fun _ k => XS.icmpNo X757h.here hx rfl (hb hby at_345) rfl (Free.XT.ii_lt_f (by decide)) k) ?_
                 show G (T757.setTop (mkF m 348 #[vI u0, vI u1, vI u2, vI om, vI ol, vI p1, vI nv, vI im, vI ig, vI p2, vI mv, vI 3, vI tg, vR b739, vI qv, vI (mvOf om), vI (mvOf im), vR b748, .unset, .unset, .unset, .unset] []))
                 refine go _ _ (fun _ k => XS.aload X757h.here hx rfl (hb hby at_348) rfl rfl  k) ?_
                 show G (T757.setTop (mkF m 350 #[vI u0, vI u1, vI u2, vI om, vI ol, vI p1, vI nv, vI im, vI ig, vI p2, vI mv, vI 3, vI tg, vR b739, vI qv, vI (mvOf om), vI (mvOf im), vR b748, .unset, .unset, .unset, .unset] [(.ref b748)]))
                 have f914 := (A748.keep K757)
                 have f915 := (f756.keep K757 (ninS ne749 nin0))
                 have f916 := (own_sta_keep (f747_1.ext E748) K757 ns758)
                 have f917 := (own_sta_keep (f747_2.ext E748) K757 ns758)
                 have f918 := (own_sta_keep (f747_3.ext E748) K757 ns758)
                 have f919 := (own_sta_keep (f747_4.ext E748) K757 ns758)
                 refine own_virtualW go X757h hx hZ rfl hown (wd hw 15 rfl) (wd hw 16 rfl) (notFace_of_selects (args := #[]) (mvT hZ (wd hw 18 rfl))) (wd hw 18 rfl) (wd hw 17 rfl) (wd hw 3 rfl) (wd hw 19 rfl) (by decide) (rm_op4z l Z a0 hw b748 b739 il zu za zm zt (0 : Int32) 0 g3 (fun _ => (0 : Int32)) 1 1 T757.heap n0 Z759 g_b748 g_il f914 Fp757 Fi757 Fl757 Fd757 f915 B757 ne749 n20 n12 rfl f916 f917 f918 f919 nut nat nmt (hV 0 (by decide)) (by omega) (by decide)) 0 (by decide) (by decide) (by decide) (by decide) f914 (g := (mkF m 350 #[vI u0, vI u1, vI u2, vI om, vI ol, vI p1, vI nv, vI im, vI ig, vI p2, vI mv, vI 3, vI tg, vR b739, vI qv, vI (mvOf om), vI (mvOf im), vR b748, .unset, .unset, .unset, .unset] [(.ref b748)])) rfl (by rw [hml]; rfl) [] [] rfl (lenOf pd_0 rfl) rfl (by show 2 * 0 + _ ≤ _; exact Nat.le_of_eq rfl) (hb hby at_350) rb Y760 ?_
                 intro s kS T920 L920 v920 hZ hown rb Y920 X920 q920
                 have rt := own_rt rb
                 obtain ⟨rfl, N920, K920, po920, dp920, t920, hp920, hdp920, ht920, Ee920, Fp920, Fi920, Fl920, Fd920, B920⟩ := q920
                 have ns921 : ∀ w ∈ [b748, il], ∃ c : Cell, T757.heap[w]? = some c ∧ c.vm.isStatics = false := (allS (own_exa_ns f914) (allS (own_ary_ns B757) all0))
                 obtain ⟨lc920, X920h, N920h⟩ := own_hide X920 (Fr.app N757h N920)
                 have Z922 : n0 ≤ T920.heap.size := Nat.le_trans Z759 K920.1
                 show G (T920.setTop (mkF m 353 #[vI u0, vI u1, vI u2, vI om, vI ol, vI p1, vI nv, vI im, vI ig, vI p2, vI mv, vI 3, vI tg, vR b739, vI qv, vI (mvOf om), vI (mvOf im), vR b748, .unset, .unset, .unset, .unset] []))
                 refine go _ _ (fun _ k => XS.iload X920h.here hx rfl (hb hby at_353) rfl  k) ?_
                 show G (T920.setTop (mkF m 355 #[vI u0, vI u1, vI u2, vI om, vI ol, vI p1, vI nv, vI im, vI ig, vI p2, vI mv, vI 3, vI tg, vR b739, vI qv, vI (mvOf om), vI (mvOf im), vR b748, .unset, .unset, .unset, .unset] [(.int (3 : Int32))]))
                 refine go _ _ (fun _ k => XS.iconst X920h.here hx rfl (hb hby at_355) k) ?_
                 show G (T920.setTop (mkF m 356 #[vI u0, vI u1, vI u2, vI om, vI ol, vI p1, vI nv, vI im, vI ig, vI p2, vI mv, vI 3, vI tg, vR b739, vI qv, vI (mvOf om), vI (mvOf im), vR b748, .unset, .unset, .unset, .unset] [(.int (2 : Int32)), (.int (3 : Int32))]))
                 refine go _ _ (fun _ k => XS.icmpNo X920h.here hx rfl (hb hby at_356) rfl (Free.XT.ii_lt_f (by decide)) k) ?_
                 show G (T920.setTop (mkF m 359 #[vI u0, vI u1, vI u2, vI om, vI ol, vI p1, vI nv, vI im, vI ig, vI p2, vI mv, vI 3, vI tg, vR b739, vI qv, vI (mvOf om), vI (mvOf im), vR b748, .unset, .unset, .unset, .unset] []))
                 refine go _ _ (fun _ k => XS.aload X920h.here hx rfl (hb hby at_359) rfl rfl  k) ?_
                 show G (T920.setTop (mkF m 361 #[vI u0, vI u1, vI u2, vI om, vI ol, vI p1, vI nv, vI im, vI ig, vI p2, vI mv, vI 3, vI tg, vR b739, vI qv, vI (mvOf om), vI (mvOf im), vR b748, .unset, .unset, .unset, .unset] [(.ref b748)]))
                 have f923 := (f915.keep K920 (ninS ne749 (ninS n12 nin0)))
                 have f924 := (own_sta_keep f916 K920 ns921)
                 have f925 := (own_sta_keep f917 K920 ns921)
                 have f926 := (own_sta_keep f918 K920 ns921)
                 have f927 := (own_sta_keep f919 K920 ns921)
                 refine own_virtualW go X920h hx hZ rfl hown (wd hw 15 rfl) (wd hw 16 rfl) (notFace_of_selects (args := #[]) (mvT hZ (wd hw 18 rfl))) (wd hw 18 rfl) (wd hw 17 rfl) (wd hw 3 rfl) (wd hw 19 rfl) (by decide) (rm_op4d l Z a0 hw b748 b739 il zu za zm zt po920 dp920 1 1 g3 t920 1 1 T920.heap n0 Z922 g_b748 g_il Ee920 Fp920 Fi920 Fl920 Fd920 f923 B920 ne749 n20 n12 hp920 hdp920 f924 f925 f926 f927 nut nat nmt (hV 1 (by decide)) (by omega) (by decide) (by omega) (by omega) (fun z => own_ofnz (n := 1) (by decide) (by decide) (ht920.symm.trans z))) 0 (by decide) (by decide) (by decide) (by decide) Ee920 (g := (mkF m 361 #[vI u0, vI u1, vI u2, vI om, vI ol, vI p1, vI nv, vI im, vI ig, vI p2, vI mv, vI 3, vI tg, vR b739, vI qv, vI (mvOf om), vI (mvOf im), vR b748, .unset, .unset, .unset, .unset] [(.ref b748)])) rfl (by rw [hml]; rfl) [] [] rfl (lenOf pd_0 rfl) rfl (by show 2 * 0 + _ ≤ _; exact Nat.le_of_eq rfl) (hb hby at_361) rb Y920 ?_
                 intro s kS T928 L928 v928 hZ hown rb Y928 X928 q928
                 have rt := own_rt rb
                 obtain ⟨rfl, N928, K928, po928, dp928, t928, hp928, hdp928, ht928, hu928, Ee928, Fp928, Fi928, Fl928, Fd928, B928⟩ := q928
                 have ns929 : ∀ w ∈ [b748, il], ∃ c : Cell, T920.heap[w]? = some c ∧ c.vm.isStatics = false := (allS (own_exa_ns Ee920) (allS (own_ary_ns B920) all0))
                 obtain ⟨lc928, X928h, N928h⟩ := own_hide X928 (Fr.app N920h N928)
                 have Z930 : n0 ≤ T928.heap.size := Nat.le_trans Z922 K928.1
                 show G (T928.setTop (mkF m 364 #[vI u0, vI u1, vI u2, vI om, vI ol, vI p1, vI nv, vI im, vI ig, vI p2, vI mv, vI 3, vI tg, vR b739, vI qv, vI (mvOf om), vI (mvOf im), vR b748, .unset, .unset, .unset, .unset] []))
                 refine go _ _ (fun _ k => XS.iload X928h.here hx rfl (hb hby at_364) rfl  k) ?_
                 show G (T928.setTop (mkF m 366 #[vI u0, vI u1, vI u2, vI om, vI ol, vI p1, vI nv, vI im, vI ig, vI p2, vI mv, vI 3, vI tg, vR b739, vI qv, vI (mvOf om), vI (mvOf im), vR b748, .unset, .unset, .unset, .unset] [(.int (3 : Int32))]))
                 refine go _ _ (fun _ k => XS.iconst X928h.here hx rfl (hb hby at_366) k) ?_
                 show G (T928.setTop (mkF m 367 #[vI u0, vI u1, vI u2, vI om, vI ol, vI p1, vI nv, vI im, vI ig, vI p2, vI mv, vI 3, vI tg, vR b739, vI qv, vI (mvOf om), vI (mvOf im), vR b748, .unset, .unset, .unset, .unset] [(.int (3 : Int32)), (.int (3 : Int32))]))
                 refine go _ _ (fun _ k => XS.icmpNo X928h.here hx rfl (hb hby at_367) rfl (Free.XT.ii_lt_f (by decide)) k) ?_
                 show G (T928.setTop (mkF m 370 #[vI u0, vI u1, vI u2, vI om, vI ol, vI p1, vI nv, vI im, vI ig, vI p2, vI mv, vI 3, vI tg, vR b739, vI qv, vI (mvOf om), vI (mvOf im), vR b748, .unset, .unset, .unset, .unset] []))
                 refine go _ _ (fun _ k => XS.aload X928h.here hx rfl (hb hby at_370) rfl rfl  k) ?_
                 show G (T928.setTop (mkF m 372 #[vI u0, vI u1, vI u2, vI om, vI ol, vI p1, vI nv, vI im, vI ig, vI p2, vI mv, vI 3, vI tg, vR b739, vI qv, vI (mvOf om), vI (mvOf im), vR b748, .unset, .unset, .unset, .unset] [(.ref b748)]))
                 have f931 := (f923.keep K928 (ninS ne749 (ninS n12 nin0)))
                 have f932 := (own_sta_keep f924 K928 ns929)
                 have f933 := (own_sta_keep f925 K928 ns929)
                 have f934 := (own_sta_keep f926 K928 ns929)
                 have f935 := (own_sta_keep f927 K928 ns929)
                 refine own_virtualW go X928h hx hZ rfl hown (wd hw 15 rfl) (wd hw 16 rfl) (notFace_of_selects (args := #[]) (mvT hZ (wd hw 18 rfl))) (wd hw 18 rfl) (wd hw 17 rfl) (wd hw 3 rfl) (wd hw 19 rfl) (by decide) (rm_op4d l Z a0 hw b748 b739 il zu za zm zt po928 dp928 2 2 g3 t928 1 1 T928.heap n0 Z930 g_b748 g_il Ee928 Fp928 Fi928 Fl928 Fd928 f931 B928 ne749 n20 n12 hp928 hdp928 f932 f933 f934 f935 nut nat nmt (hV 2 (by decide)) (by omega) (by decide) (by omega) (by omega) (fun z => own_ofnz (n := 1) (by decide) (by decide) (ht928.symm.trans z))) 0 (by decide) (by decide) (by decide) (by decide) Ee928 (g := (mkF m 372 #[vI u0, vI u1, vI u2, vI om, vI ol, vI p1, vI nv, vI im, vI ig, vI p2, vI mv, vI 3, vI tg, vR b739, vI qv, vI (mvOf om), vI (mvOf im), vR b748, .unset, .unset, .unset, .unset] [(.ref b748)])) rfl (by rw [hml]; rfl) [] [] rfl (lenOf pd_0 rfl) rfl (by show 2 * 0 + _ ≤ _; exact Nat.le_of_eq rfl) (hb hby at_372) rb Y928 ?_
                 intro s kS T936 L936 v936 hZ hown rb Y936 X936 q936
                 have rt := own_rt rb
                 obtain ⟨rfl, N936, K936, po936, dp936, t936, hp936, hdp936, ht936, hu936, Ee936, Fp936, Fi936, Fl936, Fd936, B936⟩ := q936
                 have ns937 : ∀ w ∈ [b748, il], ∃ c : Cell, T928.heap[w]? = some c ∧ c.vm.isStatics = false := (allS (own_exa_ns Ee928) (allS (own_ary_ns B928) all0))
                 obtain ⟨lc936, X936h, N936h⟩ := own_hide X936 (Fr.app N928h N936)
                 have Z938 : n0 ≤ T936.heap.size := Nat.le_trans Z930 K936.1
                 show G (T936.setTop (mkF m 375 #[vI u0, vI u1, vI u2, vI om, vI ol, vI p1, vI nv, vI im, vI ig, vI p2, vI mv, vI 3, vI tg, vR b739, vI qv, vI (mvOf om), vI (mvOf im), vR b748, .unset, .unset, .unset, .unset] []))
                 have f939 := (f931.keep K936 (ninS ne749 (ninS n12 nin0)))
                 have f940 := (own_sta_keep f932 K936 ns937)
                 have f941 := (own_sta_keep f933 K936 ns937)
                 have f942 := (own_sta_keep f934 K936 ns937)
                 have f943 := (own_sta_keep f935 K936 ns937)
                 exact J375 s kS hZ hown rb T936 _ T936.heap (X936h.mono (by decide) (by decide)) rfl N936h  Z938 Y936 _ _ _ hp936 hdp936 (fun q => (fun z => own_ofnz (n := 1) (by decide) (by decide) (ht936.symm.trans z))) Ee936 Fp936 Fi936 Fl936 Fd936 f939 B936 f940 f941 f942 f943
               refine go _ _ (fun _ k => XS.iload X746.here hx rfl (hb hby at_319) rfl  k) ?_
               show G (T746.setTop (mkF m 321 #[vI u0, vI u1, vI u2, vI om, vI ol, vI p1, vI nv, vI im, vI ig, vI p2, vI mv, vI kv, vI tg, vR b739, vI qv, vI (mvOf om), vI (mvOf im), .unset, .unset, .unset, .unset, .unset] [(.int tg)]))
               by_cases c944 : tg = (0 : Int32)
               ·refine go _ _ (fun _ k => XS.ifYes X746.here hx rfl (pc0 := 321) (pc' := 331) rfl (hb hby at_321) rfl (Free.XT.i0_eq_t c944) (by decide) (by decide) k) ?_
                show G (T746.setTop (mkF m 331 #[vI u0, vI u1, vI u2, vI om, vI ol, vI p1, vI nv, vI im, vI ig, vI p2, vI mv, vI kv, vI tg, vR b739, vI qv, vI (mvOf om), vI (mvOf im), .unset, .unset, .unset, .unset, .unset] []))
                exact J331 s kS hZ hown rb T746 _ h746 X746 e746 N746  Z746 Y746 _ H1 H2 (fun i hi => (hV i hi)) (Or.inl ⟨c944, own_hd0 (hz _ (Nat.le_refl _))⟩) f746_0 f746_1 f746_2 f746_3 f746_4
               ·refine go _ _ (fun _ k => XS.ifNo X746.here hx rfl (hb hby at_321) rfl (Free.XT.i0_eq_f c944) k) ?_
                show G (T746.setTop (mkF m 324 #[vI u0, vI u1, vI u2, vI om, vI ol, vI p1, vI nv, vI im, vI ig, vI p2, vI mv, vI kv, vI tg, vR b739, vI qv, vI (mvOf om), vI (mvOf im), .unset, .unset, .unset, .unset, .unset] []))
                refine go _ _ (fun _ k => XS.aload X746.here hx rfl (hb hby at_324) rfl rfl  k) ?_
                show G (T746.setTop (mkF m 326 #[vI u0, vI u1, vI u2, vI om, vI ol, vI p1, vI nv, vI im, vI ig, vI p2, vI mv, vI kv, vI tg, vR b739, vI qv, vI (mvOf om), vI (mvOf im), .unset, .unset, .unset, .unset, .unset] [(.ref b739)]))
                refine go _ _ (fun _ k => XS.iload X746.here hx rfl (hb hby at_326) rfl  k) ?_
                show G (T746.setTop (mkF m 328 #[vI u0, vI u1, vI u2, vI om, vI ol, vI p1, vI nv, vI im, vI ig, vI p2, vI mv, vI kv, vI tg, vR b739, vI qv, vI (mvOf om), vI (mvOf im), .unset, .unset, .unset, .unset, .unset] [(.int qv), (.ref b739)]))
                refine go _ _ (fun _ k => XS.bipush X746.here hx rfl (hb hby at_328) k) ?_
                show G (T746.setTop (mkF m 330 #[vI u0, vI u1, vI u2, vI om, vI ol, vI p1, vI nv, vI im, vI ig, vI p2, vI mv, vI kv, vI tg, vR b739, vI qv, vI (mvOf om), vI (mvOf im), .unset, .unset, .unset, .unset, .unset] [(.int (-58 : Int32)), (.int qv), (.ref b739)]))
                refine own_bastore go X746 hx hZ e746 (kN + w1 + w2) hqv (by omega) (g := (mkF m 330 #[vI u0, vI u1, vI u2, vI om, vI ol, vI p1, vI nv, vI im, vI ig, vI p2, vI mv, vI kv, vI tg, vR b739, vI qv, vI (mvOf om), vI (mvOf im), .unset, .unset, .unset, .unset, .unset] [(.int (-58 : Int32)), (.int qv), (.ref b739)])) rfl f746_0 rfl (hb hby at_330) ?_
                intro T945 h945 X945 e945 W945 A945
                obtain ⟨lc945, X945h, N945h⟩ := own_hide X945 (Fr.snoc X945 N746 g_b739)
                have Z946 : n0 ≤ h945.size := Nat.le_trans Z746 (Nat.le_of_eq W945.size.symm)
                have Y947 : kS ≤ h945.size := Nat.le_trans Y746 (Nat.le_of_eq W945.size.symm)
                have A945c := A945.cong (g := (fun i => .int ((upd g2 (kN + w1 + w2) (-58 : Int32)) i))) (own_upd rfl)
                show G (T945.setTop (mkF m 331 #[vI u0, vI u1, vI u2, vI om, vI ol, vI p1, vI nv, vI im, vI ig, vI p2, vI mv, vI kv, vI tg, vR b739, vI qv, vI (mvOf om), vI (mvOf im), .unset, .unset, .unset, .unset, .unset] []))
                have f948 := (f746_1.wr W945)
                have f949 := (f746_2.wr W945)
                have f950 := (f746_3.wr W945)
                have f951 := (f746_4.wr W945)
                exact J331 s kS hZ hown rb T945 _ h945 X945h e945 N945h  Z946 Y947 _ (Head.upd H1 (by omega)) (Head.upd H2 (by omega)) (fun i hi => (Head.upd (hV i hi) (by omega))) (Or.inr ⟨c944, own_hdC6, own_hd0 (by rw [upd_ne (by omega)]; exact hz _ (by omega))⟩) A945c f948 f949 f950 f951
              refine go _ _ (fun _ k => XS.iload X745.here hx rfl (hb hby at_267) rfl  k) ?_
              show G (T745.setTop (mkF m 269 #[vI u0, vI u1, vI u2, vI om, vI ol, vI p1, vI nv, vI im, vI ig, vI p2, vI mv, vI kv, vI tg, vR b739, vI pv, vI (mvOf om), vI (mvOf im), .unset, .unset, .unset, .unset, .unset] [(.int ig)]))
              by_cases c952 : ig = (0 : Int32)
              ·refine go _ _ (fun _ k => XS.ifYes X745.here hx rfl (pc0 := 269) (pc' := 302) rfl (hb hby at_269) rfl (Free.XT.i0_eq_t c952) (by decide) (by decide) k) ?_
               show G (T745.setTop (mkF m 302 #[vI u0, vI u1, vI u2, vI om, vI ol, vI p1, vI nv, vI im, vI ig, vI p2, vI mv, vI kv, vI tg, vR b739, vI pv, vI (mvOf om), vI (mvOf im), .unset, .unset, .unset, .unset, .unset] []))
               refine go _ _ (fun _ k => XS.aload X745.here hx rfl (hb hby at_302) rfl rfl  k) ?_
               show G (T745.setTop (mkF m 304 #[vI u0, vI u1, vI u2, vI om, vI ol, vI p1, vI nv, vI im, vI ig, vI p2, vI mv, vI kv, vI tg, vR b739, vI pv, vI (mvOf om), vI (mvOf im), .unset, .unset, .unset, .unset, .unset] [(.ref b739)]))
               refine go _ _ (fun _ k => XS.iload X745.here hx rfl (hb hby at_304) rfl  k) ?_
               show G (T745.setTop (mkF m 306 #[vI u0, vI u1, vI u2, vI om, vI ol, vI p1, vI nv, vI im, vI ig, vI p2, vI mv, vI kv, vI tg, vR b739, vI pv, vI (mvOf om), vI (mvOf im), .unset, .unset, .unset, .unset, .unset] [(.int pv), (.ref b739)]))
               refine go _ _ (fun _ k => XS.iload X745.here hx rfl (hb hby at_306) rfl  k) ?_
               show G (T745.setTop (mkF m 308 #[vI u0, vI u1, vI u2, vI om, vI ol, vI p1, vI nv, vI im, vI ig, vI p2, vI mv, vI kv, vI tg, vR b739, vI pv, vI (mvOf om), vI (mvOf im), .unset, .unset, .unset, .unset, .unset] [(.int (mvOf im)), (.int pv), (.ref b739)]))
               refine go _ _ (fun _ k => XS.iload X745.here hx rfl (hb hby at_308) rfl  k) ?_
               show G (T745.setTop (mkF m 310 #[vI u0, vI u1, vI u2, vI om, vI ol, vI p1, vI nv, vI im, vI ig, vI p2, vI mv, vI kv, vI tg, vR b739, vI pv, vI (mvOf om), vI (mvOf im), .unset, .unset, .unset, .unset, .unset] [(.int mv), (.int (mvOf im)), (.int pv), (.ref b739)]))
               refine go _ _ (fun _ k => XS.ior X745.here hx rfl (hb hby at_310) rfl k) ?_
               show G (T745.setTop (mkF m 311 #[vI u0, vI u1, vI u2, vI om, vI ol, vI p1, vI nv, vI im, vI ig, vI p2, vI mv, vI kv, vI tg, vR b739, vI pv, vI (mvOf om), vI (mvOf im), .unset, .unset, .unset, .unset, .unset] [(.int ((mvOf im) ||| mv)), (.int pv), (.ref b739)]))
               refine go _ _ (fun _ k => XS.i2b X745.here hx rfl (hb hby at_311) rfl k) ?_
               show G (T745.setTop (mkF m 312 #[vI u0, vI u1, vI u2, vI om, vI ol, vI p1, vI nv, vI im, vI ig, vI p2, vI mv, vI kv, vI tg, vR b739, vI pv, vI (mvOf om), vI (mvOf im), .unset, .unset, .unset, .unset, .unset] [(.int (((mvOf im) ||| mv).toInt8.toInt32)), (.int pv), (.ref b739)]))
               refine own_bastore go X745 hx hZ e745 (kN + w1) hpv (by omega) (g := (mkF m 312 #[vI u0, vI u1, vI u2, vI om, vI ol, vI p1, vI nv, vI im, vI ig, vI p2, vI mv, vI kv, vI tg, vR b739, vI pv, vI (mvOf om), vI (mvOf im), .unset, .unset, .unset, .unset, .unset] [(.int (((mvOf im) ||| mv).toInt8.toInt32)), (.int pv), (.ref b739)])) rfl f744_0 rfl (hb hby at_312) ?_
               intro T953 h953 X953 e953 W953 A953
               obtain ⟨lc953, X953h, N953h⟩ := own_hide X953 (Fr.snoc X953 N745j g_b739)
               have Z954 : n0 ≤ h953.size := Nat.le_trans Z744 (Nat.le_of_eq W953.size.symm)
               have Y955 : kS ≤ h953.size := Nat.le_trans Y744 (Nat.le_of_eq W953.size.symm)
               have A953c := A953.cong (g := (fun i => .int ((upd g1 (kN + w1) (((mvOf im) ||| mv).toInt8.toInt32)) i))) (own_upd (own_nb _))
               show G (T953.setTop (mkF m 313 #[vI u0, vI u1, vI u2, vI om, vI ol, vI p1, vI nv, vI im, vI ig, vI p2, vI mv, vI kv, vI tg, vR b739, vI pv, vI (mvOf om), vI (mvOf im), .unset, .unset, .unset, .unset, .unset] []))
               refine go _ _ (fun _ k => XS.iload X953h.here hx rfl (hb hby at_313) rfl  k) ?_
               show G (T953.setTop (mkF m 315 #[vI u0, vI u1, vI u2, vI om, vI ol, vI p1, vI nv, vI im, vI ig, vI p2, vI mv, vI kv, vI tg, vR b739, vI pv, vI (mvOf om), vI (mvOf im), .unset, .unset, .unset, .unset, .unset] [(.int pv)]))
               refine go _ _ (fun _ k => XS.iconst X953h.here hx rfl (hb hby at_315) k) ?_
               show G (T953.setTop (mkF m 316 #[vI u0, vI u1, vI u2, vI om, vI ol, vI p1, vI nv, vI im, vI ig, vI p2, vI mv, vI kv, vI tg, vR b739, vI pv, vI (mvOf om), vI (mvOf im), .unset, .unset, .unset, .unset, .unset] [(.int (1 : Int32)), (.int pv)]))
               refine go _ _ (fun _ k => XS.iadd X953h.here hx rfl (hb hby at_316) rfl k) ?_
               show G (T953.setTop (mkF m 317 #[vI u0, vI u1, vI u2, vI om, vI ol, vI p1, vI nv, vI im, vI ig, vI p2, vI mv, vI kv, vI tg, vR b739, vI pv, vI (mvOf om), vI (mvOf im), .unset, .unset, .unset, .unset, .unset] [(.int (pv + (1 : Int32)))]))
               refine go _ _ (fun _ k => XS.istore X953h.here hx rfl (hb hby at_317) rfl (l' := #[vI u0, vI u1, vI u2, vI om, vI ol, vI p1, vI nv, vI im, vI ig, vI p2, vI mv, vI kv, vI tg, vR b739, vI (pv + (1 : Int32)), vI (mvOf om), vI (mvOf im), .unset, .unset, .unset, .unset, .unset]) rfl k) ?_
               show G (T953.setTop (mkF m 319 #[vI u0, vI u1, vI u2, vI om, vI ol, vI p1, vI nv, vI im, vI ig, vI p2, vI mv, vI kv, vI tg, vR b739, vI (pv + (1 : Int32)), vI (mvOf om), vI (mvOf im), .unset, .unset, .unset, .unset, .unset] []))
               have f956 := (f744_1.wr W953)
               have f957 := (f744_2.wr W953)
               have f958 := (f744_3.wr W953)
               have f959 := (f744_4.wr W953)
               exact J319 s kS hZ hown rb T953 _ h953 X953h e953 N953h  Z954 Y955 _ 1 _ (own_add hpv (j := 1) rfl (by omega)) (Head.upd H1 (by omega)) (own_hdS hmN (by have := hm3 c952; omega)) (fun i hi => (Head.upd (hV i hi) (by omega))) (fun i hi => by rw [upd_ne (by omega)]; exact hz i (by omega)) A953c f956 f957 f958 f959
              ·refine go _ _ (fun _ k => XS.ifNo X745.here hx rfl (hb hby at_269) rfl (Free.XT.i0_eq_f c952) k) ?_
               show G (T745.setTop (mkF m 272 #[vI u0, vI u1, vI u2, vI om, vI ol, vI p1, vI nv, vI im, vI ig, vI p2, vI mv, vI kv, vI tg, vR b739, vI pv, vI (mvOf om), vI (mvOf im), .unset, .unset, .unset, .unset, .unset] []))
               refine go _ _ (fun _ k => XS.aload X745.here hx rfl (hb hby at_272) rfl rfl  k) ?_
               show G (T745.setTop (mkF m 274 #[vI u0, vI u1, vI u2, vI om, vI ol, vI p1, vI nv, vI im, vI ig, vI p2, vI mv, vI kv, vI tg, vR b739, vI pv, vI (mvOf om), vI (mvOf im), .unset, .unset, .unset, .unset, .unset] [(.ref b739)]))
               refine go _ _ (fun _ k => XS.iload X745.here hx rfl (hb hby at_274) rfl  k) ?_
               show G (T745.setTop (mkF m 276 #[vI u0, vI u1, vI u2, vI om, vI ol, vI p1, vI nv, vI im, vI ig, vI p2, vI mv, vI kv, vI tg, vR b739, vI pv, vI (mvOf om), vI (mvOf im), .unset, .unset, .unset, .unset, .unset] [(.int pv), (.ref b739)]))
               refine go _ _ (fun _ k => XS.iload X745.here hx rfl (hb hby at_276) rfl  k) ?_
               show G (T745.setTop (mkF m 278 #[vI u0, vI u1, vI u2, vI om, vI ol, vI p1, vI nv, vI im, vI ig, vI p2, vI mv, vI kv, vI tg, vR b739, vI pv, vI (mvOf om), vI (mvOf im), .unset, .unset, .unset, .unset, .unset] [(.int (mvOf im)), (.int pv), (.ref b739)]))
               refine go _ _ (fun _ k => XS.bipush X745.here hx rfl (hb hby at_278) k) ?_
               show G (T745.setTop (mkF m 280 #[vI u0, vI u1, vI u2, vI om, vI ol, vI p1, vI nv, vI im, vI ig, vI p2, vI mv, vI kv, vI tg, vR b739, vI pv, vI (mvOf om), vI (mvOf im), .unset, .unset, .unset, .unset, .unset] [(.int (24 : Int32)), (.int (mvOf im)), (.int pv), (.ref b739)]))
               refine go _ _ (fun _ k => XS.ior X745.here hx rfl (hb hby at_280) rfl k) ?_
               show G (T745.setTop (mkF m 281 #[vI u0, vI u1, vI u2, vI om, vI ol, vI p1, vI nv, vI im, vI ig, vI p2, vI mv, vI kv, vI tg, vR b739, vI pv, vI (mvOf om), vI (mvOf im), .unset, .unset, .unset, .unset, .unset] [(.int ((mvOf im) ||| (24 : Int32))), (.int pv), (.ref b739)]))
               refine go _ _ (fun _ k => XS.i2b X745.here hx rfl (hb hby at_281) rfl k) ?_
               show G (T745.setTop (mkF m 282 #[vI u0, vI u1, vI u2, vI om, vI ol, vI p1, vI nv, vI im, vI ig, vI p2, vI mv, vI kv, vI tg, vR b739, vI pv, vI (mvOf om), vI (mvOf im), .unset, .unset, .unset, .unset, .unset] [(.int (((mvOf im) ||| (24 : Int32)).toInt8.toInt32)), (.int pv), (.ref b739)]))
               refine own_bastore go X745 hx hZ e745 (kN + w1) hpv (by omega) (g := (mkF m 282 #[vI u0, vI u1, vI u2, vI om, vI ol, vI p1, vI nv, vI im, vI ig, vI p2, vI mv, vI kv, vI tg, vR b739, vI pv, vI (mvOf om), vI (mvOf im), .unset, .unset, .unset, .unset, .unset] [(.int (((mvOf im) ||| (24 : Int32)).toInt8.toInt32)), (.int pv), (.ref b739)])) rfl f744_0 rfl (hb hby at_282) ?_
               intro T960 h960 X960 e960 W960 A960
               obtain ⟨lc960, X960h, N960h⟩ := own_hide X960 (Fr.snoc X960 N745j g_b739)
               have Z961 : n0 ≤ h960.size := Nat.le_trans Z744 (Nat.le_of_eq W960.size.symm)
               have Y962 : kS ≤ h960.size := Nat.le_trans Y744 (Nat.le_of_eq W960.size.symm)
               have A960c := A960.cong (g := (fun i => .int ((upd g1 (kN + w1) (((mvOf im) ||| (24 : Int32)).toInt8.toInt32)) i))) (own_upd (own_nb _))
               show G (T960.setTop (mkF m 283 #[vI u0, vI u1, vI u2, vI om, vI ol, vI p1, vI nv, vI im, vI ig, vI p2, vI mv, vI kv, vI tg, vR b739, vI pv, vI (mvOf om), vI (mvOf im), .unset, .unset, .unset, .unset, .unset] []))
               refine go _ _ (fun _ k => XS.aload X960h.here hx rfl (hb hby at_283) rfl rfl  k) ?_
               show G (T960.setTop (mkF m 285 #[vI u0, vI u1, vI u2, vI om, vI ol, vI p1, vI nv, vI im, vI ig, vI p2, vI mv, vI kv, vI tg, vR b739, vI pv, vI (mvOf om), vI (mvOf im), .unset, .unset, .unset, .unset, .unset] [(.ref b739)]))
               refine go _ _ (fun _ k => XS.iload X960h.here hx rfl (hb hby at_285) rfl  k) ?_
               show G (T960.setTop (mkF m 287 #[vI u0, vI u1, vI u2, vI om, vI ol, vI p1, vI nv, vI im, vI ig, vI p2, vI mv, vI kv, vI tg, vR b739, vI pv, vI (mvOf om), vI (mvOf im), .unset, .unset, .unset, .unset, .unset] [(.int pv), (.ref b739)]))
               refine go _ _ (fun _ k => XS.iconst X960h.here hx rfl (hb hby at_287) k) ?_
               show G (T960.setTop (mkF m 288 #[vI u0, vI u1, vI u2, vI om, vI ol, vI p1, vI nv, vI im, vI ig, vI p2, vI mv, vI kv, vI tg, vR b739, vI pv, vI (mvOf om), vI (mvOf im), .unset, .unset, .unset, .unset, .unset] [(.int (1 : Int32)), (.int pv), (.ref b739)]))
               refine go _ _ (fun _ k => XS.iadd X960h.here hx rfl (hb hby at_288) rfl k) ?_
               show G (T960.setTop (mkF m 289 #[vI u0, vI u1, vI u2, vI om, vI ol, vI p1, vI nv, vI im, vI ig, vI p2, vI mv, vI kv, vI tg, vR b739, vI pv, vI (mvOf om), vI (mvOf im), .unset, .unset, .unset, .unset, .unset] [(.int (pv + (1 : Int32))), (.ref b739)]))
               refine go _ _ (fun _ k => XS.iload X960h.here hx rfl (hb hby at_289) rfl  k) ?_
               show G (T960.setTop (mkF m 291 #[vI u0, vI u1, vI u2, vI om, vI ol, vI p1, vI nv, vI im, vI ig, vI p2, vI mv, vI kv, vI tg, vR b739, vI pv, vI (mvOf om), vI (mvOf im), .unset, .unset, .unset, .unset, .unset] [(.int mv), (.int (pv + (1 : Int32))), (.ref b739)]))
               refine go _ _ (fun _ k => XS.i2b X960h.here hx rfl (hb hby at_291) rfl k) ?_
               show G (T960.setTop (mkF m 292 #[vI u0, vI u1, vI u2, vI om, vI ol, vI p1, vI nv, vI im, vI ig, vI p2, vI mv, vI kv, vI tg, vR b739, vI pv, vI (mvOf om), vI (mvOf im), .unset, .unset, .unset, .unset, .unset] [(.int (mv.toInt8.toInt32)), (.int (pv + (1 : Int32))), (.ref b739)]))
               refine own_bastore go X960h hx hZ e960 (kN + w1 + 1) (own_add hpv (j := 1) rfl (by omega)) (by omega) (g := (mkF m 292 #[vI u0, vI u1, vI u2, vI om, vI ol, vI p1, vI nv, vI im, vI ig, vI p2, vI mv, vI kv, vI tg, vR b739, vI pv, vI (mvOf om), vI (mvOf im), .unset, .unset, .unset, .unset, .unset] [(.int (mv.toInt8.toInt32)), (.int (pv + (1 : Int32))), (.ref b739)])) rfl A960c rfl (hb hby at_292) ?_
               intro T963 h963 X963 e963 W963 A963
               obtain ⟨lc963, X963h, N963h⟩ := own_hide X963 (Fr.snoc X963 N960h g_b739)
               have Z964 : n0 ≤ h963.size := Nat.le_trans Z961 (Nat.le_of_eq W963.size.symm)
               have Y965 : kS ≤ h963.size := Nat.le_trans Y962 (Nat.le_of_eq W963.size.symm)
               have A963c := A963.cong (g := (fun i => .int ((upd (upd g1 (kN + w1) (((mvOf im) ||| (24 : Int32)).toInt8.toInt32)) (kN + w1 + 1) (mv.toInt8.toInt32)) i))) (own_upd (own_nb _))
               show G (T963.setTop (mkF m 293 #[vI u0, vI u1, vI u2, vI om, vI ol, vI p1, vI nv, vI im, vI ig, vI p2, vI mv, vI kv, vI tg, vR b739, vI pv, vI (mvOf om), vI (mvOf im), .unset, .unset, .unset, .unset, .unset] []))
               refine go _ _ (fun _ k => XS.iload X963h.here hx rfl (hb hby at_293) rfl  k) ?_
               show G (T963.setTop (mkF m 295 #[vI u0, vI u1, vI u2, vI om, vI ol, vI p1, vI nv, vI im, vI ig, vI p2, vI mv, vI kv, vI tg, vR b739, vI pv, vI (mvOf om), vI (mvOf im), .unset, .unset, .unset, .unset, .unset] [(.int pv)]))
               refine go _ _ (fun _ k => XS.iconst X963h.here hx rfl (hb hby at_295) k) ?_
               show G (T963.setTop (mkF m 296 #[vI u0, vI u1, vI u2, vI om, vI ol, vI p1, vI nv, vI im, vI ig, vI p2, vI mv, vI kv, vI tg, vR b739, vI pv, vI (mvOf om), vI (mvOf im), .unset, .unset, .unset, .unset, .unset] [(.int (2 : Int32)), (.int pv)]))
               refine go _ _ (fun _ k => XS.iadd X963h.here hx rfl (hb hby at_296) rfl k) ?_
               show G (T963.setTop (mkF m 297 #[vI u0, vI u1, vI u2, vI om, vI ol, vI p1, vI nv, vI im, vI ig, vI p2, vI mv, vI kv, vI tg, vR b739, vI pv, vI (mvOf om), vI (mvOf im), .unset, .unset, .unset, .unset, .unset] [(.int (pv + (2 : Int32)))]))
               refine go _ _ (fun _ k => XS.istore X963h.here hx rfl (hb hby at_297) rfl (l' := #[vI u0, vI u1, vI u2, vI om, vI ol, vI p1, vI nv, vI im, vI ig, vI p2, vI mv, vI kv, vI tg, vR b739, vI (pv + (2 : Int32)), vI (mvOf om), vI (mvOf im), .unset, .unset, .unset, .unset, .unset]) rfl k) ?_
               show G (T963.setTop (mkF m 299 #[vI u0, vI u1, vI u2, vI om, vI ol, vI p1, vI nv, vI im, vI ig, vI p2, vI mv, vI kv, vI tg, vR b739, vI (pv + (2 : Int32)), vI (mvOf om), vI (mvOf im), .unset, .unset, .unset, .unset, .unset] []))
               refine go _ _ (fun _ k => XS.goto X963h.here hx rfl (pc0 := 299) (pc' := 319) rfl (hb hby at_299) (by decide) (by decide) k) ?_
               show G (T963.setTop (mkF m 319 #[vI u0, vI u1, vI u2, vI om, vI ol, vI p1, vI nv, vI im, vI ig, vI p2, vI mv, vI kv, vI tg, vR b739, vI (pv + (2 : Int32)), vI (mvOf om), vI (mvOf im), .unset, .unset, .unset, .unset, .unset] []))
               have f966 := ((f744_1.wr W960).wr W963)
               have f967 := ((f744_2.wr W960).wr W963)
               have f968 := ((f744_3.wr W960).wr W963)
               have f969 := ((f744_4.wr W960).wr W963)
               exact J319 s kS hZ hown rb T963 _ h963 X963h e963 N963h  Z964 Y965 _ 2 _ (own_add hpv (j := 2) rfl (by omega)) (Head.upd (Head.upd H1 (by omega)) (by omega)) (own_hdL hmN (by omega)) (fun i hi => (Head.upd (Head.upd (hV i hi) (by omega)) (by omega))) (fun i hi => by rw [upd_ne (by omega), upd_ne (by omega)]; exact hz i (by omega)) A963c f966 f967 f968 f969
             refine go _ _ (fun _ k => XS.iload X744.here hx rfl (hb hby at_251) rfl  k) ?_
             show G (T744.setTop (mkF m 253 #[vI u0, vI u1, vI u2, vI om, vI ol, vI p1, vI nv, vI im, vI ig, vI p2, vI mv, vI kv, vI tg, vR b739, vI pv, vI (mvOf om), .unset, .unset, .unset, .unset, .unset, .unset] [(.int im)]))
             by_cases c970 : im = (0 : Int32)
             ·refine go _ _ (fun _ k => XS.ifYes X744.here hx rfl (pc0 := 253) (pc' := 262) rfl (hb hby at_253) rfl (Free.XT.i0_eq_t c970) (by decide) (by decide) k) ?_
              show G (T744.setTop (mkF m 262 #[vI u0, vI u1, vI u2, vI om, vI ol, vI p1, vI nv, vI im, vI ig, vI p2, vI mv, vI kv, vI tg, vR b739, vI pv, vI (mvOf om), .unset, .unset, .unset, .unset, .unset, .unset] []))
              refine go _ _ (fun _ k => XS.sipush X744.here hx rfl (hb hby at_262) k) ?_
              show G (T744.setTop (mkF m 265 #[vI u0, vI u1, vI u2, vI om, vI ol, vI p1, vI nv, vI im, vI ig, vI p2, vI mv, vI kv, vI tg, vR b739, vI pv, vI (mvOf om), .unset, .unset, .unset, .unset, .unset, .unset] [(.int (128 : Int32))]))
              exact J265 T744 _ X744 e744 N744 _ (mvOf_z c970)
             ·refine go _ _ (fun _ k => XS.ifNo X744.here hx rfl (hb hby at_253) rfl (Free.XT.i0_eq_f c970) k) ?_
              show G (T744.setTop (mkF m 256 #[vI u0, vI u1, vI u2, vI om, vI ol, vI p1, vI nv, vI im, vI ig, vI p2, vI mv, vI kv, vI tg, vR b739, vI pv, vI (mvOf om), .unset, .unset, .unset, .unset, .unset, .unset] []))
              refine go _ _ (fun _ k => XS.sipush X744.here hx rfl (hb hby at_256) k) ?_
              show G (T744.setTop (mkF m 259 #[vI u0, vI u1, vI u2, vI om, vI ol, vI p1, vI nv, vI im, vI ig, vI p2, vI mv, vI kv, vI tg, vR b739, vI pv, vI (mvOf om), .unset, .unset, .unset, .unset, .unset, .unset] [(.int (160 : Int32))]))
              refine go _ _ (fun _ k => XS.goto X744.here hx rfl (pc0 := 259) (pc' := 265) rfl (hb hby at_259) (by decide) (by decide) k) ?_
              show G (T744.setTop (mkF m 265 #[vI u0, vI u1, vI u2, vI om, vI ol, vI p1, vI nv, vI im, vI ig, vI p2, vI mv, vI kv, vI tg, vR b739, vI pv, vI (mvOf om), .unset, .unset, .unset, .unset, .unset, .unset] [(.int (160 : Int32))]))
              exact J265 T744 _ X744 e744 N744 _ (mvOf_n c970)
            refine go _ _ (fun _ k => XS.iload X743.here hx rfl (hb hby at_199) rfl  k) ?_
            show G (T743.setTop (mkF m 201 #[vI u0, vI u1, vI u2, vI om, vI ol, vI p1, vI nv, vI im, vI ig, vI p2, vI mv, vI kv, vI tg, vR b739, vI kv, vI (mvOf om), .unset, .unset, .unset, .unset, .unset, .unset] [(.int ol)]))
            by_cases c971 : ol = (0 : Int32)
            ·refine go _ _ (fun _ k => XS.ifYes X743.here hx rfl (pc0 := 201) (pc' := 234) rfl (hb hby at_201) rfl (Free.XT.i0_eq_t c971) (by decide) (by decide) k) ?_
             show G (T743.setTop (mkF m 234 #[vI u0, vI u1, vI u2, vI om, vI ol, vI p1, vI nv, vI im, vI ig, vI p2, vI mv, vI kv, vI tg, vR b739, vI kv, vI (mvOf om), .unset, .unset, .unset, .unset, .unset, .unset] []))
             refine go _ _ (fun _ k => XS.aload X743.here hx rfl (hb hby at_234) rfl rfl  k) ?_
             show G (T743.setTop (mkF m 236 #[vI u0, vI u1, vI u2, vI om, vI ol, vI p1, vI nv, vI im, vI ig, vI p2, vI mv, vI kv, vI tg, vR b739, vI kv, vI (mvOf om), .unset, .unset, .unset, .unset, .unset, .unset] [(.ref b739)]))
             refine go _ _ (fun _ k => XS.iload X743.here hx rfl (hb hby at_236) rfl  k) ?_
             show G (T743.setTop (mkF m 238 #[vI u0, vI u1, vI u2, vI om, vI ol, vI p1, vI nv, vI im, vI ig, vI p2, vI mv, vI kv, vI tg, vR b739, vI kv, vI (mvOf om), .unset, .unset, .unset, .unset, .unset, .unset] [(.int kv), (.ref b739)]))
             refine go _ _ (fun _ k => XS.iload X743.here hx rfl (hb hby at_238) rfl  k) ?_
             show G (T743.setTop (mkF m 240 #[vI u0, vI u1, vI u2, vI om, vI ol, vI p1, vI nv, vI im, vI ig, vI p2, vI mv, vI kv, vI tg, vR b739, vI kv, vI (mvOf om), .unset, .unset, .unset, .unset, .unset, .unset] [(.int (mvOf om)), (.int kv), (.ref b739)]))
             refine go _ _ (fun _ k => XS.iload X743.here hx rfl (hb hby at_240) rfl  k) ?_
             show G (T743.setTop (mkF m 242 #[vI u0, vI u1, vI u2, vI om, vI ol, vI p1, vI nv, vI im, vI ig, vI p2, vI mv, vI kv, vI tg, vR b739, vI kv, vI (mvOf om), .unset, .unset, .unset, .unset, .unset, .unset] [(.int nv), (.int (mvOf om)), (.int kv), (.ref b739)]))
             refine go _ _ (fun _ k => XS.ior X743.here hx rfl (hb hby at_242) rfl k) ?_
             show G (T743.setTop (mkF m 243 #[vI u0, vI u1, vI u2, vI om, vI ol, vI p1, vI nv, vI im, vI ig, vI p2, vI mv, vI kv, vI tg, vR b739, vI kv, vI (mvOf om), .unset, .unset, .unset, .unset, .unset, .unset] [(.int ((mvOf om) ||| nv)), (.int kv), (.ref b739)]))
             refine go _ _ (fun _ k => XS.i2b X743.here hx rfl (hb hby at_243) rfl k) ?_
             show G (T743.setTop (mkF m 244 #[vI u0, vI u1, vI u2, vI om, vI ol, vI p1, vI nv, vI im, vI ig, vI p2, vI mv, vI kv, vI tg, vR b739, vI kv, vI (mvOf om), .unset, .unset, .unset, .unset, .unset, .unset] [(.int (((mvOf om) ||| nv).toInt8.toInt32)), (.int kv), (.ref b739)]))
             refine own_bastore go X743 hx hZ e743 kN hkN (by omega) (g := (mkF m 244 #[vI u0, vI u1, vI u2, vI om, vI ol, vI p1, vI nv, vI im, vI ig, vI p2, vI mv, vI kv, vI tg, vR b739, vI kv, vI (mvOf om), .unset, .unset, .unset, .unset, .unset, .unset] [(.int (((mvOf om) ||| nv).toInt8.toInt32)), (.int kv), (.ref b739)])) rfl f742_0 rfl (hb hby at_244) ?_
             intro T972 h972 X972 e972 W972 A972
             obtain ⟨lc972, X972h, N972h⟩ := own_hide X972 (Fr.snoc X972 N743j g_b739)
             have Z973 : n0 ≤ h972.size := Nat.le_trans Z742 (Nat.le_of_eq W972.size.symm)
             have Y974 : kS ≤ h972.size := Nat.le_trans Y742 (Nat.le_of_eq W972.size.symm)
             have A972c := A972.cong (g := (fun i => .int ((upd g0 kN (((mvOf om) ||| nv).toInt8.toInt32)) i))) (own_upd (own_nb _))
             show G (T972.setTop (mkF m 245 #[vI u0, vI u1, vI u2, vI om, vI ol, vI p1, vI nv, vI im, vI ig, vI p2, vI mv, vI kv, vI tg, vR b739, vI kv, vI (mvOf om), .unset, .unset, .unset, .unset, .unset, .unset] []))
             refine go _ _ (fun _ k => XS.iload X972h.here hx rfl (hb hby at_245) rfl  k) ?_
             show G (T972.setTop (mkF m 247 #[vI u0, vI u1, vI u2, vI om, vI ol, vI p1, vI nv, vI im, vI ig, vI p2, vI mv, vI kv, vI tg, vR b739, vI kv, vI (mvOf om), .unset, .unset, .unset, .unset, .unset, .unset] [(.int kv)]))
             refine go _ _ (fun _ k => XS.iconst X972h.here hx rfl (hb hby at_247) k) ?_
             show G (T972.setTop (mkF m 248 #[vI u0, vI u1, vI u2, vI om, vI ol, vI p1, vI nv, vI im, vI ig, vI p2, vI mv, vI kv, vI tg, vR b739, vI kv, vI (mvOf om), .unset, .unset, .unset, .unset, .unset, .unset] [(.int (1 : Int32)), (.int kv)]))
             refine go _ _ (fun _ k => XS.iadd X972h.here hx rfl (hb hby at_248) rfl k) ?_
             show G (T972.setTop (mkF m 249 #[vI u0, vI u1, vI u2, vI om, vI ol, vI p1, vI nv, vI im, vI ig, vI p2, vI mv, vI kv, vI tg, vR b739, vI kv, vI (mvOf om), .unset, .unset, .unset, .unset, .unset, .unset] [(.int (kv + (1 : Int32)))]))
             refine go _ _ (fun _ k => XS.istore X972h.here hx rfl (hb hby at_249) rfl (l' := #[vI u0, vI u1, vI u2, vI om, vI ol, vI p1, vI nv, vI im, vI ig, vI p2, vI mv, vI kv, vI tg, vR b739, vI (kv + (1 : Int32)), vI (mvOf om), .unset, .unset, .unset, .unset, .unset, .unset]) rfl k) ?_
             show G (T972.setTop (mkF m 251 #[vI u0, vI u1, vI u2, vI om, vI ol, vI p1, vI nv, vI im, vI ig, vI p2, vI mv, vI kv, vI tg, vR b739, vI (kv + (1 : Int32)), vI (mvOf om), .unset, .unset, .unset, .unset, .unset, .unset] []))
             have f975 := (f742_1.wr W972)
             have f976 := (f742_2.wr W972)
             have f977 := (f742_3.wr W972)
             have f978 := (f742_4.wr W972)
             exact J251 s kS hZ hown rb T972 _ h972 X972h e972 N972h  Z973 Y974 _ 1 _ (own_add hkN (j := 1) rfl (by omega)) (own_hdS hnN (by have := hn4 c971; omega)) (fun i hi => (Head.upd (hV i hi) (by omega))) (fun i hi => by rw [upd_ne (by omega)]; exact hz i (by omega)) A972c f975 f976 f977 f978
            ·refine go _ _ (fun _ k => XS.ifNo X743.here hx rfl (hb hby at_201) rfl (Free.XT.i0_eq_f c971) k) ?_
             show G (T743.setTop (mkF m 204 #[vI u0, vI u1, vI u2, vI om, vI ol, vI p1, vI nv, vI im, vI ig, vI p2, vI mv, vI kv, vI tg, vR b739, vI kv, vI (mvOf om), .unset, .unset, .unset, .unset, .unset, .unset] []))
             refine go _ _ (fun _ k => XS.aload X743.here hx rfl (hb hby at_204) rfl rfl  k) ?_
             show G (T743.setTop (mkF m 206 #[vI u0, vI u1, vI u2, vI om, vI ol, vI p1, vI nv, vI im, vI ig, vI p2, vI mv, vI kv, vI tg, vR b739, vI kv, vI (mvOf om), .unset, .unset, .unset, .unset, .unset, .unset] [(.ref b739)]))
             refine go _ _ (fun _ k => XS.iload X743.here hx rfl (hb hby at_206) rfl  k) ?_
             show G (T743.setTop (mkF m 208 #[vI u0, vI u1, vI u2, vI om, vI ol, vI p1, vI nv, vI im, vI ig, vI p2, vI mv, vI kv, vI tg, vR b739, vI kv, vI (mvOf om), .unset, .unset, .unset, .unset, .unset, .unset] [(.int kv), (.ref b739)]))
             refine go _ _ (fun _ k => XS.iload X743.here hx rfl (hb hby at_208) rfl  k) ?_
             show G (T743.setTop (mkF m 210 #[vI u0, vI u1, vI u2, vI om, vI ol, vI p1, vI nv, vI im, vI ig, vI p2, vI mv, vI kv, vI tg, vR b739, vI kv, vI (mvOf om), .unset, .unset, .unset, .unset, .unset, .unset] [(.int (mvOf om)), (.int kv), (.ref b739)]))
             refine go _ _ (fun _ k => XS.bipush X743.here hx rfl (hb hby at_210) k) ?_
             show G (T743.setTop (mkF m 212 #[vI u0, vI u1, vI u2, vI om, vI ol, vI p1, vI nv, vI im, vI ig, vI p2, vI mv, vI kv, vI tg, vR b739, vI kv, vI (mvOf om), .unset, .unset, .unset, .unset, .unset, .unset] [(.int (24 : Int32)), (.int (mvOf om)), (.int kv), (.ref b739)]))
             refine go _ _ (fun _ k => XS.ior X743.here hx rfl (hb hby at_212) rfl k) ?_
             show G (T743.setTop (mkF m 213 #[vI u0, vI u1, vI u2, vI om, vI ol, vI p1, vI nv, vI im, vI ig, vI p2, vI mv, vI kv, vI tg, vR b739, vI kv, vI (mvOf om), .unset, .unset, .unset, .unset, .unset, .unset] [(.int ((mvOf om) ||| (24 : Int32))), (.int kv), (.ref b739)]))
             refine go _ _ (fun _ k => XS.i2b X743.here hx rfl (hb hby at_213) rfl k) ?_
             show G (T743.setTop (mkF m 214 #[vI u0, vI u1, vI u2, vI om, vI ol, vI p1, vI nv, vI im, vI ig, vI p2, vI mv, vI kv, vI tg, vR b739, vI kv, vI (mvOf om), .unset, .unset, .unset, .unset, .unset, .unset] [(.int (((mvOf om) ||| (24 : Int32)).toInt8.toInt32)), (.int kv), (.ref b739)]))
             refine own_bastore go X743 hx hZ e743 kN hkN (by omega) (g := (mkF m 214 #[vI u0, vI u1, vI u2, vI om, vI ol, vI p1, vI nv, vI im, vI ig, vI p2, vI mv, vI kv, vI tg, vR b739, vI kv, vI (mvOf om), .unset, .unset, .unset, .unset, .unset, .unset] [(.int (((mvOf om) ||| (24 : Int32)).toInt8.toInt32)), (.int kv), (.ref b739)])) rfl f742_0 rfl (hb hby at_214) ?_
             intro T979 h979 X979 e979 W979 A979
             obtain ⟨lc979, X979h, N979h⟩ := own_hide X979 (Fr.snoc X979 N743j g_b739)
             have Z980 : n0 ≤ h979.size := Nat.le_trans Z742 (Nat.le_of_eq W979.size.symm)
             have Y981 : kS ≤ h979.size := Nat.le_trans Y742 (Nat.le_of_eq W979.size.symm)
             have A979c := A979.cong (g := (fun i => .int ((upd g0 kN (((mvOf om) ||| (24 : Int32)).toInt8.toInt32)) i))) (own_upd (own_nb _))
             show G (T979.setTop (mkF m 215 #[vI u0, vI u1, vI u2, vI om, vI ol, vI p1, vI nv, vI im, vI ig, vI p2, vI mv, vI kv, vI tg, vR b739, vI kv, vI (mvOf om), .unset, .unset, .unset, .unset, .unset, .unset] []))
             refine go _ _ (fun _ k => XS.aload X979h.here hx rfl (hb hby at_215) rfl rfl  k) ?_
             show G (T979.setTop (mkF m 217 #[vI u0, vI u1, vI u2, vI om, vI ol, vI p1, vI nv, vI im, vI ig, vI p2, vI mv, vI kv, vI tg, vR b739, vI kv, vI (mvOf om), .unset, .unset, .unset, .unset, .unset, .unset] [(.ref b739)]))
             refine go _ _ (fun _ k => XS.iload X979h.here hx rfl (hb hby at_217) rfl  k) ?_
             show G (T979.setTop (mkF m 219 #[vI u0, vI u1, vI u2, vI om, vI ol, vI p1, vI nv, vI im, vI ig, vI p2, vI mv, vI kv, vI tg, vR b739, vI kv, vI (mvOf om), .unset, .unset, .unset, .unset, .unset, .unset] [(.int kv), (.ref b739)]))
             refine go _ _ (fun _ k => XS.iconst X979h.here hx rfl (hb hby at_219) k) ?_
             show G (T979.setTop (mkF m 220 #[vI u0, vI u1, vI u2, vI om, vI ol, vI p1, vI nv, vI im, vI ig, vI p2, vI mv, vI kv, vI tg, vR b739, vI kv, vI (mvOf om), .unset, .unset, .unset, .unset, .unset, .unset] [(.int (1 : Int32)), (.int kv), (.ref b739)]))
             refine go _ _ (fun _ k => XS.iadd X979h.here hx rfl (hb hby at_220) rfl k) ?_
             show G (T979.setTop (mkF m 221 #[vI u0, vI u1, vI u2, vI om, vI ol, vI p1, vI nv, vI im, vI ig, vI p2, vI mv, vI kv, vI tg, vR b739, vI kv, vI (mvOf om), .unset, .unset, .unset, .unset, .unset, .unset] [(.int (kv + (1 : Int32))), (.ref b739)]))
             refine go _ _ (fun _ k => XS.iload X979h.here hx rfl (hb hby at_221) rfl  k) ?_
             show G (T979.setTop (mkF m 223 #[vI u0, vI u1, vI u2, vI om, vI ol, vI p1, vI nv, vI im, vI ig, vI p2, vI mv, vI kv, vI tg, vR b739, vI kv, vI (mvOf om), .unset, .unset, .unset, .unset, .unset, .unset] [(.int nv), (.int (kv + (1 : Int32))), (.ref b739)]))
             refine go _ _ (fun _ k => XS.i2b X979h.here hx rfl (hb hby at_223) rfl k) ?_
             show G (T979.setTop (mkF m 224 #[vI u0, vI u1, vI u2, vI om, vI ol, vI p1, vI nv, vI im, vI ig, vI p2, vI mv, vI kv, vI tg, vR b739, vI kv, vI (mvOf om), .unset, .unset, .unset, .unset, .unset, .unset] [(.int (nv.toInt8.toInt32)), (.int (kv + (1 : Int32))), (.ref b739)]))
             refine own_bastore go X979h hx hZ e979 (kN + 1) (own_add hkN (j := 1) rfl (by omega)) (by omega) (g := (mkF m 224 #[vI u0, vI u1, vI u2, vI om, vI ol, vI p1, vI nv, vI im, vI ig, vI p2, vI mv, vI kv, vI tg, vR b739, vI kv, vI (mvOf om), .unset, .unset, .unset, .unset, .unset, .unset] [(.int (nv.toInt8.toInt32)), (.int (kv + (1 : Int32))), (.ref b739)])) rfl A979c rfl (hb hby at_224) ?_
             intro T982 h982 X982 e982 W982 A982
             obtain ⟨lc982, X982h, N982h⟩ := own_hide X982 (Fr.snoc X982 N979h g_b739)
             have Z983 : n0 ≤ h982.size := Nat.le_trans Z980 (Nat.le_of_eq W982.size.symm)
             have Y984 : kS ≤ h982.size := Nat.le_trans Y981 (Nat.le_of_eq W982.size.symm)
             have A982c := A982.cong (g := (fun i => .int ((upd (upd g0 kN (((mvOf om) ||| (24 : Int32)).toInt8.toInt32)) (kN + 1) (nv.toInt8.toInt32)) i))) (own_upd (own_nb _))
             show G (T982.setTop (mkF m 225 #[vI u0, vI u1, vI u2, vI om, vI ol, vI p1, vI nv, vI im, vI ig, vI p2, vI mv, vI kv, vI tg, vR b739, vI kv, vI (mvOf om), .unset, .unset, .unset, .unset, .unset, .unset] []))
             refine go _ _ (fun _ k => XS.iload X982h.here hx rfl (hb hby at_225) rfl  k) ?_
             show G (T982.setTop (mkF m 227 #[vI u0, vI u1, vI u2, vI om, vI ol, vI p1, vI nv, vI im, vI ig, vI p2, vI mv, vI kv, vI tg, vR b739, vI kv, vI (mvOf om), .unset, .unset, .unset, .unset, .unset, .unset] [(.int kv)]))
             refine go _ _ (fun _ k => XS.iconst X982h.here hx rfl (hb hby at_227) k) ?_
             show G (T982.setTop (mkF m 228 #[vI u0, vI u1, vI u2, vI om, vI ol, vI p1, vI nv, vI im, vI ig, vI p2, vI mv, vI kv, vI tg, vR b739, vI kv, vI (mvOf om), .unset, .unset, .unset, .unset, .unset, .unset] [(.int (2 : Int32)), (.int kv)]))
             refine go _ _ (fun _ k => XS.iadd X982h.here hx rfl (hb hby at_228) rfl k) ?_
             show G (T982.setTop (mkF m 229 #[vI u0, vI u1, vI u2, vI om, vI ol, vI p1, vI nv, vI im, vI ig, vI p2, vI mv, vI kv, vI tg, vR b739, vI kv, vI (mvOf om), .unset, .unset, .unset, .unset, .unset, .unset] [(.int (kv + (2 : Int32)))]))
             refine go _ _ (fun _ k => XS.istore X982h.here hx rfl (hb hby at_229) rfl (l' := #[vI u0, vI u1, vI u2, vI om, vI ol, vI p1, vI nv, vI im, vI ig, vI p2, vI mv, vI kv, vI tg, vR b739, vI (kv + (2 : Int32)), vI (mvOf om), .unset, .unset, .unset, .unset, .unset, .unset]) rfl k) ?_
             show G (T982.setTop (mkF m 231 #[vI u0, vI u1, vI u2, vI om, vI ol, vI p1, vI nv, vI im, vI ig, vI p2, vI mv, vI kv, vI tg, vR b739, vI (kv + (2 : Int32)), vI (mvOf om), .unset, .unset, .unset, .unset, .unset, .unset] []))
             refine go _ _ (fun _ k => XS.goto X982h.here hx rfl (pc0 := 231) (pc' := 251) rfl (hb hby at_231) (by decide) (by decide) k) ?_
             show G (T982.setTop (mkF m 251 #[vI u0, vI u1, vI u2, vI om, vI ol, vI p1, vI nv, vI im, vI ig, vI p2, vI mv, vI kv, vI tg, vR b739, vI (kv + (2 : Int32)), vI (mvOf om), .unset, .unset, .unset, .unset, .unset, .unset] []))
             have f985 := ((f742_1.wr W979).wr W982)
             have f986 := ((f742_2.wr W979).wr W982)
             have f987 := ((f742_3.wr W979).wr W982)
             have f988 := ((f742_4.wr W979).wr W982)
             exact J251 s kS hZ hown rb T982 _ h982 X982h e982 N982h  Z983 Y984 _ 2 _ (own_add hkN (j := 2) rfl (by omega)) (own_hdL hnN (by omega)) (fun i hi => (Head.upd (Head.upd (hV i hi) (by omega)) (by omega))) (fun i hi => by rw [upd_ne (by omega), upd_ne (by omega)]; exact hz i (by omega)) A982c f985 f986 f987 f988
           refine go _ _ (fun _ k => XS.iloadN X742.here hx rfl (hb hby at_184) rfl  k) ?_
           show G (T742.setTop (mkF m 185 #[vI u0, vI u1, vI u2, vI om, vI ol, vI p1, vI nv, vI im, vI ig, vI p2, vI mv, vI kv, vI tg, vR b739, vI kv, .unset, .unset, .unset, .unset, .unset, .unset, .unset] [(.int om)]))
           by_cases c989 : om = (0 : Int32)
           ·refine go _ _ (fun _ k => XS.ifYes X742.here hx rfl (pc0 := 185) (pc' := 194) rfl (hb hby at_185) rfl (Free.XT.i0_eq_t c989) (by decide) (by decide) k) ?_
            show G (T742.setTop (mkF m 194 #[vI u0, vI u1, vI u2, vI om, vI ol, vI p1, vI nv, vI im, vI ig, vI p2, vI mv, vI kv, vI tg, vR b739, vI kv, .unset, .unset, .unset, .unset, .unset, .unset, .unset] []))
            refine go _ _ (fun _ k => XS.sipush X742.here hx rfl (hb hby at_194) k) ?_
            show G (T742.setTop (mkF m 197 #[vI u0, vI u1, vI u2, vI om, vI ol, vI p1, vI nv, vI im, vI ig, vI p2, vI mv, vI kv, vI tg, vR b739, vI kv, .unset, .unset, .unset, .unset, .unset, .unset, .unset] [(.int (128 : Int32))]))
            exact J197 T742 _ X742 e742 N742 _ (mvOf_z c989)
           ·refine go _ _ (fun _ k => XS.ifNo X742.here hx rfl (hb hby at_185) rfl (Free.XT.i0_eq_f c989) k) ?_
            show G (T742.setTop (mkF m 188 #[vI u0, vI u1, vI u2, vI om, vI ol, vI p1, vI nv, vI im, vI ig, vI p2, vI mv, vI kv, vI tg, vR b739, vI kv, .unset, .unset, .unset, .unset, .unset, .unset, .unset] []))
            refine go _ _ (fun _ k => XS.sipush X742.here hx rfl (hb hby at_188) k) ?_
            show G (T742.setTop (mkF m 191 #[vI u0, vI u1, vI u2, vI om, vI ol, vI p1, vI nv, vI im, vI ig, vI p2, vI mv, vI kv, vI tg, vR b739, vI kv, .unset, .unset, .unset, .unset, .unset, .unset, .unset] [(.int (160 : Int32))]))
            refine go _ _ (fun _ k => XS.goto X742.here hx rfl (pc0 := 191) (pc' := 197) rfl (hb hby at_191) (by decide) (by decide) k) ?_
            show G (T742.setTop (mkF m 197 #[vI u0, vI u1, vI u2, vI om, vI ol, vI p1, vI nv, vI im, vI ig, vI p2, vI mv, vI kv, vI tg, vR b739, vI kv, .unset, .unset, .unset, .unset, .unset, .unset, .unset] [(.int (160 : Int32))]))
            exact J197 T742 _ X742 e742 N742 _ (mvOf_n c989)
          rcases hk4 with rfl | rfl | rfl | rfl
          ·clear hkv
           show G (T739.setTop (mkF m 144 #[vI u0, vI u1, vI u2, vI om, vI ol, vI p1, vI nv, vI im, vI ig, vI p2, vI mv, vI 0, vI tg, vR b739, .unset, .unset, .unset, .unset, .unset, .unset, .unset, .unset] []))
           refine go _ _ (fun _ k => XS.iload X739.here hx rfl (hb hby at_144) rfl  k) ?_
           show G (T739.setTop (mkF m 146 #[vI u0, vI u1, vI u2, vI om, vI ol, vI p1, vI nv, vI im, vI ig, vI p2, vI mv, vI 0, vI tg, vR b739, .unset, .unset, .unset, .unset, .unset, .unset, .unset, .unset] [(.int (0 : Int32))]))
           refine go _ _ (fun _ k => XS.iconst X739.here hx rfl (hb hby at_146) k) ?_
           show G (T739.setTop (mkF m 147 #[vI u0, vI u1, vI u2, vI om, vI ol, vI p1, vI nv, vI im, vI ig, vI p2, vI mv, vI 0, vI tg, vR b739, .unset, .unset, .unset, .unset, .unset, .unset, .unset, .unset] [(.int (1 : Int32)), (.int (0 : Int32))]))
           refine go _ _ (fun _ k => XS.icmpYes X739.here hx rfl (pc0 := 147) (pc' := 156) rfl (hb hby at_147) rfl (Free.XT.ii_lt_t (by decide)) (by decide) (by decide) k) ?_
           show G (T739.setTop (mkF m 156 #[vI u0, vI u1, vI u2, vI om, vI ol, vI p1, vI nv, vI im, vI ig, vI p2, vI mv, vI 0, vI tg, vR b739, .unset, .unset, .unset, .unset, .unset, .unset, .unset, .unset] []))
           refine go _ _ (fun _ k => XS.iload X739.here hx rfl (hb hby at_156) rfl  k) ?_
           show G (T739.setTop (mkF m 158 #[vI u0, vI u1, vI u2, vI om, vI ol, vI p1, vI nv, vI im, vI ig, vI p2, vI mv, vI 0, vI tg, vR b739, .unset, .unset, .unset, .unset, .unset, .unset, .unset, .unset] [(.int (0 : Int32))]))
           refine go _ _ (fun _ k => XS.iconst X739.here hx rfl (hb hby at_158) k) ?_
           show G (T739.setTop (mkF m 159 #[vI u0, vI u1, vI u2, vI om, vI ol, vI p1, vI nv, vI im, vI ig, vI p2, vI mv, vI 0, vI tg, vR b739, .unset, .unset, .unset, .unset, .unset, .unset, .unset, .unset] [(.int (2 : Int32)), (.int (0 : Int32))]))
           refine go _ _ (fun _ k => XS.icmpYes X739.here hx rfl (pc0 := 159) (pc' := 168) rfl (hb hby at_159) rfl (Free.XT.ii_lt_t (by decide)) (by decide) (by decide) k) ?_
           show G (T739.setTop (mkF m 168 #[vI u0, vI u1, vI u2, vI om, vI ol, vI p1, vI nv, vI im, vI ig, vI p2, vI mv, vI 0, vI tg, vR b739, .unset, .unset, .unset, .unset, .unset, .unset, .unset, .unset] []))
           refine go _ _ (fun _ k => XS.iload X739.here hx rfl (hb hby at_168) rfl  k) ?_
           show G (T739.setTop (mkF m 170 #[vI u0, vI u1, vI u2, vI om, vI ol, vI p1, vI nv, vI im, vI ig, vI p2, vI mv, vI 0, vI tg, vR b739, .unset, .unset, .unset, .unset, .unset, .unset, .unset, .unset] [(.int (0 : Int32))]))
           refine go _ _ (fun _ k => XS.iconst X739.here hx rfl (hb hby at_170) k) ?_
           show G (T739.setTop (mkF m 171 #[vI u0, vI u1, vI u2, vI om, vI ol, vI p1, vI nv, vI im, vI ig, vI p2, vI mv, vI 0, vI tg, vR b739, .unset, .unset, .unset, .unset, .unset, .unset, .unset, .unset] [(.int (3 : Int32)), (.int (0 : Int32))]))
           refine go _ _ (fun _ k => XS.icmpYes X739.here hx rfl (pc0 := 171) (pc' := 180) rfl (hb hby at_171) rfl (Free.XT.ii_lt_t (by decide)) (by decide) (by decide) k) ?_
           show G (T739.setTop (mkF m 180 #[vI u0, vI u1, vI u2, vI om, vI ol, vI p1, vI nv, vI im, vI ig, vI p2, vI mv, vI 0, vI tg, vR b739, .unset, .unset, .unset, .unset, .unset, .unset, .unset, .unset] []))
           refine go _ _ (fun _ k => XS.iload X739.here hx rfl (hb hby at_180) rfl  k) ?_
           show G (T739.setTop (mkF m 182 #[vI u0, vI u1, vI u2, vI om, vI ol, vI p1, vI nv, vI im, vI ig, vI p2, vI mv, vI 0, vI tg, vR b739, .unset, .unset, .unset, .unset, .unset, .unset, .unset, .unset] [(.int (0 : Int32))]))
           refine go _ _ (fun _ k => XS.istore X739.here hx rfl (hb hby at_182) rfl (l' := #[vI u0, vI u1, vI u2, vI om, vI ol, vI p1, vI nv, vI im, vI ig, vI p2, vI mv, vI 0, vI tg, vR b739, vI 0, .unset, .unset, .unset, .unset, .unset, .unset, .unset]) rfl k) ?_
           show G (T739.setTop (mkF m 184 #[vI u0, vI u1, vI u2, vI om, vI ol, vI p1, vI nv, vI im, vI ig, vI p2, vI mv, vI 0, vI tg, vR b739, vI 0, .unset, .unset, .unset, .unset, .unset, .unset, .unset] []))
           have f990 := (Szu.ext E739)
           have f991 := (Sza.ext E739)
           have f992 := (Szm.ext E739)
           have f993 := (Szt.ext E739)
           exact J184 s kS hZ hown rb T739 _ h739 X739 e739 N738j  Z740 Y741 _ 0 rfl (by decide) (fun i hi => absurd hi (Nat.not_lt_zero i)) (fun i hi => by rw [hz0]) Agz f990 f991 f992 f993
          ·clear hkv
           show G (T739.setTop (mkF m 144 #[vI u0, vI u1, vI u2, vI om, vI ol, vI p1, vI nv, vI im, vI ig, vI p2, vI mv, vI 1, vI tg, vR b739, .unset, .unset, .unset, .unset, .unset, .unset, .unset, .unset] []))
           refine go _ _ (fun _ k => XS.iload X739.here hx rfl (hb hby at_144) rfl  k) ?_
           show G (T739.setTop (mkF m 146 #[vI u0, vI u1, vI u2, vI om, vI ol, vI p1, vI nv, vI im, vI ig, vI p2, vI mv, vI 1, vI tg, vR b739, .unset, .unset, .unset, .unset, .unset, .unset, .unset, .unset] [(.int (1 : Int32))]))
           refine go _ _ (fun _ k => XS.iconst X739.here hx rfl (hb hby at_146) k) ?_
           show G (T739.setTop (mkF m 147 #[vI u0, vI u1, vI u2, vI om, vI ol, vI p1, vI nv, vI im, vI ig, vI p2, vI mv, vI 1, vI tg, vR b739, .unset, .unset, .unset, .unset, .unset, .unset, .unset, .unset] [(.int (1 : Int32)), (.int (1 : Int32))]))
           refine go _ _ (fun _ k => XS.icmpNo X739.here hx rfl (hb hby at_147) rfl (Free.XT.ii_lt_f (by decide)) k) ?_
           show G (T739.setTop (mkF m 150 #[vI u0, vI u1, vI u2, vI om, vI ol, vI p1, vI nv, vI im, vI ig, vI p2, vI mv, vI 1, vI tg, vR b739, .unset, .unset, .unset, .unset, .unset, .unset, .unset, .unset] []))
           refine go _ _ (fun _ k => XS.aload X739.here hx rfl (hb hby at_150) rfl rfl  k) ?_
           show G (T739.setTop (mkF m 152 #[vI u0, vI u1, vI u2, vI om, vI ol, vI p1, vI nv, vI im, vI ig, vI p2, vI mv, vI 1, vI tg, vR b739, .unset, .unset, .unset, .unset, .unset, .unset, .unset, .unset] [(.ref b739)]))
           refine go _ _ (fun _ k => XS.iconst X739.here hx rfl (hb hby at_152) k) ?_
           show G (T739.setTop (mkF m 153 #[vI u0, vI u1, vI u2, vI om, vI ol, vI p1, vI nv, vI im, vI ig, vI p2, vI mv, vI 1, vI tg, vR b739, .unset, .unset, .unset, .unset, .unset, .unset, .unset, .unset] [(.int (0 : Int32)), (.ref b739)]))
           refine go _ _ (fun _ k => XS.bipush X739.here hx rfl (hb hby at_153) k) ?_
           show G (T739.setTop (mkF m 155 #[vI u0, vI u1, vI u2, vI om, vI ol, vI p1, vI nv, vI im, vI ig, vI p2, vI mv, vI 1, vI tg, vR b739, .unset, .unset, .unset, .unset, .unset, .unset, .unset, .unset] [(.int (-127 : Int32)), (.int (0 : Int32)), (.ref b739)]))
           refine own_bastore go X739 hx hZ e739 0 rfl (by decide) (g := (mkF m 155 #[vI u0, vI u1, vI u2, vI om, vI ol, vI p1, vI nv, vI im, vI ig, vI p2, vI mv, vI 1, vI tg, vR b739, .unset, .unset, .unset, .unset, .unset, .unset, .unset, .unset] [(.int (-127 : Int32)), (.int (0 : Int32)), (.ref b739)])) rfl Agz rfl (hb hby at_155) ?_
           intro T994 h994 X994 e994 W994 A994
           obtain ⟨lc994, X994h, N994h⟩ := own_hide X994 (Fr.snoc X994 N738j g_b739)
           have Z995 : n0 ≤ h994.size := Nat.le_trans Z740 (Nat.le_of_eq W994.size.symm)
           have Y996 : kS ≤ h994.size := Nat.le_trans Y741 (Nat.le_of_eq W994.size.symm)
           have A994c := A994.cong (g := (fun i => .int ((upd gz 0 (-127 : Int32)) i))) (own_upd rfl)
           show G (T994.setTop (mkF m 156 #[vI u0, vI u1, vI u2, vI om, vI ol, vI p1, vI nv, vI im, vI ig, vI p2, vI mv, vI 1, vI tg, vR b739, .unset, .unset, .unset, .unset, .unset, .unset, .unset, .unset] []))
           refine go _ _ (fun _ k => XS.iload X994h.here hx rfl (hb hby at_156) rfl  k) ?_
           show G (T994.setTop (mkF m 158 #[vI u0, vI u1, vI u2, vI om, vI ol, vI p1, vI nv, vI im, vI ig, vI p2, vI mv, vI 1, vI tg, vR b739, .unset, .unset, .unset, .unset, .unset, .unset, .unset, .unset] [(.int (1 : Int32))]))
           refine go _ _ (fun _ k => XS.iconst X994h.here hx rfl (hb hby at_158) k) ?_
           show G (T994.setTop (mkF m 159 #[vI u0, vI u1, vI u2, vI om, vI ol, vI p1, vI nv, vI im, vI ig, vI p2, vI mv, vI 1, vI tg, vR b739, .unset, .unset, .unset, .unset, .unset, .unset, .unset, .unset] [(.int (2 : Int32)), (.int (1 : Int32))]))
           refine go _ _ (fun _ k => XS.icmpYes X994h.here hx rfl (pc0 := 159) (pc' := 168) rfl (hb hby at_159) rfl (Free.XT.ii_lt_t (by decide)) (by decide) (by decide) k) ?_
           show G (T994.setTop (mkF m 168 #[vI u0, vI u1, vI u2, vI om, vI ol, vI p1, vI nv, vI im, vI ig, vI p2, vI mv, vI 1, vI tg, vR b739, .unset, .unset, .unset, .unset, .unset, .unset, .unset, .unset] []))
           refine go _ _ (fun _ k => XS.iload X994h.here hx rfl (hb hby at_168) rfl  k) ?_
           show G (T994.setTop (mkF m 170 #[vI u0, vI u1, vI u2, vI om, vI ol, vI p1, vI nv, vI im, vI ig, vI p2, vI mv, vI 1, vI tg, vR b739, .unset, .unset, .unset, .unset, .unset, .unset, .unset, .unset] [(.int (1 : Int32))]))
           refine go _ _ (fun _ k => XS.iconst X994h.here hx rfl (hb hby at_170) k) ?_
           show G (T994.setTop (mkF m 171 #[vI u0, vI u1, vI u2, vI om, vI ol, vI p1, vI nv, vI im, vI ig, vI p2, vI mv, vI 1, vI tg, vR b739, .unset, .unset, .unset, .unset, .unset, .unset, .unset, .unset] [(.int (3 : Int32)), (.int (1 : Int32))]))
           refine go _ _ (fun _ k => XS.icmpYes X994h.here hx rfl (pc0 := 171) (pc' := 180) rfl (hb hby at_171) rfl (Free.XT.ii_lt_t (by decide)) (by decide) (by decide) k) ?_
           show G (T994.setTop (mkF m 180 #[vI u0, vI u1, vI u2, vI om, vI ol, vI p1, vI nv, vI im, vI ig, vI p2, vI mv, vI 1, vI tg, vR b739, .unset, .unset, .unset, .unset, .unset, .unset, .unset, .unset] []))
           refine go _ _ (fun _ k => XS.iload X994h.here hx rfl (hb hby at_180) rfl  k) ?_
           show G (T994.setTop (mkF m 182 #[vI u0, vI u1, vI u2, vI om, vI ol, vI p1, vI nv, vI im, vI ig, vI p2, vI mv, vI 1, vI tg, vR b739, .unset, .unset, .unset, .unset, .unset, .unset, .unset, .unset] [(.int (1 : Int32))]))
           refine go _ _ (fun _ k => XS.istore X994h.here hx rfl (hb hby at_182) rfl (l' := #[vI u0, vI u1, vI u2, vI om, vI ol, vI p1, vI nv, vI im, vI ig, vI p2, vI mv, vI 1, vI tg, vR b739, vI 1, .unset, .unset, .unset, .unset, .unset, .unset, .unset]) rfl k) ?_
           show G (T994.setTop (mkF m 184 #[vI u0, vI u1, vI u2, vI om, vI ol, vI p1, vI nv, vI im, vI ig, vI p2, vI mv, vI 1, vI tg, vR b739, vI 1, .unset, .unset, .unset, .unset, .unset, .unset, .unset] []))
           have V0 : Head (upd gz 0 (-127 : Int32)) 4 0 1 1 := own_hd81
           have f997 := ((Szu.ext E739).wr W994)
           have f998 := ((Sza.ext E739).wr W994)
           have f999 := ((Szm.ext E739).wr W994)
           have f1000 := ((Szt.ext E739).wr W994)
           exact J184 s kS hZ hown rb T994 _ h994 X994h e994 N994h  Z995 Y996 _ 1 rfl (by decide) (fun i hi => match i, hi with | 0, _ => V0 | n + 1, hi => absurd hi (by omega)) (fun i hi => by rw [upd_ne (by omega), hz0]) A994c f997 f998 f999 f1000
          ·clear hkv
           show G (T739.setTop (mkF m 144 #[vI u0, vI u1, vI u2, vI om, vI ol, vI p1, vI nv, vI im, vI ig, vI p2, vI mv, vI 2, vI tg, vR b739, .unset, .unset, .unset, .unset, .unset, .unset, .unset, .unset] []))
           refine go _ _ (fun _ k => XS.iload X739.here hx rfl (hb hby at_144) rfl  k) ?_
           show G (T739.setTop (mkF m 146 #[vI u0, vI u1, vI u2, vI om, vI ol, vI p1, vI nv, vI im, vI ig, vI p2, vI mv, vI 2, vI tg, vR b739, .unset, .unset, .unset, .unset, .unset, .unset, .unset, .unset] [(.int (2 : Int32))]))
           refine go _ _ (fun _ k => XS.iconst X739.here hx rfl (hb hby at_146) k) ?_
           show G (T739.setTop (mkF m 147 #[vI u0, vI u1, vI u2, vI om, vI ol, vI p1, vI nv, vI im, vI ig, vI p2, vI mv, vI 2, vI tg, vR b739, .unset, .unset, .unset, .unset, .unset, .unset, .unset, .unset] [(.int (1 : Int32)), (.int (2 : Int32))]))
           refine go _ _ (fun _ k => XS.icmpNo X739.here hx rfl (hb hby at_147) rfl (Free.XT.ii_lt_f (by decide)) k) ?_
           show G (T739.setTop (mkF m 150 #[vI u0, vI u1, vI u2, vI om, vI ol, vI p1, vI nv, vI im, vI ig, vI p2, vI mv, vI 2, vI tg, vR b739, .unset, .unset, .unset, .unset, .unset, .unset, .unset, .unset] []))
           refine go _ _ (fun _ k => XS.aload X739.here hx rfl (hb hby at_150) rfl rfl  k) ?_
           show G (T739.setTop (mkF m 152 #[vI u0, vI u1, vI u2, vI om, vI ol, vI p1, vI nv, vI im, vI ig, vI p2, vI mv, vI 2, vI tg, vR b739, .unset, .unset, .unset, .unset, .unset, .unset, .unset, .unset] [(.ref b739)]))
           refine go _ _ (fun _ k => XS.iconst X739.here hx rfl (hb hby at_152) k) ?_
           show G (T739.setTop (mkF m 153 #[vI u0, vI u1, vI u2, vI om, vI ol, vI p1, vI nv, vI im, vI ig, vI p2, vI mv, vI 2, vI tg, vR b739, .unset, .unset, .unset, .unset, .unset, .unset, .unset, .unset] [(.int (0 : Int32)), (.ref b739)]))
           refine go _ _ (fun _ k => XS.bipush X739.here hx rfl (hb hby at_153) k) ?_
           show G (T739.setTop (mkF m 155 #[vI u0, vI u1, vI u2, vI om, vI ol, vI p1, vI nv, vI im, vI ig, vI p2, vI mv, vI 2, vI tg, vR b739, .unset, .unset, .unset, .unset, .unset, .unset, .unset, .unset] [(.int (-127 : Int32)), (.int (0 : Int32)), (.ref b739)]))
           refine own_bastore go X739 hx hZ e739 0 rfl (by decide) (g := (mkF m 155 #[vI u0, vI u1, vI u2, vI om, vI ol, vI p1, vI nv, vI im, vI ig, vI p2, vI mv, vI 2, vI tg, vR b739, .unset, .unset, .unset, .unset, .unset, .unset, .unset, .unset] [(.int (-127 : Int32)), (.int (0 : Int32)), (.ref b739)])) rfl Agz rfl (hb hby at_155) ?_
           intro T1001 h1001 X1001 e1001 W1001 A1001
           obtain ⟨lc1001, X1001h, N1001h⟩ := own_hide X1001 (Fr.snoc X1001 N738j g_b739)
           have Z1002 : n0 ≤ h1001.size := Nat.le_trans Z740 (Nat.le_of_eq W1001.size.symm)
           have Y1003 : kS ≤ h1001.size := Nat.le_trans Y741 (Nat.le_of_eq W1001.size.symm)
           have A1001c := A1001.cong (g := (fun i => .int ((upd gz 0 (-127 : Int32)) i))) (own_upd rfl)
           show G (T1001.setTop (mkF m 156 #[vI u0, vI u1, vI u2, vI om, vI ol, vI p1, vI nv, vI im, vI ig, vI p2, vI mv, vI 2, vI tg, vR b739, .unset, .unset, .unset, .unset, .unset, .unset, .unset, .unset] []))
           refine go _ _ (fun _ k => XS.iload X1001h.here hx rfl (hb hby at_156) rfl  k) ?_
           show G (T1001.setTop (mkF m 158 #[vI u0, vI u1, vI u2, vI om, vI ol, vI p1, vI nv, vI im, vI ig, vI p2, vI mv, vI 2, vI tg, vR b739, .unset, .unset, .unset, .unset, .unset, .unset, .unset, .unset] [(.int (2 : Int32))]))
           refine go _ _ (fun _ k => XS.iconst X1001h.here hx rfl (hb hby at_158) k) ?_
           show G (T1001.setTop (mkF m 159 #[vI u0, vI u1, vI u2, vI om, vI ol, vI p1, vI nv, vI im, vI ig, vI p2, vI mv, vI 2, vI tg, vR b739, .unset, .unset, .unset, .unset, .unset, .unset, .unset, .unset] [(.int (2 : Int32)), (.int (2 : Int32))]))
           refine go _ _ (fun _ k => XS.icmpNo X1001h.here hx rfl (hb hby at_159) rfl (Free.XT.ii_lt_f (by decide)) k) ?_
           show G (T1001.setTop (mkF m 162 #[vI u0, vI u1, vI u2, vI om, vI ol, vI p1, vI nv, vI im, vI ig, vI p2, vI mv, vI 2, vI tg, vR b739, .unset, .unset, .unset, .unset, .unset, .unset, .unset, .unset] []))
           refine go _ _ (fun _ k => XS.aload X1001h.here hx rfl (hb hby at_162) rfl rfl  k) ?_
           show G (T1001.setTop (mkF m 164 #[vI u0, vI u1, vI u2, vI om, vI ol, vI p1, vI nv, vI im, vI ig, vI p2, vI mv, vI 2, vI tg, vR b739, .unset, .unset, .unset, .unset, .unset, .unset, .unset, .unset] [(.ref b739)]))
           refine go _ _ (fun _ k => XS.iconst X1001h.here hx rfl (hb hby at_164) k) ?_
           show G (T1001.setTop (mkF m 165 #[vI u0, vI u1, vI u2, vI om, vI ol, vI p1, vI nv, vI im, vI ig, vI p2, vI mv, vI 2, vI tg, vR b739, .unset, .unset, .unset, .unset, .unset, .unset, .unset, .unset] [(.int (1 : Int32)), (.ref b739)]))
           refine go _ _ (fun _ k => XS.bipush X1001h.here hx rfl (hb hby at_165) k) ?_
           show G (T1001.setTop (mkF m 167 #[vI u0, vI u1, vI u2, vI om, vI ol, vI p1, vI nv, vI im, vI ig, vI p2, vI mv, vI 2, vI tg, vR b739, .unset, .unset, .unset, .unset, .unset, .unset, .unset, .unset] [(.int (-127 : Int32)), (.int (1 : Int32)), (.ref b739)]))
           refine own_bastore go X1001h hx hZ e1001 1 rfl (by decide) (g := (mkF m 167 #[vI u0, vI u1, vI u2, vI om, vI ol, vI p1, vI nv, vI im, vI ig, vI p2, vI mv, vI 2, vI tg, vR b739, .unset, .unset, .unset, .unset, .unset, .unset, .unset, .unset] [(.int (-127 : Int32)), (.int (1 : Int32)), (.ref b739)])) rfl A1001c rfl (hb hby at_167) ?_
           intro T1004 h1004 X1004 e1004 W1004 A1004
           obtain ⟨lc1004, X1004h, N1004h⟩ := own_hide X1004 (Fr.snoc X1004 N1001h g_b739)
           have Z1005 : n0 ≤ h1004.size := Nat.le_trans Z1002 (Nat.le_of_eq W1004.size.symm)
           have Y1006 : kS ≤ h1004.size := Nat.le_trans Y1003 (Nat.le_of_eq W1004.size.symm)
           have A1004c := A1004.cong (g := (fun i => .int ((upd (upd gz 0 (-127 : Int32)) 1 (-127 : Int32)) i))) (own_upd rfl)
           show G (T1004.setTop (mkF m 168 #[vI u0, vI u1, vI u2, vI om, vI ol, vI p1, vI nv, vI im, vI ig, vI p2, vI mv, vI 2, vI tg, vR b739, .unset, .unset, .unset, .unset, .unset, .unset, .unset, .unset] []))
           refine go _ _ (fun _ k => XS.iload X1004h.here hx rfl (hb hby at_168) rfl  k) ?_
           show G (T1004.setTop (mkF m 170 #[vI u0, vI u1, vI u2, vI om, vI ol, vI p1, vI nv, vI im, vI ig, vI p2, vI mv, vI 2, vI tg, vR b739, .unset, .unset, .unset, .unset, .unset, .unset, .unset, .unset] [(.int (2 : Int32))]))
           refine go _ _ (fun _ k => XS.iconst X1004h.here hx rfl (hb hby at_170) k) ?_
           show G (T1004.setTop (mkF m 171 #[vI u0, vI u1, vI u2, vI om, vI ol, vI p1, vI nv, vI im, vI ig, vI p2, vI mv, vI 2, vI tg, vR b739, .unset, .unset, .unset, .unset, .unset, .unset, .unset, .unset] [(.int (3 : Int32)), (.int (2 : Int32))]))
           refine go _ _ (fun _ k => XS.icmpYes X1004h.here hx rfl (pc0 := 171) (pc' := 180) rfl (hb hby at_171) rfl (Free.XT.ii_lt_t (by decide)) (by decide) (by decide) k) ?_
           show G (T1004.setTop (mkF m 180 #[vI u0, vI u1, vI u2, vI om, vI ol, vI p1, vI nv, vI im, vI ig, vI p2, vI mv, vI 2, vI tg, vR b739, .unset, .unset, .unset, .unset, .unset, .unset, .unset, .unset] []))
           refine go _ _ (fun _ k => XS.iload X1004h.here hx rfl (hb hby at_180) rfl  k) ?_
           show G (T1004.setTop (mkF m 182 #[vI u0, vI u1, vI u2, vI om, vI ol, vI p1, vI nv, vI im, vI ig, vI p2, vI mv, vI 2, vI tg, vR b739, .unset, .unset, .unset, .unset, .unset, .unset, .unset, .unset] [(.int (2 : Int32))]))
           refine go _ _ (fun _ k => XS.istore X1004h.here hx rfl (hb hby at_182) rfl (l' := #[vI u0, vI u1, vI u2, vI om, vI ol, vI p1, vI nv, vI im, vI ig, vI p2, vI mv, vI 2, vI tg, vR b739, vI 2, .unset, .unset, .unset, .unset, .unset, .unset, .unset]) rfl k) ?_
           show G (T1004.setTop (mkF m 184 #[vI u0, vI u1, vI u2, vI om, vI ol, vI p1, vI nv, vI im, vI ig, vI p2, vI mv, vI 2, vI tg, vR b739, vI 2, .unset, .unset, .unset, .unset, .unset, .unset, .unset] []))
           have V0 : Head (upd (upd gz 0 (-127 : Int32)) 1 (-127 : Int32)) 4 0 1 1 := (Head.upd own_hd81 (by decide))
           have V1 : Head (upd (upd gz 0 (-127 : Int32)) 1 (-127 : Int32)) 4 1 1 1 := own_hd81
           have f1007 := (((Szu.ext E739).wr W1001).wr W1004)
           have f1008 := (((Sza.ext E739).wr W1001).wr W1004)
           have f1009 := (((Szm.ext E739).wr W1001).wr W1004)
           have f1010 := (((Szt.ext E739).wr W1001).wr W1004)
           exact J184 s kS hZ hown rb T1004 _ h1004 X1004h e1004 N1004h  Z1005 Y1006 _ 2 rfl (by decide) (fun i hi => match i, hi with | 0, _ => V0 | 1, _ => V1 | n + 2, hi => absurd hi (by omega)) (fun i hi => by rw [upd_ne (by omega), upd_ne (by omega), hz0]) A1004c f1007 f1008 f1009 f1010
          ·clear hkv
           show G (T739.setTop (mkF m 144 #[vI u0, vI u1, vI u2, vI om, vI ol, vI p1, vI nv, vI im, vI ig, vI p2, vI mv, vI 3, vI tg, vR b739, .unset, .unset, .unset, .unset, .unset, .unset, .unset, .unset] []))
           refine go _ _ (fun _ k => XS.iload X739.here hx rfl (hb hby at_144) rfl  k) ?_
           show G (T739.setTop (mkF m 146 #[vI u0, vI u1, vI u2, vI om, vI ol, vI p1, vI nv, vI im, vI ig, vI p2, vI mv, vI 3, vI tg, vR b739, .unset, .unset, .unset, .unset, .unset, .unset, .unset, .unset] [(.int (3 : Int32))]))
           refine go _ _ (fun _ k => XS.iconst X739.here hx rfl (hb hby at_146) k) ?_
           show G (T739.setTop (mkF m 147 #[vI u0, vI u1, vI u2, vI om, vI ol, vI p1, vI nv, vI im, vI ig, vI p2, vI mv, vI 3, vI tg, vR b739, .unset, .unset, .unset, .unset, .unset, .unset, .unset, .unset] [(.int (1 : Int32)), (.int (3 : Int32))]))
           refine go _ _ (fun _ k => XS.icmpNo X739.here hx rfl (hb hby at_147) rfl (Free.XT.ii_lt_f (by decide)) k) ?_
           show G (T739.setTop (mkF m 150 #[vI u0, vI u1, vI u2, vI om, vI ol, vI p1, vI nv, vI im, vI ig, vI p2, vI mv, vI 3, vI tg, vR b739, .unset, .unset, .unset, .unset, .unset, .unset, .unset, .unset] []))
           refine go _ _ (fun _ k => XS.aload X739.here hx rfl (hb hby at_150) rfl rfl  k) ?_
           show G (T739.setTop (mkF m 152 #[vI u0, vI u1, vI u2, vI om, vI ol, vI p1, vI nv, vI im, vI ig, vI p2, vI mv, vI 3, vI tg, vR b739, .unset, .unset, .unset, .unset, .unset, .unset, .unset, .unset] [(.ref b739)]))
           refine go _ _ (fun _ k => XS.iconst X739.here hx rfl (hb hby at_152) k) ?_
           show G (T739.setTop (mkF m 153 #[vI u0, vI u1, vI u2, vI om, vI ol, vI p1, vI nv, vI im, vI ig, vI p2, vI mv, vI 3, vI tg, vR b739, .unset, .unset, .unset, .unset, .unset, .unset, .unset, .unset] [(.int (0 : Int32)), (.ref b739)]))
           refine go _ _ (fun _ k => XS.bipush X739.here hx rfl (hb hby at_153) k) ?_
           show G (T739.setTop (mkF m 155 #[vI u0, vI u1, vI u2, vI om, vI ol, vI p1, vI nv, vI im, vI ig, vI p2, vI mv, vI 3, vI tg, vR b739, .unset, .unset, .unset, .unset, .unset, .unset, .unset, .unset] [(.int (-127 : Int32)), (.int (0 : Int32)), (.ref b739)]))
           refine own_bastore go X739 hx hZ e739 0 rfl (by decide) (g := (mkF m 155 #[vI u0, vI u1, vI u2, vI om, vI ol, vI p1, vI nv, vI im, vI ig, vI p2, vI mv, vI 3, vI tg, vR b739, .unset, .unset, .unset, .unset, .unset, .unset, .unset, .unset] [(.int (-127 : Int32)), (.int (0 : Int32)), (.ref b739)])) rfl Agz rfl (hb hby at_155) ?_
           intro T1011 h1011 X1011 e1011 W1011 A1011
           obtain ⟨lc1011, X1011h, N1011h⟩ := own_hide X1011 (Fr.snoc X1011 N738j g_b739)
           have Z1012 : n0 ≤ h1011.size := Nat.le_trans Z740 (Nat.le_of_eq W1011.size.symm)
           have Y1013 : kS ≤ h1011.size := Nat.le_trans Y741 (Nat.le_of_eq W1011.size.symm)
           have A1011c := A1011.cong (g := (fun i => .int ((upd gz 0 (-127 : Int32)) i))) (own_upd rfl)
           show G (T1011.setTop (mkF m 156 #[vI u0, vI u1, vI u2, vI om, vI ol, vI p1, vI nv, vI im, vI ig, vI p2, vI mv, vI 3, vI tg, vR b739, .unset, .unset, .unset, .unset, .unset, .unset, .unset, .unset] []))
           refine go _ _ (fun _ k => XS.iload X1011h.here hx rfl (hb hby at_156) rfl  k) ?_
           show G (T1011.setTop (mkF m 158 #[vI u0, vI u1, vI u2, vI om, vI ol, vI p1, vI nv, vI im, vI ig, vI p2, vI mv, vI 3, vI tg, vR b739, .unset, .unset, .unset, .unset, .unset, .unset, .unset, .unset] [(.int (3 : Int32))]))
           refine go _ _ (fun _ k => XS.iconst X1011h.here hx rfl (hb hby at_158) k) ?_
           show G (T1011.setTop (mkF m 159 #[vI u0, vI u1, vI u2, vI om, vI ol, vI p1, vI nv, vI im, vI ig, vI p2, vI mv, vI 3, vI tg, vR b739, .unset, .unset, .unset, .unset, .unset, .unset, .unset, .unset] [(.int (2 : Int32)), (.int (3 : Int32))]))
           refine go _ _ (fun _ k => XS.icmpNo X1011h.here hx rfl (hb hby at_159) rfl (Free.XT.ii_lt_f (by decide)) k) ?_
           show G (T1011.setTop (mkF m 162 #[vI u0, vI u1, vI u2, vI om, vI ol, vI p1, vI nv, vI im, vI ig, vI p2, vI mv, vI 3, vI tg, vR b739, .unset, .unset, .unset, .unset, .unset, .unset, .unset, .unset] []))
           refine go _ _ (fun _ k => XS.aload X1011h.here hx rfl (hb hby at_162) rfl rfl  k) ?_
           show G (T1011.setTop (mkF m 164 #[vI u0, vI u1, vI u2, vI om, vI ol, vI p1, vI nv, vI im, vI ig, vI p2, vI mv, vI 3, vI tg, vR b739, .unset, .unset, .unset, .unset, .unset, .unset, .unset, .unset] [(.ref b739)]))
           refine go _ _ (fun _ k => XS.iconst X1011h.here hx rfl (hb hby at_164) k) ?_
           show G (T1011.setTop (mkF m 165 #[vI u0, vI u1, vI u2, vI om, vI ol, vI p1, vI nv, vI im, vI ig, vI p2, vI mv, vI 3, vI tg, vR b739, .unset, .unset, .unset, .unset, .unset, .unset, .unset, .unset] [(.int (1 : Int32)), (.ref b739)]))
           refine go _ _ (fun _ k => XS.bipush X1011h.here hx rfl (hb hby at_165) k) ?_
           show G (T1011.setTop (mkF m 167 #[vI u0, vI u1, vI u2, vI om, vI ol, vI p1, vI nv, vI im, vI ig, vI p2, vI mv, vI 3, vI tg, vR b739, .unset, .unset, .unset, .unset, .unset, .unset, .unset, .unset] [(.int (-127 : Int32)), (.int (1 : Int32)), (.ref b739)]))
           refine own_bastore go X1011h hx hZ e1011 1 rfl (by decide) (g := (mkF m 167 #[vI u0, vI u1, vI u2, vI om, vI ol, vI p1, vI nv, vI im, vI ig, vI p2, vI mv, vI 3, vI tg, vR b739, .unset, .unset, .unset, .unset, .unset, .unset, .unset, .unset] [(.int (-127 : Int32)), (.int (1 : Int32)), (.ref b739)])) rfl A1011c rfl (hb hby at_167) ?_
           intro T1014 h1014 X1014 e1014 W1014 A1014
           obtain ⟨lc1014, X1014h, N1014h⟩ := own_hide X1014 (Fr.snoc X1014 N1011h g_b739)
           have Z1015 : n0 ≤ h1014.size := Nat.le_trans Z1012 (Nat.le_of_eq W1014.size.symm)
           have Y1016 : kS ≤ h1014.size := Nat.le_trans Y1013 (Nat.le_of_eq W1014.size.symm)
           have A1014c := A1014.cong (g := (fun i => .int ((upd (upd gz 0 (-127 : Int32)) 1 (-127 : Int32)) i))) (own_upd rfl)
           show G (T1014.setTop (mkF m 168 #[vI u0, vI u1, vI u2, vI om, vI ol, vI p1, vI nv, vI im, vI ig, vI p2, vI mv, vI 3, vI tg, vR b739, .unset, .unset, .unset, .unset, .unset, .unset, .unset, .unset] []))
           refine go _ _ (fun _ k => XS.iload X1014h.here hx rfl (hb hby at_168) rfl  k) ?_
           show G (T1014.setTop (mkF m 170 #[vI u0, vI u1, vI u2, vI om, vI ol, vI p1, vI nv, vI im, vI ig, vI p2, vI mv, vI 3, vI tg, vR b739, .unset, .unset, .unset, .unset, .unset, .unset, .unset, .unset] [(.int (3 : Int32))]))
           refine go _ _ (fun _ k => XS.iconst X1014h.here hx rfl (hb hby at_170) k) ?_
           show G (T1014.setTop (mkF m 171 #[vI u0, vI u1, vI u2, vI om, vI ol, vI p1, vI nv, vI im, vI ig, vI p2, vI mv, vI 3, vI tg, vR b739, .unset, .unset, .unset, .unset, .unset, .unset, .unset, .unset] [(.int (3 : Int32)), (.int (3 : Int32))]))
           refine go _ _ (fun _ k => XS.icmpNo X1014h.here hx rfl (hb hby at_171) rfl (Free.XT.ii_lt_f (by decide)) k) ?_
           show G (T1014.setTop (mkF m 174 #[vI u0, vI u1, vI u2, vI om, vI ol, vI p1, vI nv, vI im, vI ig, vI p2, vI mv, vI 3, vI tg, vR b739, .unset, .unset, .unset, .unset, .unset, .unset, .unset, .unset] []))
           refine go _ _ (fun _ k => XS.aload X1014h.here hx rfl (hb hby at_174) rfl rfl  k) ?_
           show G (T1014.setTop (mkF m 176 #[vI u0, vI u1, vI u2, vI om, vI ol, vI p1, vI nv, vI im, vI ig, vI p2, vI mv, vI 3, vI tg, vR b739, .unset, .unset, .unset, .unset, .unset, .unset, .unset, .unset] [(.ref b739)]))
           refine go _ _ (fun _ k => XS.iconst X1014h.here hx rfl (hb hby at_176) k) ?_
           show G (T1014.setTop (mkF m 177 #[vI u0, vI u1, vI u2, vI om, vI ol, vI p1, vI nv, vI im, vI ig, vI p2, vI mv, vI 3, vI tg, vR b739, .unset, .unset, .unset, .unset, .unset, .unset, .unset, .unset] [(.int (2 : Int32)), (.ref b739)]))
           refine go _ _ (fun _ k => XS.bipush X1014h.here hx rfl (hb hby at_177) k) ?_
           show G (T1014.setTop (mkF m 179 #[vI u0, vI u1, vI u2, vI om, vI ol, vI p1, vI nv, vI im, vI ig, vI p2, vI mv, vI 3, vI tg, vR b739, .unset, .unset, .unset, .unset, .unset, .unset, .unset, .unset] [(.int (-127 : Int32)), (.int (2 : Int32)), (.ref b739)]))
           refine own_bastore go X1014h hx hZ e1014 2 rfl (by decide) (g := (mkF m 179 #[vI u0, vI u1, vI u2, vI om, vI ol, vI p1, vI nv, vI im, vI ig, vI p2, vI mv, vI 3, vI tg, vR b739, .unset, .unset, .unset, .unset, .unset, .unset, .unset, .unset] [(.int (-127 : Int32)), (.int (2 : Int32)), (.ref b739)])) rfl A1014c rfl (hb hby at_179) ?_
           intro T1017 h1017 X1017 e1017 W1017 A1017
           obtain ⟨lc1017, X1017h, N1017h⟩ := own_hide X1017 (Fr.snoc X1017 N1014h g_b739)
           have Z1018 : n0 ≤ h1017.size := Nat.le_trans Z1015 (Nat.le_of_eq W1017.size.symm)
           have Y1019 : kS ≤ h1017.size := Nat.le_trans Y1016 (Nat.le_of_eq W1017.size.symm)
           have A1017c := A1017.cong (g := (fun i => .int ((upd (upd (upd gz 0 (-127 : Int32)) 1 (-127 : Int32)) 2 (-127 : Int32)) i))) (own_upd rfl)
           show G (T1017.setTop (mkF m 180 #[vI u0, vI u1, vI u2, vI om, vI ol, vI p1, vI nv, vI im, vI ig, vI p2, vI mv, vI 3, vI tg, vR b739, .unset, .unset, .unset, .unset, .unset, .unset, .unset, .unset] []))
           refine go _ _ (fun _ k => XS.iload X1017h.here hx rfl (hb hby at_180) rfl  k) ?_
           show G (T1017.setTop (mkF m 182 #[vI u0, vI u1, vI u2, vI om, vI ol, vI p1, vI nv, vI im, vI ig, vI p2, vI mv, vI 3, vI tg, vR b739, .unset, .unset, .unset, .unset, .unset, .unset, .unset, .unset] [(.int (3 : Int32))]))
           refine go _ _ (fun _ k => XS.istore X1017h.here hx rfl (hb hby at_182) rfl (l' := #[vI u0, vI u1, vI u2, vI om, vI ol, vI p1, vI nv, vI im, vI ig, vI p2, vI mv, vI 3, vI tg, vR b739, vI 3, .unset, .unset, .unset, .unset, .unset, .unset, .unset]) rfl k) ?_
           show G (T1017.setTop (mkF m 184 #[vI u0, vI u1, vI u2, vI om, vI ol, vI p1, vI nv, vI im, vI ig, vI p2, vI mv, vI 3, vI tg, vR b739, vI 3, .unset, .unset, .unset, .unset, .unset, .unset, .unset] []))
           have V0 : Head (upd (upd (upd gz 0 (-127 : Int32)) 1 (-127 : Int32)) 2 (-127 : Int32)) 4 0 1 1 := (Head.upd (Head.upd own_hd81 (by decide)) (by decide))
           have V1 : Head (upd (upd (upd gz 0 (-127 : Int32)) 1 (-127 : Int32)) 2 (-127 : Int32)) 4 1 1 1 := (Head.upd own_hd81 (by decide))
           have V2 : Head (upd (upd (upd gz 0 (-127 : Int32)) 1 (-127 : Int32)) 2 (-127 : Int32)) 4 2 1 1 := own_hd81
           have f1020 := ((((Szu.ext E739).wr W1011).wr W1014).wr W1017)
           have f1021 := ((((Sza.ext E739).wr W1011).wr W1014).wr W1017)
           have f1022 := ((((Szm.ext E739).wr W1011).wr W1014).wr W1017)
           have f1023 := ((((Szt.ext E739).wr W1011).wr W1014).wr W1017)
           exact J184 s kS hZ hown rb T1017 _ h1017 X1017h e1017 N1017h  Z1018 Y1019 _ 3 rfl (by decide) (fun i hi => match i, hi with | 0, _ => V0 | 1, _ => V1 | 2, _ => V2 | n + 3, hi => absurd hi (by omega)) (fun i hi => by rw [upd_ne (by omega), upd_ne (by omega), upd_ne (by omega), hz0]) A1017c f1020 f1021 f1022 f1023
         refine go _ _ (fun _ k => XS.iloadN X737.here hx rfl (hb hby at_125) rfl  k) ?_
         show G (T737.setTop (mkF m 126 #[vI u0, vI u1, vI u2, vI om, vI ol, vI p1, vI nv, vI im, vI ig, vI p2, vI mv, vI kv, .unset, .unset, .unset, .unset, .unset, .unset, .unset, .unset, .unset, .unset] [(.int u2)]))
         refine go _ _ (fun _ k => XS.iconst X737.here hx rfl (hb hby at_126) k) ?_
         show G (T737.setTop (mkF m 127 #[vI u0, vI u1, vI u2, vI om, vI ol, vI p1, vI nv, vI im, vI ig, vI p2, vI mv, vI kv, .unset, .unset, .unset, .unset, .unset, .unset, .unset, .unset, .unset, .unset] [(.int (4 : Int32)), (.int u2)]))
         refine go _ _ (fun _ k => XS.iand X737.here hx rfl (hb hby at_127) rfl k) ?_
         show G (T737.setTop (mkF m 128 #[vI u0, vI u1, vI u2, vI om, vI ol, vI p1, vI nv, vI im, vI ig, vI p2, vI mv, vI kv, .unset, .unset, .unset, .unset, .unset, .unset, .unset, .unset, .unset, .unset] [(.int (u2 &&& (4 : Int32)))]))
         by_cases c1024 : (u2 &&& (4 : Int32)) = (0 : Int32)
         ·refine go _ _ (fun _ k => XS.ifYes X737.here hx rfl (pc0 := 128) (pc' := 135) rfl (hb hby at_128) rfl (Free.XT.i0_eq_t c1024) (by decide) (by decide) k) ?_
          show G (T737.setTop (mkF m 135 #[vI u0, vI u1, vI u2, vI om, vI ol, vI p1, vI nv, vI im, vI ig, vI p2, vI mv, vI kv, .unset, .unset, .unset, .unset, .unset, .unset, .unset, .unset, .unset, .unset] []))
          refine go _ _ (fun _ k => XS.iconst X737.here hx rfl (hb hby at_135) k) ?_
          show G (T737.setTop (mkF m 136 #[vI u0, vI u1, vI u2, vI om, vI ol, vI p1, vI nv, vI im, vI ig, vI p2, vI mv, vI kv, .unset, .unset, .unset, .unset, .unset, .unset, .unset, .unset, .unset, .unset] [(.int (0 : Int32))]))
          exact J136 T737 _ X737 e737 N737j _ 
         ·refine go _ _ (fun _ k => XS.ifNo X737.here hx rfl (hb hby at_128) rfl (Free.XT.i0_eq_f c1024) k) ?_
          show G (T737.setTop (mkF m 131 #[vI u0, vI u1, vI u2, vI om, vI ol, vI p1, vI nv, vI im, vI ig, vI p2, vI mv, vI kv, .unset, .unset, .unset, .unset, .unset, .unset, .unset, .unset, .unset, .unset] []))
          refine go _ _ (fun _ k => XS.iconst X737.here hx rfl (hb hby at_131) k) ?_
          show G (T737.setTop (mkF m 132 #[vI u0, vI u1, vI u2, vI om, vI ol, vI p1, vI nv, vI im, vI ig, vI p2, vI mv, vI kv, .unset, .unset, .unset, .unset, .unset, .unset, .unset, .unset, .unset, .unset] [(.int (1 : Int32))]))
          refine go _ _ (fun _ k => XS.goto X737.here hx rfl (pc0 := 132) (pc' := 136) rfl (hb hby at_132) (by decide) (by decide) k) ?_
          show G (T737.setTop (mkF m 136 #[vI u0, vI u1, vI u2, vI om, vI ol, vI p1, vI nv, vI im, vI ig, vI p2, vI mv, vI kv, .unset, .unset, .unset, .unset, .unset, .unset, .unset, .unset, .unset, .unset] [(.int (1 : Int32))]))
          exact J136 T737 _ X737 e737 N737j _ 
        refine go _ _ (fun _ k => XS.iload X736.here hx rfl (hb hby at_100) rfl  k) ?_
        show G (T736.setTop (mkF m 102 #[vI u0, vI u1, vI u2, vI om, vI ol, vI p1, vI nv, vI im, vI ig, vI p2, .unset, .unset, .unset, .unset, .unset, .unset, .unset, .unset, .unset, .unset, .unset, .unset] [(.int ig), (.int ((u1.toUInt32 >>> ((2 : Int32) &&& 31).toUInt32).toInt32))]))
        by_cases c1025 : ig = (0 : Int32)
        ·refine go _ _ (fun _ k => XS.ifYes X736.here hx rfl (pc0 := 102) (pc' := 115) rfl (hb hby at_102) rfl (Free.XT.i0_eq_t c1025) (by decide) (by decide) k) ?_
         show G (T736.setTop (mkF m 115 #[vI u0, vI u1, vI u2, vI om, vI ol, vI p1, vI nv, vI im, vI ig, vI p2, .unset, .unset, .unset, .unset, .unset, .unset, .unset, .unset, .unset, .unset, .unset, .unset] [(.int ((u1.toUInt32 >>> ((2 : Int32) &&& 31).toUInt32).toInt32))]))
         refine go _ _ (fun _ k => XS.bipush X736.here hx rfl (hb hby at_115) k) ?_
         show G (T736.setTop (mkF m 117 #[vI u0, vI u1, vI u2, vI om, vI ol, vI p1, vI nv, vI im, vI ig, vI p2, .unset, .unset, .unset, .unset, .unset, .unset, .unset, .unset, .unset, .unset, .unset, .unset] [(.int (24 : Int32)), (.int ((u1.toUInt32 >>> ((2 : Int32) &&& 31).toUInt32).toInt32))]))
         exact J117 T736 _ X736 e736 N736j _ 24 rfl (by decide) (by rcases own_per im with q | q <;> rw [q] <;> decide) (fun _ => Nat.le_refl _)
        ·refine go _ _ (fun _ k => XS.ifNo X736.here hx rfl (hb hby at_102) rfl (Free.XT.i0_eq_f c1025) k) ?_
         show G (T736.setTop (mkF m 105 #[vI u0, vI u1, vI u2, vI om, vI ol, vI p1, vI nv, vI im, vI ig, vI p2, .unset, .unset, .unset, .unset, .unset, .unset, .unset, .unset, .unset, .unset, .unset, .unset] [(.int ((u1.toUInt32 >>> ((2 : Int32) &&& 31).toUInt32).toInt32))]))
         refine go _ _ (fun _ k => XS.bipush X736.here hx rfl (hb hby at_105) k) ?_
         show G (T736.setTop (mkF m 107 #[vI u0, vI u1, vI u2, vI om, vI ol, vI p1, vI nv, vI im, vI ig, vI p2, .unset, .unset, .unset, .unset, .unset, .unset, .unset, .unset, .unset, .unset, .unset, .unset] [(.int (56 : Int32)), (.int ((u1.toUInt32 >>> ((2 : Int32) &&& 31).toUInt32).toInt32))]))
         refine go _ _ (fun _ k => XS.iload X736.here hx rfl (hb hby at_107) rfl  k) ?_
         show G (T736.setTop (mkF m 109 #[vI u0, vI u1, vI u2, vI om, vI ol, vI p1, vI nv, vI im, vI ig, vI p2, .unset, .unset, .unset, .unset, .unset, .unset, .unset, .unset, .unset, .unset, .unset, .unset] [(.int p2), (.int (56 : Int32)), (.int ((u1.toUInt32 >>> ((2 : Int32) &&& 31).toUInt32).toInt32))]))
         refine go _ _ (fun _ k => XS.idiv X736.here hx rfl (hb hby at_109) rfl (own_nz hp2 (by rcases own_per im with q | q <;> omega)) k) ?_
         show G (T736.setTop (mkF m 110 #[vI u0, vI u1, vI u2, vI om, vI ol, vI p1, vI nv, vI im, vI ig, vI p2, .unset, .unset, .unset, .unset, .unset, .unset, .unset, .unset, .unset, .unset, .unset, .unset] [(.int ((56 : Int32) / p2)), (.int ((u1.toUInt32 >>> ((2 : Int32) &&& 31).toUInt32).toInt32))]))
         refine go _ _ (fun _ k => XS.iconst X736.here hx rfl (hb hby at_110) k) ?_
         show G (T736.setTop (mkF m 111 #[vI u0, vI u1, vI u2, vI om, vI ol, vI p1, vI nv, vI im, vI ig, vI p2, .unset, .unset, .unset, .unset, .unset, .unset, .unset, .unset, .unset, .unset, .unset, .unset] [(.int (1 : Int32)), (.int ((56 : Int32) / p2)), (.int ((u1.toUInt32 >>> ((2 : Int32) &&& 31).toUInt32).toInt32))]))
         refine go _ _ (fun _ k => XS.iadd X736.here hx rfl (hb hby at_111) rfl k) ?_
         show G (T736.setTop (mkF m 112 #[vI u0, vI u1, vI u2, vI om, vI ol, vI p1, vI nv, vI im, vI ig, vI p2, .unset, .unset, .unset, .unset, .unset, .unset, .unset, .unset, .unset, .unset, .unset, .unset] [(.int (((56 : Int32) / p2) + (1 : Int32))), (.int ((u1.toUInt32 >>> ((2 : Int32) &&& 31).toUInt32).toInt32))]))
         refine go _ _ (fun _ k => XS.goto X736.here hx rfl (pc0 := 112) (pc' := 117) rfl (hb hby at_112) (by decide) (by decide) k) ?_
         show G (T736.setTop (mkF m 117 #[vI u0, vI u1, vI u2, vI om, vI ol, vI p1, vI nv, vI im, vI ig, vI p2, .unset, .unset, .unset, .unset, .unset, .unset, .unset, .unset, .unset, .unset, .unset, .unset] [(.int (((56 : Int32) / p2) + (1 : Int32))), (.int ((u1.toUInt32 >>> ((2 : Int32) &&& 31).toUInt32).toInt32))]))
         exact J117 T736 _ X736 e736 N736j _ (56 / perOf im + 1) (own_add (own_dv (kk := 56) rfl hp2 (own_per im)) (j := 1) rfl (by rcases own_per im with q | q <;> rw [q] <;> decide)) (by rcases own_per im with q | q <;> rw [q] <;> decide) (by rcases own_per im with q | q <;> rw [q] <;> decide) (fun z => absurd z c1025)
       refine go _ _ (fun _ k => XS.iload X735.here hx rfl (hb hby at_85) rfl  k) ?_
       show G (T735.setTop (mkF m 87 #[vI u0, vI u1, vI u2, vI om, vI ol, vI p1, vI nv, vI im, vI ig, .unset, .unset, .unset, .unset, .unset, .unset, .unset, .unset, .unset, .unset, .unset, .unset, .unset] [(.int im)]))
       by_cases c1026 : im = (0 : Int32)
       ·refine go _ _ (fun _ k => XS.ifYes X735.here hx rfl (pc0 := 87) (pc' := 94) rfl (hb hby at_87) rfl (Free.XT.i0_eq_t c1026) (by decide) (by decide) k) ?_
        show G (T735.setTop (mkF m 94 #[vI u0, vI u1, vI u2, vI om, vI ol, vI p1, vI nv, vI im, vI ig, .unset, .unset, .unset, .unset, .unset, .unset, .unset, .unset, .unset, .unset, .unset, .unset, .unset] []))
        refine go _ _ (fun _ k => XS.iconst X735.here hx rfl (hb hby at_94) k) ?_
        show G (T735.setTop (mkF m 95 #[vI u0, vI u1, vI u2, vI om, vI ol, vI p1, vI nv, vI im, vI ig, .unset, .unset, .unset, .unset, .unset, .unset, .unset, .unset, .unset, .unset, .unset, .unset, .unset] [(.int (1 : Int32))]))
        exact J95 T735 _ X735 e735 N735j _ (by rw [perOf_z c1026]; rfl)
       ·refine go _ _ (fun _ k => XS.ifNo X735.here hx rfl (hb hby at_87) rfl (Free.XT.i0_eq_f c1026) k) ?_
        show G (T735.setTop (mkF m 90 #[vI u0, vI u1, vI u2, vI om, vI ol, vI p1, vI nv, vI im, vI ig, .unset, .unset, .unset, .unset, .unset, .unset, .unset, .unset, .unset, .unset, .unset, .unset, .unset] []))
        refine go _ _ (fun _ k => XS.iconst X735.here hx rfl (hb hby at_90) k) ?_
        show G (T735.setTop (mkF m 91 #[vI u0, vI u1, vI u2, vI om, vI ol, vI p1, vI nv, vI im, vI ig, .unset, .unset, .unset, .unset, .unset, .unset, .unset, .unset, .unset, .unset, .unset, .unset, .unset] [(.int (2 : Int32))]))
        refine go _ _ (fun _ k => XS.goto X735.here hx rfl (pc0 := 91) (pc' := 95) rfl (hb hby at_91) (by decide) (by decide) k) ?_
        show G (T735.setTop (mkF m 95 #[vI u0, vI u1, vI u2, vI om, vI ol, vI p1, vI nv, vI im, vI ig, .unset, .unset, .unset, .unset, .unset, .unset, .unset, .unset, .unset, .unset, .unset, .unset, .unset] [(.int (2 : Int32))]))
        exact J95 T735 _ X735 e735 N735j _ (by rw [perOf_n c1026]; rfl)
      refine go _ _ (fun _ k => XS.iloadN X734.here hx rfl (hb hby at_72) rfl  k) ?_
      show G (T734.setTop (mkF m 73 #[vI u0, vI u1, vI u2, vI om, vI ol, vI p1, vI nv, vI im, .unset, .unset, .unset, .unset, .unset, .unset, .unset, .unset, .unset, .unset, .unset, .unset, .unset, .unset] [(.int u1)]))
      refine go _ _ (fun _ k => XS.iconst X734.here hx rfl (hb hby at_73) k) ?_
      show G (T734.setTop (mkF m 74 #[vI u0, vI u1, vI u2, vI om, vI ol, vI p1, vI nv, vI im, .unset, .unset, .unset, .unset, .unset, .unset, .unset, .unset, .unset, .unset, .unset, .unset, .unset, .unset] [(.int (2 : Int32)), (.int u1)]))
      refine go _ _ (fun _ k => XS.iand X734.here hx rfl (hb hby at_74) rfl k) ?_
      show G (T734.setTop (mkF m 75 #[vI u0, vI u1, vI u2, vI om, vI ol, vI p1, vI nv, vI im, .unset, .unset, .unset, .unset, .unset, .unset, .unset, .unset, .unset, .unset, .unset, .unset, .unset, .unset] [(.int (u1 &&& (2 : Int32)))]))
      by_cases c1027 : (u1 &&& (2 : Int32)) = (0 : Int32)
      ·refine go _ _ (fun _ k => XS.ifYes X734.here hx rfl (pc0 := 75) (pc' := 82) rfl (hb hby at_75) rfl (Free.XT.i0_eq_t c1027) (by decide) (by decide) k) ?_
       show G (T734.setTop (mkF m 82 #[vI u0, vI u1, vI u2, vI om, vI ol, vI p1, vI nv, vI im, .unset, .unset, .unset, .unset, .unset, .unset, .unset, .unset, .unset, .unset, .unset, .unset, .unset, .unset] []))
       refine go _ _ (fun _ k => XS.iconst X734.here hx rfl (hb hby at_82) k) ?_
       show G (T734.setTop (mkF m 83 #[vI u0, vI u1, vI u2, vI om, vI ol, vI p1, vI nv, vI im, .unset, .unset, .unset, .unset, .unset, .unset, .unset, .unset, .unset, .unset, .unset, .unset, .unset, .unset] [(.int (0 : Int32))]))
       exact J83 T734 _ X734 e734 N734j _ 
      ·refine go _ _ (fun _ k => XS.ifNo X734.here hx rfl (hb hby at_75) rfl (Free.XT.i0_eq_f c1027) k) ?_
       show G (T734.setTop (mkF m 78 #[vI u0, vI u1, vI u2, vI om, vI ol, vI p1, vI nv, vI im, .unset, .unset, .unset, .unset, .unset, .unset, .unset, .unset, .unset, .unset, .unset, .unset, .unset, .unset] []))
       refine go _ _ (fun _ k => XS.iconst X734.here hx rfl (hb hby at_78) k) ?_
       show G (T734.setTop (mkF m 79 #[vI u0, vI u1, vI u2, vI om, vI ol, vI p1, vI nv, vI im, .unset, .unset, .unset, .unset, .unset, .unset, .unset, .unset, .unset, .unset, .unset, .unset, .unset, .unset] [(.int (1 : Int32))]))
       refine go _ _ (fun _ k => XS.goto X734.here hx rfl (pc0 := 79) (pc' := 83) rfl (hb hby at_79) (by decide) (by decide) k) ?_
       show G (T734.setTop (mkF m 83 #[vI u0, vI u1, vI u2, vI om, vI ol, vI p1, vI nv, vI im, .unset, .unset, .unset, .unset, .unset, .unset, .unset, .unset, .unset, .unset, .unset, .unset, .unset, .unset] [(.int (1 : Int32))]))
       exact J83 T734 _ X734 e734 N734j _ 
     refine go _ _ (fun _ k => XS.iloadN X733.here hx rfl (hb hby at_59) rfl  k) ?_
     show G (T733.setTop (mkF m 60 #[vI u0, vI u1, vI u2, vI om, vI ol, vI p1, vI nv, .unset, .unset, .unset, .unset, .unset, .unset, .unset, .unset, .unset, .unset, .unset, .unset, .unset, .unset, .unset] [(.int u1)]))
     refine go _ _ (fun _ k => XS.iconst X733.here hx rfl (hb hby at_60) k) ?_
     show G (T733.setTop (mkF m 61 #[vI u0, vI u1, vI u2, vI om, vI ol, vI p1, vI nv, .unset, .unset, .unset, .unset, .unset, .unset, .unset, .unset, .unset, .unset, .unset, .unset, .unset, .unset, .unset] [(.int (1 : Int32)), (.int u1)]))
     refine go _ _ (fun _ k => XS.iand X733.here hx rfl (hb hby at_61) rfl k) ?_
     show G (T733.setTop (mkF m 62 #[vI u0, vI u1, vI u2, vI om, vI ol, vI p1, vI nv, .unset, .unset, .unset, .unset, .unset, .unset, .unset, .unset, .unset, .unset, .unset, .unset, .unset, .unset, .unset] [(.int (u1 &&& (1 : Int32)))]))
     by_cases c1028 : (u1 &&& (1 : Int32)) = (0 : Int32)
     ·refine go _ _ (fun _ k => XS.ifYes X733.here hx rfl (pc0 := 62) (pc' := 69) rfl (hb hby at_62) rfl (Free.XT.i0_eq_t c1028) (by decide) (by decide) k) ?_
      show G (T733.setTop (mkF m 69 #[vI u0, vI u1, vI u2, vI om, vI ol, vI p1, vI nv, .unset, .unset, .unset, .unset, .unset, .unset, .unset, .unset, .unset, .unset, .unset, .unset, .unset, .unset, .unset] []))
      refine go _ _ (fun _ k => XS.iconst X733.here hx rfl (hb hby at_69) k) ?_
      show G (T733.setTop (mkF m 70 #[vI u0, vI u1, vI u2, vI om, vI ol, vI p1, vI nv, .unset, .unset, .unset, .unset, .unset, .unset, .unset, .unset, .unset, .unset, .unset, .unset, .unset, .unset, .unset] [(.int (0 : Int32))]))
      exact J70 T733 _ X733 e733 N733j _ 
     ·refine go _ _ (fun _ k => XS.ifNo X733.here hx rfl (hb hby at_62) rfl (Free.XT.i0_eq_f c1028) k) ?_
      show G (T733.setTop (mkF m 65 #[vI u0, vI u1, vI u2, vI om, vI ol, vI p1, vI nv, .unset, .unset, .unset, .unset, .unset, .unset, .unset, .unset, .unset, .unset, .unset, .unset, .unset, .unset, .unset] []))
      refine go _ _ (fun _ k => XS.iconst X733.here hx rfl (hb hby at_65) k) ?_
      show G (T733.setTop (mkF m 66 #[vI u0, vI u1, vI u2, vI om, vI ol, vI p1, vI nv, .unset, .unset, .unset, .unset, .unset, .unset, .unset, .unset, .unset, .unset, .unset, .unset, .unset, .unset, .unset] [(.int (1 : Int32))]))
      refine go _ _ (fun _ k => XS.goto X733.here hx rfl (pc0 := 66) (pc' := 70) rfl (hb hby at_66) (by decide) (by decide) k) ?_
      show G (T733.setTop (mkF m 70 #[vI u0, vI u1, vI u2, vI om, vI ol, vI p1, vI nv, .unset, .unset, .unset, .unset, .unset, .unset, .unset, .unset, .unset, .unset, .unset, .unset, .unset, .unset, .unset] [(.int (1 : Int32))]))
      exact J70 T733 _ X733 e733 N733j _ 
    refine go _ _ (fun _ k => XS.iload X732.here hx rfl (hb hby at_40) rfl  k) ?_
    show G (T732.setTop (mkF m 42 #[vI u0, vI u1, vI u2, vI om, vI ol, vI p1, .unset, .unset, .unset, .unset, .unset, .unset, .unset, .unset, .unset, .unset, .unset, .unset, .unset, .unset, .unset, .unset] [(.int ol), (.int ((u0.toUInt32 >>> ((2 : Int32) &&& 31).toUInt32).toInt32)), (.int (1 : Int32))]))
    by_cases c1029 : ol = (0 : Int32)
    ·refine go _ _ (fun _ k => XS.ifYes X732.here hx rfl (pc0 := 42) (pc' := 53) rfl (hb hby at_42) rfl (Free.XT.i0_eq_t c1029) (by decide) (by decide) k) ?_
     show G (T732.setTop (mkF m 53 #[vI u0, vI u1, vI u2, vI om, vI ol, vI p1, .unset, .unset, .unset, .unset, .unset, .unset, .unset, .unset, .unset, .unset, .unset, .unset, .unset, .unset, .unset, .unset] [(.int ((u0.toUInt32 >>> ((2 : Int32) &&& 31).toUInt32).toInt32)), (.int (1 : Int32))]))
     refine go _ _ (fun _ k => XS.bipush X732.here hx rfl (hb hby at_53) k) ?_
     show G (T732.setTop (mkF m 55 #[vI u0, vI u1, vI u2, vI om, vI ol, vI p1, .unset, .unset, .unset, .unset, .unset, .unset, .unset, .unset, .unset, .unset, .unset, .unset, .unset, .unset, .unset, .unset] [(.int (23 : Int32)), (.int ((u0.toUInt32 >>> ((2 : Int32) &&& 31).toUInt32).toInt32)), (.int (1 : Int32))]))
     exact J55 T732 _ X732 e732 N732j _ 23 rfl (by decide) (by rcases own_per om with q | q <;> rw [q] <;> decide) (fun _ => Nat.le_refl _)
    ·refine go _ _ (fun _ k => XS.ifNo X732.here hx rfl (hb hby at_42) rfl (Free.XT.i0_eq_f c1029) k) ?_
     show G (T732.setTop (mkF m 45 #[vI u0, vI u1, vI u2, vI om, vI ol, vI p1, .unset, .unset, .unset, .unset, .unset, .unset, .unset, .unset, .unset, .unset, .unset, .unset, .unset, .unset, .unset, .unset] [(.int ((u0.toUInt32 >>> ((2 : Int32) &&& 31).toUInt32).toInt32)), (.int (1 : Int32))]))
     refine go _ _ (fun _ k => XS.bipush X732.here hx rfl (hb hby at_45) k) ?_
     show G (T732.setTop (mkF m 47 #[vI u0, vI u1, vI u2, vI om, vI ol, vI p1, .unset, .unset, .unset, .unset, .unset, .unset, .unset, .unset, .unset, .unset, .unset, .unset, .unset, .unset, .unset, .unset] [(.int (58 : Int32)), (.int ((u0.toUInt32 >>> ((2 : Int32) &&& 31).toUInt32).toInt32)), (.int (1 : Int32))]))
     refine go _ _ (fun _ k => XS.iload X732.here hx rfl (hb hby at_47) rfl  k) ?_
     show G (T732.setTop (mkF m 49 #[vI u0, vI u1, vI u2, vI om, vI ol, vI p1, .unset, .unset, .unset, .unset, .unset, .unset, .unset, .unset, .unset, .unset, .unset, .unset, .unset, .unset, .unset, .unset] [(.int p1), (.int (58 : Int32)), (.int ((u0.toUInt32 >>> ((2 : Int32) &&& 31).toUInt32).toInt32)), (.int (1 : Int32))]))
     refine go _ _ (fun _ k => XS.idiv X732.here hx rfl (hb hby at_49) rfl (own_nz hp1 (by rcases own_per om with q | q <;> omega)) k) ?_
     show G (T732.setTop (mkF m 50 #[vI u0, vI u1, vI u2, vI om, vI ol, vI p1, .unset, .unset, .unset, .unset, .unset, .unset, .unset, .unset, .unset, .unset, .unset, .unset, .unset, .unset, .unset, .unset] [(.int ((58 : Int32) / p1)), (.int ((u0.toUInt32 >>> ((2 : Int32) &&& 31).toUInt32).toInt32)), (.int (1 : Int32))]))
     refine go _ _ (fun _ k => XS.goto X732.here hx rfl (pc0 := 50) (pc' := 55) rfl (hb hby at_50) (by decide) (by decide) k) ?_
     show G (T732.setTop (mkF m 55 #[vI u0, vI u1, vI u2, vI om, vI ol, vI p1, .unset, .unset, .unset, .unset, .unset, .unset, .unset, .unset, .unset, .unset, .unset, .unset, .unset, .unset, .unset, .unset] [(.int ((58 : Int32) / p1)), (.int ((u0.toUInt32 >>> ((2 : Int32) &&& 31).toUInt32).toInt32)), (.int (1 : Int32))]))
     exact J55 T732 _ X732 e732 N732j _ (58 / perOf om) (own_dv (kk := 58) rfl hp1 (own_per om)) (by rcases own_per om with q | q <;> rw [q] <;> decide) (by rcases own_per om with q | q <;> rw [q] <;> decide) (fun z => absurd z c1029)
   refine go _ _ (fun _ k => XS.iloadN X731.here hx rfl (hb hby at_25) rfl  k) ?_
   show G (T731.setTop (mkF m 26 #[vI u0, vI u1, vI u2, vI om, vI ol, .unset, .unset, .unset, .unset, .unset, .unset, .unset, .unset, .unset, .unset, .unset, .unset, .unset, .unset, .unset, .unset, .unset] [(.int om)]))
   by_cases c1030 : om = (0 : Int32)
   ·refine go _ _ (fun _ k => XS.ifYes X731.here hx rfl (pc0 := 26) (pc' := 33) rfl (hb hby at_26) rfl (Free.XT.i0_eq_t c1030) (by decide) (by decide) k) ?_
    show G (T731.setTop (mkF m 33 #[vI u0, vI u1, vI u2, vI om, vI ol, .unset, .unset, .unset, .unset, .unset, .unset, .unset, .unset, .unset, .unset, .unset, .unset, .unset, .unset, .unset, .unset, .unset] []))
    refine go _ _ (fun _ k => XS.iconst X731.here hx rfl (hb hby at_33) k) ?_
    show G (T731.setTop (mkF m 34 #[vI u0, vI u1, vI u2, vI om, vI ol, .unset, .unset, .unset, .unset, .unset, .unset, .unset, .unset, .unset, .unset, .unset, .unset, .unset, .unset, .unset, .unset, .unset] [(.int (1 : Int32))]))
    exact J34 T731 _ X731 e731 N731j _ (by rw [perOf_z c1030]; rfl)
   ·refine go _ _ (fun _ k => XS.ifNo X731.here hx rfl (hb hby at_26) rfl (Free.XT.i0_eq_f c1030) k) ?_
    show G (T731.setTop (mkF m 29 #[vI u0, vI u1, vI u2, vI om, vI ol, .unset, .unset, .unset, .unset, .unset, .unset, .unset, .unset, .unset, .unset, .unset, .unset, .unset, .unset, .unset, .unset, .unset] []))
    refine go _ _ (fun _ k => XS.iconst X731.here hx rfl (hb hby at_29) k) ?_
    show G (T731.setTop (mkF m 30 #[vI u0, vI u1, vI u2, vI om, vI ol, .unset, .unset, .unset, .unset, .unset, .unset, .unset, .unset, .unset, .unset, .unset, .unset, .unset, .unset, .unset, .unset, .unset] [(.int (2 : Int32))]))
    refine go _ _ (fun _ k => XS.goto X731.here hx rfl (pc0 := 30) (pc' := 34) rfl (hb hby at_30) (by decide) (by decide) k) ?_
    show G (T731.setTop (mkF m 34 #[vI u0, vI u1, vI u2, vI om, vI ol, .unset, .unset, .unset, .unset, .unset, .unset, .unset, .unset, .unset, .unset, .unset, .unset, .unset, .unset, .unset, .unset, .unset] [(.int (2 : Int32))]))
    exact J34 T731 _ X731 e731 N731j _ (by rw [perOf_n c1030]; rfl)
  refine go _ _ (fun _ k => XS.iloadN X730.here hx rfl (hb hby at_12) rfl  k) ?_
  show G (T730.setTop (mkF m 13 #[vI u0, vI u1, vI u2, vI om, .unset, .unset, .unset, .unset, .unset, .unset, .unset, .unset, .unset, .unset, .unset, .unset, .unset, .unset, .unset, .unset, .unset, .unset] [(.int u0)]))
  refine go _ _ (fun _ k => XS.iconst X730.here hx rfl (hb hby at_13) k) ?_
  show G (T730.setTop (mkF m 14 #[vI u0, vI u1, vI u2, vI om, .unset, .unset, .unset, .unset, .unset, .unset, .unset, .unset, .unset, .unset, .unset, .unset, .unset, .unset, .unset, .unset, .unset, .unset] [(.int (2 : Int32)), (.int u0)]))
  refine go _ _ (fun _ k => XS.iand X730.here hx rfl (hb hby at_14) rfl k) ?_
  show G (T730.setTop (mkF m 15 #[vI u0, vI u1, vI u2, vI om, .unset, .unset, .unset, .unset, .unset, .unset, .unset, .unset, .unset, .unset, .unset, .unset, .unset, .unset, .unset, .unset, .unset, .unset] [(.int (u0 &&& (2 : Int32)))]))
  by_cases c1031 : (u0 &&& (2 : Int32)) = (0 : Int32)
  ·refine go _ _ (fun _ k => XS.ifYes X730.here hx rfl (pc0 := 15) (pc' := 22) rfl (hb hby at_15) rfl (Free.XT.i0_eq_t c1031) (by decide) (by decide) k) ?_
   show G (T730.setTop (mkF m 22 #[vI u0, vI u1, vI u2, vI om, .unset, .unset, .unset, .unset, .unset, .unset, .unset, .unset, .unset, .unset, .unset, .unset, .unset, .unset, .unset, .unset, .unset, .unset] []))
   refine go _ _ (fun _ k => XS.iconst X730.here hx rfl (hb hby at_22) k) ?_
   show G (T730.setTop (mkF m 23 #[vI u0, vI u1, vI u2, vI om, .unset, .unset, .unset, .unset, .unset, .unset, .unset, .unset, .unset, .unset, .unset, .unset, .unset, .unset, .unset, .unset, .unset, .unset] [(.int (0 : Int32))]))
   exact J23 T730 _ X730 e730 N730j _ 
  ·refine go _ _ (fun _ k => XS.ifNo X730.here hx rfl (hb hby at_15) rfl (Free.XT.i0_eq_f c1031) k) ?_
   show G (T730.setTop (mkF m 18 #[vI u0, vI u1, vI u2, vI om, .unset, .unset, .unset, .unset, .unset, .unset, .unset, .unset, .unset, .unset, .unset, .unset, .unset, .unset, .unset, .unset, .unset, .unset] []))
   refine go _ _ (fun _ k => XS.iconst X730.here hx rfl (hb hby at_18) k) ?_
   show G (T730.setTop (mkF m 19 #[vI u0, vI u1, vI u2, vI om, .unset, .unset, .unset, .unset, .unset, .unset, .unset, .unset, .unset, .unset, .unset, .unset, .unset, .unset, .unset, .unset, .unset, .unset] [(.int (1 : Int32))]))
   refine go _ _ (fun _ k => XS.goto X730.here hx rfl (pc0 := 19) (pc' := 23) rfl (hb hby at_19) (by decide) (by decide) k) ?_
   show G (T730.setTop (mkF m 23 #[vI u0, vI u1, vI u2, vI om, .unset, .unset, .unset, .unset, .unset, .unset, .unset, .unset, .unset, .unset, .unset, .unset, .unset, .unset, .unset, .unset, .unset, .unset] [(.int (1 : Int32))]))
   exact J23 T730 _ X730 e730 N730j _ 
 refine go _ _ (fun _ k => XS.iloadN X0.here hx rfl (hb hby at_0) rfl  k) ?_
 show G (s₁.setTop (mkF m 1 #[vI u0, vI u1, vI u2, .unset, .unset, .unset, .unset, .unset, .unset, .unset, .unset, .unset, .unset, .unset, .unset, .unset, .unset, .unset, .unset, .unset, .unset, .unset] [(.int u0)]))
 refine go _ _ (fun _ k => XS.iconst X0.here hx rfl (hb hby at_1) k) ?_
 show G (s₁.setTop (mkF m 2 #[vI u0, vI u1, vI u2, .unset, .unset, .unset, .unset, .unset, .unset, .unset, .unset, .unset, .unset, .unset, .unset, .unset, .unset, .unset, .unset, .unset, .unset, .unset] [(.int (1 : Int32)), (.int u0)]))
 refine go _ _ (fun _ k => XS.iand X0.here hx rfl (hb hby at_2) rfl k) ?_
 show G (s₁.setTop (mkF m 3 #[vI u0, vI u1, vI u2, .unset, .unset, .unset, .unset, .unset, .unset, .unset, .unset, .unset, .unset, .unset, .unset, .unset, .unset, .unset, .unset, .unset, .unset, .unset] [(.int (u0 &&& (1 : Int32)))]))
 by_cases c1032 : (u0 &&& (1 : Int32)) = (0 : Int32)
 ·refine go _ _ (fun _ k => XS.ifYes X0.here hx rfl (pc0 := 3) (pc' := 10) rfl (hb hby at_3) rfl (Free.XT.i0_eq_t c1032) (by decide) (by decide) k) ?_
  show G (s₁.setTop (mkF m 10 #[vI u0, vI u1, vI u2, .unset, .unset, .unset, .unset, .unset, .unset, .unset, .unset, .unset, .unset, .unset, .unset, .unset, .unset, .unset, .unset, .unset, .unset, .unset] []))
  refine go _ _ (fun _ k => XS.iconst X0.here hx rfl (hb hby at_10) k) ?_
  show G (s₁.setTop (mkF m 11 #[vI u0, vI u1, vI u2, .unset, .unset, .unset, .unset, .unset, .unset, .unset, .unset, .unset, .unset, .unset, .unset, .unset, .unset, .unset, .unset, .unset, .unset, .unset] [(.int (0 : Int32))]))
  exact J11 s₁ _ X0 e0 N0 _ 
 ·refine go _ _ (fun _ k => XS.ifNo X0.here hx rfl (hb hby at_3) rfl (Free.XT.i0_eq_f c1032) k) ?_
  show G (s₁.setTop (mkF m 6 #[vI u0, vI u1, vI u2, .unset, .unset, .unset, .unset, .unset, .unset, .unset, .unset, .unset, .unset, .unset, .unset, .unset, .unset, .unset, .unset, .unset, .unset, .unset] []))
  refine go _ _ (fun _ k => XS.iconst X0.here hx rfl (hb hby at_6) k) ?_
  show G (s₁.setTop (mkF m 7 #[vI u0, vI u1, vI u2, .unset, .unset, .unset, .unset, .unset, .unset, .unset, .unset, .unset, .unset, .unset, .unset, .unset, .unset, .unset, .unset, .unset, .unset, .unset] [(.int (1 : Int32))]))
  refine go _ _ (fun _ k => XS.goto X0.here hx rfl (pc0 := 7) (pc' := 11) rfl (hb hby at_7) (by decide) (by decide) k) ?_
  show G (s₁.setTop (mkF m 11 #[vI u0, vI u1, vI u2, .unset, .unset, .unset, .unset, .unset, .unset, .unset, .unset, .unset, .unset, .unset, .unset, .unset, .unset, .unset, .unset, .unset, .unset, .unset] [(.int (1 : Int32))]))
  exact J11 s₁ _ X0 e0 N0 _ 
set_option maxRecDepth 65536 in
set_option maxHeartbeats 40000000 in
theorem comes_1 {Post : Tables → Env → Array Value → State → Outcome → State → Prop} (hpost : ∀ tb e args s v u, (limb_1_1.after args s (.returned v) u = true ∧ limb_1_2.after args s (.returned v) u = true ∧ True) → ReturnedEndW s (.returned v) u (Jvm.fieldLocs frame_1_writes args s ++ Jvm.arrayLocs frame_1_arrays args s ++ Jvm.staticLocs frame_1_statics s) 24 4352 → Post tb e args s (.returned v) u) :
    ArmFor flags0 classFile x code maxLocals ret World_1 tables_1 room_1 Calls_1 rest_1 Pre_1 Post := by
  intro l hfl _ _ p e ha hc hk s m args below hf hA hF happ hP
  obtain ⟨hcalls, hrest, hpre⟩ := hP
  obtain ⟨-, -, -, hnamed, -, -, -, hat⟩ := (Spec.applies_iff hf).mp happ
  obtain ⟨hg, hn⟩ := and_e (Cond.before_iff.mp (show (Jvm.Cond.and given_1 narrow_1).before args s = true from hpre))
  obtain ⟨k0, hg0⟩ := and_e hg
  obtain ⟨ka0, hg1⟩ := and_e hg0
  obtain ⟨ka1, hg2⟩ := and_e hg1
  have ka2 := hg2
  obtain ⟨w0, w1, w2, rfl⟩ : ∃ w0 w1 w2 : Value, args = #[w0, w1, w2] := by
    have hs : args.size = 3 := by simpa [Cond.value, given_1] using k0
    obtain ⟨L⟩ := args
    match L, hs with
    | [w0, w1, w2], _ => exact ⟨w0, w1, w2, rfl⟩
  have hw := fun d (hd : d ∈ tables_1) => atoms_spec (ws := Jvm.Cond.code x code maxLocals ret :: tables_1) hat d (List.mem_cons_of_mem _ hd)
  have hfit : Fit s := fun {y c} hc i hi => by
    obtain ⟨ha, rfl⟩ := Array.getElem?_eq_some_iff.mp hc
    have q := List.all_eq_true.mp ((Array.all_eq_true_iff_forall_mem.mp hF) _ (Array.getElem_mem ha)) i (List.mem_range.mpr hi)
    simpa [Array.getElem?_eq_getElem hi] using q
  obtain ⟨i0, ie0⟩ := is_v ka0
  obtain rfl : w0 = (.int i0) := Option.some.inj ie0
  obtain ⟨i1, ie1⟩ := is_v ka1
  obtain rfl : w1 = (.int i1) := Option.some.inj ie1
  obtain ⟨i2, ie2⟩ := is_v ka2
  obtain rfl : w2 = (.int i2) := Option.some.inj ie2
  obtain ⟨na0, nb0⟩ := and_e hn
  obtain ⟨na1, nb1⟩ := and_e nb0
  obtain ⟨na2, nb2⟩ := and_e nb1
  obtain ⟨na3, nb3⟩ := and_e nb2
  obtain ⟨na4, nb4⟩ := and_e nb3
  obtain ⟨na5, nb5⟩ := and_e nb4
  obtain ⟨na6, nb6⟩ := and_e nb5
  have na7 := nb6
  obtain ⟨za, Sza, Exza, evza⟩ := own_sta na0 (hw _ (List.mem_of_getElem? (i := 21) rfl)) (hw _ (List.mem_of_getElem? (i := 22) rfl))
  obtain ⟨zt, Szt, Exzt, evzt⟩ := own_sta na1 (hw _ (List.mem_of_getElem? (i := 21) rfl)) (hw _ (List.mem_of_getElem? (i := 70) rfl))
  obtain ⟨zm, Szm, Exzm, evzm⟩ := own_sta na4 (hw _ (List.mem_of_getElem? (i := 21) rfl)) (hw _ (List.mem_of_getElem? (i := 82) rfl))
  obtain ⟨zu, Szu, Exzu, evzu⟩ := own_sta na6 (hw _ (List.mem_of_getElem? (i := 21) rfl)) (hw _ (List.mem_of_getElem? (i := 113) rfl))
  have Oza := own_fieldeq evza na2
  have Ozt := own_fieldeq evzt na3
  have Ozm := own_fieldeq evzm na5
  have Ozu := own_fieldeq evzu na7
  have nut := own_nee Ozu Ozt (by decide)
  have nat := own_nee Oza Ozt (by decide)
  have nmt := own_nee Ozm Ozt (by decide)
  obtain ⟨n, o, h1, h2, h3, _, L, rfl, ⟨rfl, N⟩, hq⟩ := rm0 l s _ hw i0 i1 i2 s.heap s.heap.size (Nat.le_refl _) zu za zm zt Szu Sza Szm Szt nut nat nmt tables_1 p e ha hc hk s m _ below hf ((Spec.applies_iff_loose hf).mp happ).1 ⟨rfl, State.Warmed39.refl s, rfl⟩ trivial
  refine ⟨n, _, h1, h2, h3, hpost _ _ _ _ _ _ ⟨Cond.after_iff.mpr rfl, Cond.after_iff.mpr (eq_i res_at (Term.int_eval (1)) rfl), trivial⟩ ⟨hq.1, hq.2.1, hq.2.2.1, (hq.2.2.2.sift fun y hy => Or.inr (N y hy)).mono (by decide) (by decide)⟩⟩
theorem main_1_1 : Claimed_1_1 := comes_1 fun _ _ _ _ _ _ h hF => ⟨h.1, hF⟩
theorem main_1_2 : Claimed_1_2 := comes_1 fun _ _ _ _ _ _ h hF => ⟨h.2.1, hF⟩
end Jvm.Pilot.@@N@@
namespace Jvm.Pilot.@@N@@
open Jvm Jvm.ClassFile Sem Op Lib Jvm.Free Jvm.Stand Jvm.Pilot.@@N@@.Jvm.D
/-! MADE BY PROGRAM (witnessworld.py) out of the Statement's table words and the real class files: 21 classes; the members and pool entries that the words name. The judged class is class 1, her method 1. -/
namespace start1
open Jvm.ClassFile
def u (s : String) : CpInfo := .utf8 (stringToUtf16 s)
/-- a pool by its gaps: so many unusable entries, then the entry; so many at the end -/
def gap : Nat → List CpInfo → List CpInfo
  | 0, r => r
  | n + 1, r => .unusable :: gap n r
def poolList (es : List (Nat × CpInfo)) (last : Nat) : List CpInfo := es.foldr (fun e r => gap e.1 (e.2 :: r)) (gap last [])
def pool (es : List (Nat × CpInfo)) (last : Nat) : Array CpInfo := ⟨poolList es last⟩
def fileOf (pool : Array CpInfo) (this : Nat) (attrs : Array Attribute := #[]) (ms : Array MethodInfo := #[]) (fl : Nat := 33) (sup : Nat := 0) (ifs : Array Nat := #[]) (fds : Array FieldInfo := #[]) : ClassFile where
  minorVersion := 0
  majorVersion := 65
  constantPool := pool
  accessFlags := fl
  thisClass := this
  superClass := sup
  interfaces := ifs
  fields := fds
  methods := ms
  attributes := attrs
def plain (name : String) (sup : Option ClassId) : Class where
  name := name
  kind := .ordinary
  loader := none
  accessFlags := 33
  super := sup
  interfaces := #[]
  cf := none
  fields := #[]
  methods := #[]
  instanceTypes := #[]
  staticTypes := #[]
  resolved := #[]
  callSites := []
  init := .initialized
  statics := none
  mirror := none

def pool0 : Array CpInfo := pool [(5, u "<init>"), (0, u "()V"), (1, .class_ 10), (1, u "java/lang/Object")] 113

def k0c0 : Code := { maxStack := 0, maxLocals := 1, code := object_method_1_code, exceptionTable := #[], attributes := #[] }
def k0m0 : Method := { name := "<init>", desc := "()V", sig := { parameters := [], returnType := none }, accessFlags := 1, code := some k0c0 }
/-- java/lang/Object -/
def k0 : Class := { plain "java/lang/Object" none with
  accessFlags := 33
  interfaces := #[]
  cf := some (fileOf pool0 8 #[] #[{ accessFlags := 1, nameIndex := 5, descriptorIndex := 6, attributes := #[] }] 33 0 #[] #[])
  fields := #[]
  methods := #[k0m0]
  instanceTypes := #[]
  staticTypes := #[]
  resolved := Array.replicate 124 none
  statics := none }

def pool1 : Array CpInfo := pool [(2, .class_ 4), (1, u "java/lang/Object"), (0, u "<init>"), (0, u "()V"), (0, .class_ 8), (0, u "com/example/brevidns/brevidns/CborReader"), (0, .methodref 7 10), (0, .nameAndType 5 11), (0, u "([B)V"), (0, .methodref 7 13), (0, .nameAndType 14 6), (0, u "openArray"), (0, .methodref 7 16), (0, .nameAndType 17 6), (0, u "openMap"), (0, .methodref 7 19), (0, .nameAndType 20 21), (0, u "itemsLeft"), (0, u "()I"), (0, .methodref 7 23), (0, .nameAndType 24 6), (0, u "closeMap"), (0, .methodref 7 26), (0, .nameAndType 27 6), (0, u "closeArray"), (0, .methodref 7 29), (0, .nameAndType 30 31), (0, u "readTag"), (0, u "()J"), (0, .methodref 7 33), (0, .nameAndType 34 31), (0, u "readUnsigned"), (0, .class_ 36), (0, u "com/example/brevidns/brevidns/CborReaderItemsLeftPinLaw"), (2, u "law"), (0, u "(III)Z")] 8

def k1m0 : Method := { name := "<init>", desc := "()V", sig := { parameters := [], returnType := none }, accessFlags := 1, code := none }
def k1c1 : Code := { maxStack := 4, maxLocals := 22, code := code, exceptionTable := #[], attributes := #[] }
def k1m1 : Method := { name := "law", desc := "(III)Z", sig := { parameters := [.int, .int, .int], returnType := some .boolean }, accessFlags := 9, code := some k1c1 }
/-- com/example/brevidns/brevidns/CborReaderItemsLeftPinLaw -/
def k1 : Class := { plain "com/example/brevidns/brevidns/CborReaderItemsLeftPinLaw" (some 0) with
  accessFlags := 49
  interfaces := #[]
  cf := some (fileOf pool1 35 #[] #[{ accessFlags := 1, nameIndex := 5, descriptorIndex := 6, attributes := #[] }, { accessFlags := 9, nameIndex := 39, descriptorIndex := 40, attributes := #[] }] 49 2 #[] #[])
  fields := #[]
  methods := #[k1m0, k1m1]
  instanceTypes := #[]
  staticTypes := #[]
  resolved := Array.replicate 49 none
  statics := none }

def pool2 : Array CpInfo := pool [(1, .methodref 2 3), (0, .class_ 4), (0, .nameAndType 5 6), (0, u "java/lang/Object"), (0, u "<init>"), (0, u "()V"), (0, .fieldref 8 9), (0, .class_ 10), (0, .nameAndType 11 12), (0, u "com/example/brevidns/brevidns/CborReader"), (0, u "itemsLeft"), (0, u "[I"), (0, .fieldref 8 14), (0, .nameAndType 15 16), (0, u "input"), (0, u "[B"), (0, .fieldref 8 18), (0, .nameAndType 19 20), (0, u "position"), (0, u "I"), (0, .methodref 8 22), (0, .nameAndType 23 6), (0, u "checkInsideContainer"), (0, .methodref 8 25), (0, .nameAndType 26 27), (0, u "atEnd"), (0, u "()Z"), (21, .fieldref 50 51), (0, .class_ 52), (0, .nameAndType 53 54), (0, u "com/example/brevidns/brevidns/CborReader$Kind"), (0, u "UNSIGNED_INTEGER"), (0, u "Lcom/example/brevidns/brevidns/CborReader$Kind;"), (9, .fieldref 50 65), (0, .nameAndType 66 54), (0, u "ARRAY"), (0, .fieldref 50 68), (0, .nameAndType 69 54), (0, u "MAP"), (0, .fieldref 50 71), (0, .nameAndType 72 54), (0, u "TAG"), (9, .string 83), (0, u "the array"), (0, .string 85), (0, u "items"), (0, .methodref 8 87), (0, .nameAndType 88 89), (0, u "enter"), (0, u "(Lcom/example/brevidns/brevidns/CborReader$Kind;Ljava/lang/String;Ljava/lang/String;I)V"), (0, .string 91), (0, u "the map"), (0, .string 93), (0, u "pairs"), (0, .methodref 8 95), (0, .nameAndType 96 97), (0, u "readHead"), (0, u "(Lcom/example/brevidns/brevidns/CborReader$Kind;)J"), (0, .methodref 8 99), (0, .nameAndType 100 101), (0, u "remaining"), (0, u "()I"), (0, .methodref 103 104), (0, .class_ 105), (0, .nameAndType 106 107), (0, u "java/lang/Long"), (0, u "compareUnsigned"), (0, u "(JJ)I"), (7, .fieldref 8 116), (0, .nameAndType 117 20), (0, u "depth"), (0, .methodref 119 120), (0, .class_ 121), (0, .nameAndType 122 123), (0, u "java/util/Arrays"), (0, u "copyOf"), (0, u "([II)[I"), (5, .methodref 8 130), (0, .nameAndType 131 6), (0, u "leave"), (0, .methodref 8 133), (0, .nameAndType 11 101), (13, .methodref 8 148), (0, .nameAndType 149 150), (0, u "peek"), (0, u "()Lcom/example/brevidns/brevidns/CborReader$Kind;"), (5, u "readUnsigned"), (0, u "()J"), (23, u "PAST_ANY_VALUE"), (0, u "Ljava/lang/String;"), (3, u "([B)V"), (4, u "openArray"), (0, u "openMap"), (0, u "closeArray"), (0, u "closeMap"), (7, u "readTag")] 41

def k2c0 : Code := { maxStack := 2, maxLocals := 2, code := prog_3_method_1_code, exceptionTable := #[], attributes := #[] }
def k2m0 : Method := { name := "<init>", desc := "([B)V", sig := { parameters := [(.array .byte)], returnType := none }, accessFlags := 0, code := some k2c0 }
def k2c1 : Code := { maxStack := 2, maxLocals := 1, code := prog_3_method_2_code, exceptionTable := #[], attributes := #[] }
def k2m1 : Method := { name := "atEnd", desc := "()Z", sig := { parameters := [], returnType := some .boolean }, accessFlags := 0, code := some k2c1 }
def k2c2 : Code := { maxStack := 4, maxLocals := 4, code := prog_3_method_4_code, exceptionTable := #[], attributes := #[] }
def k2m2 : Method := { name := "peek", desc := "()Lcom/example/brevidns/brevidns/CborReader$Kind;", sig := { parameters := [], returnType := some (.object "com/example/brevidns/brevidns/CborReader$Kind") }, accessFlags := 0, code := some k2c2 }
def k2c3 : Code := { maxStack := 5, maxLocals := 1, code := prog_3_method_5_code, exceptionTable := #[], attributes := #[] }
def k2m3 : Method := { name := "openArray", desc := "()V", sig := { parameters := [], returnType := none }, accessFlags := 0, code := some k2c3 }
def k2c4 : Code := { maxStack := 5, maxLocals := 1, code := prog_3_method_6_code, exceptionTable := #[], attributes := #[] }
def k2m4 : Method := { name := "openMap", desc := "()V", sig := { parameters := [], returnType := none }, accessFlags := 0, code := some k2c4 }
def k2c5 : Code := { maxStack := 6, maxLocals := 9, code := prog_3_method_7_code, exceptionTable := #[], attributes := #[] }
def k2m5 : Method := { name := "enter", desc := "(Lcom/example/brevidns/brevidns/CborReader$Kind;Ljava/lang/String;Ljava/lang/String;I)V", sig := { parameters := [(.object "com/example/brevidns/brevidns/CborReader$Kind"), (.object "java/lang/String"), (.object "java/lang/String"), .int], returnType := none }, accessFlags := 2, code := some k2c5 }
def k2c6 : Code := { maxStack := 3, maxLocals := 1, code := prog_3_method_8_code, exceptionTable := #[], attributes := #[] }
def k2m6 : Method := { name := "itemsLeft", desc := "()I", sig := { parameters := [], returnType := some .int }, accessFlags := 0, code := some k2c6 }
def k2c7 : Code := { maxStack := 1, maxLocals := 1, code := prog_3_method_9_code, exceptionTable := #[], attributes := #[] }
def k2m7 : Method := { name := "closeArray", desc := "()V", sig := { parameters := [], returnType := none }, accessFlags := 0, code := some k2c7 }
def k2c8 : Code := { maxStack := 1, maxLocals := 1, code := prog_3_method_10_code, exceptionTable := #[], attributes := #[] }
def k2m8 : Method := { name := "closeMap", desc := "()V", sig := { parameters := [], returnType := none }, accessFlags := 0, code := some k2c8 }
def k2c9 : Code := { maxStack := 3, maxLocals := 1, code := prog_3_method_11_code, exceptionTable := #[], attributes := #[] }
def k2m9 : Method := { name := "leave", desc := "()V", sig := { parameters := [], returnType := none }, accessFlags := 2, code := some k2c9 }
def k2c10 : Code := { maxStack := 5, maxLocals := 4, code := prog_3_method_12_code, exceptionTable := #[], attributes := #[] }
def k2m10 : Method := { name := "readUnsigned", desc := "()J", sig := { parameters := [], returnType := some .long }, accessFlags := 0, code := some k2c10 }
def k2c11 : Code := { maxStack := 2, maxLocals := 1, code := prog_3_method_18_code, exceptionTable := #[], attributes := #[] }
def k2m11 : Method := { name := "readTag", desc := "()J", sig := { parameters := [], returnType := some .long }, accessFlags := 0, code := some k2c11 }
def k2c12 : Code := { maxStack := 5, maxLocals := 8, code := prog_3_method_20_code, exceptionTable := #[], attributes := #[] }
def k2m12 : Method := { name := "readHead", desc := "(Lcom/example/brevidns/brevidns/CborReader$Kind;)J", sig := { parameters := [(.object "com/example/brevidns/brevidns/CborReader$Kind")], returnType := some .long }, accessFlags := 2, code := some k2c12 }
def k2c13 : Code := { maxStack := 2, maxLocals := 1, code := prog_3_method_21_code, exceptionTable := #[], attributes := #[] }
def k2m13 : Method := { name := "remaining", desc := "()I", sig := { parameters := [], returnType := some .int }, accessFlags := 2, code := some k2c13 }
def k2c14 : Code := { maxStack := 3, maxLocals := 1, code := prog_3_method_22_code, exceptionTable := #[], attributes := #[] }
def k2m14 : Method := { name := "checkInsideContainer", desc := "()V", sig := { parameters := [], returnType := none }, accessFlags := 2, code := some k2c14 }
/-- com/example/brevidns/brevidns/CborReader -/
def k2 : Class := { plain "com/example/brevidns/brevidns/CborReader" (some 0) with
  accessFlags := 48
  interfaces := #[]
  cf := some (fileOf pool2 8 #[.nestMembers #[50]] #[{ accessFlags := 0, nameIndex := 5, descriptorIndex := 186, attributes := #[] }, { accessFlags := 0, nameIndex := 26, descriptorIndex := 27, attributes := #[] }, { accessFlags := 0, nameIndex := 149, descriptorIndex := 150, attributes := #[] }, { accessFlags := 0, nameIndex := 191, descriptorIndex := 6, attributes := #[] }, { accessFlags := 0, nameIndex := 192, descriptorIndex := 6, attributes := #[] }, { accessFlags := 2, nameIndex := 88, descriptorIndex := 89, attributes := #[] }, { accessFlags := 0, nameIndex := 11, descriptorIndex := 101, attributes := #[] }, { accessFlags := 0, nameIndex := 193, descriptorIndex := 6, attributes := #[] }, { accessFlags := 0, nameIndex := 194, descriptorIndex := 6, attributes := #[] }, { accessFlags := 2, nameIndex := 131, descriptorIndex := 6, attributes := #[] }, { accessFlags := 0, nameIndex := 156, descriptorIndex := 157, attributes := #[] }, { accessFlags := 0, nameIndex := 202, descriptorIndex := 157, attributes := #[] }, { accessFlags := 2, nameIndex := 96, descriptorIndex := 97, attributes := #[] }, { accessFlags := 2, nameIndex := 100, descriptorIndex := 101, attributes := #[] }, { accessFlags := 2, nameIndex := 23, descriptorIndex := 6, attributes := #[] }] 48 2 #[] #[{ accessFlags := 26, nameIndex := 181, descriptorIndex := 182, attributes := #[] }, { accessFlags := 18, nameIndex := 15, descriptorIndex := 16, attributes := #[] }, { accessFlags := 2, nameIndex := 19, descriptorIndex := 20, attributes := #[] }, { accessFlags := 2, nameIndex := 11, descriptorIndex := 12, attributes := #[] }, { accessFlags := 2, nameIndex := 117, descriptorIndex := 20, attributes := #[] }])
  fields := #[{ name := "PAST_ANY_VALUE", type := (.object "java/lang/String"), accessFlags := 26, slot := 0, constantValue := 0 }, { name := "input", type := (.array .byte), accessFlags := 18, slot := 0, constantValue := 0 }, { name := "position", type := .int, accessFlags := 2, slot := 1, constantValue := 0 }, { name := "itemsLeft", type := (.array .int), accessFlags := 2, slot := 2, constantValue := 0 }, { name := "depth", type := .int, accessFlags := 2, slot := 3, constantValue := 0 }]
  methods := #[k2m0, k2m1, k2m2, k2m3, k2m4, k2m5, k2m6, k2m7, k2m8, k2m9, k2m10, k2m11, k2m12, k2m13, k2m14]
  instanceTypes := #[(.array .byte), .int, (.array .int), .int]
  staticTypes := #[(.object "java/lang/String")]
  resolved := Array.replicate 244 none
  statics := none }

def pool3 : Array CpInfo := pool [(1, .class_ 2), (0, u "java/lang/constant/Constable"), (0, .class_ 4), (0, u "java/lang/Object")] 6

/-- java/lang/constant/Constable -/
def k3 : Class := { plain "java/lang/constant/Constable" (some 0) with
  accessFlags := 1537
  interfaces := #[]
  cf := some (fileOf pool3 1 #[] #[] 1537 3 #[] #[])
  fields := #[]
  methods := #[]
  instanceTypes := #[]
  staticTypes := #[]
  resolved := Array.replicate 11 none
  statics := none }

def pool4 : Array CpInfo := pool [(1, .class_ 2), (0, u "java/lang/Comparable"), (0, .class_ 4), (0, u "java/lang/Object")] 7

/-- java/lang/Comparable -/
def k4 : Class := { plain "java/lang/Comparable" (some 0) with
  accessFlags := 1537
  interfaces := #[]
  cf := some (fileOf pool4 1 #[] #[] 1537 3 #[] #[])
  fields := #[]
  methods := #[]
  instanceTypes := #[]
  staticTypes := #[]
  resolved := Array.replicate 12 none
  statics := none }

def pool5 : Array CpInfo := pool [(1, .class_ 2), (0, u "java/io/Serializable"), (0, .class_ 4), (0, u "java/lang/Object")] 2

/-- java/io/Serializable -/
def k5 : Class := { plain "java/io/Serializable" (some 0) with
  accessFlags := 1537
  interfaces := #[]
  cf := some (fileOf pool5 1 #[] #[] 1537 3 #[] #[])
  fields := #[]
  methods := #[]
  instanceTypes := #[]
  staticTypes := #[]
  resolved := Array.replicate 7 none
  statics := none }

def pool6 : Array CpInfo := pool [(2, .class_ 4), (1, u "java/lang/Enum"), (0, u "name"), (0, u "Ljava/lang/String;"), (2, u "ordinal"), (0, u "I"), (1, .class_ 14), (1, u "java/lang/Object"), (4, u "hash"), (86, .class_ 108), (1, u "java/lang/Enum$EnumDesc"), (2, .class_ 112), (0, u "java/lang/constant/Constable"), (0, .class_ 114), (0, u "java/lang/Comparable"), (0, .class_ 116), (0, u "java/io/Serializable")] 87

/-- java/lang/Enum -/
def k6 : Class := { plain "java/lang/Enum" (some 0) with
  accessFlags := 1057
  interfaces := #[3, 4, 5]
  cf := some (fileOf pool6 2 #[.nestMembers #[106]] #[] 1057 12 #[111, 113, 115] #[{ accessFlags := 18, nameIndex := 5, descriptorIndex := 6, attributes := #[] }, { accessFlags := 18, nameIndex := 9, descriptorIndex := 10, attributes := #[] }, { accessFlags := 2, nameIndex := 19, descriptorIndex := 10, attributes := #[] }])
  fields := #[{ name := "name", type := (.object "java/lang/String"), accessFlags := 18, slot := 0, constantValue := 0 }, { name := "ordinal", type := .int, accessFlags := 18, slot := 1, constantValue := 0 }, { name := "hash", type := .int, accessFlags := 2, slot := 2, constantValue := 0 }]
  methods := #[]
  instanceTypes := #[(.object "java/lang/String"), .int, .int]
  staticTypes := #[]
  resolved := Array.replicate 204 none
  statics := none }

def pool7 : Array CpInfo := pool [(1, .class_ 2), (0, u "com/example/brevidns/brevidns/CborReader$Kind"), (2, u "UNSIGNED_INTEGER"), (0, u "Lcom/example/brevidns/brevidns/CborReader$Kind;"), (2, u "NEGATIVE_INTEGER"), (2, u "BYTE_STRING"), (2, u "TEXT_STRING"), (2, u "ARRAY"), (2, u "MAP"), (2, u "TAG"), (2, u "BOOLEAN"), (2, u "SIMPLE_VALUE"), (2, u "FLOAT"), (2, u "$VALUES"), (0, u "[Lcom/example/brevidns/brevidns/CborReader$Kind;"), (6, .class_ 46), (1, u "java/lang/Enum"), (8, u "description"), (0, u "Ljava/lang/String;"), (52, .class_ 110), (0, u "com/example/brevidns/brevidns/CborReader")] 2

/-- com/example/brevidns/brevidns/CborReader$Kind -/
def k7 : Class := { plain "com/example/brevidns/brevidns/CborReader$Kind" (some 6) with
  accessFlags := 16432
  interfaces := #[]
  cf := some (fileOf pool7 1 #[.nestHost 109] #[] 16432 44 #[] #[{ accessFlags := 16409, nameIndex := 5, descriptorIndex := 6, attributes := #[] }, { accessFlags := 16409, nameIndex := 9, descriptorIndex := 6, attributes := #[] }, { accessFlags := 16409, nameIndex := 12, descriptorIndex := 6, attributes := #[] }, { accessFlags := 16409, nameIndex := 15, descriptorIndex := 6, attributes := #[] }, { accessFlags := 16409, nameIndex := 18, descriptorIndex := 6, attributes := #[] }, { accessFlags := 16409, nameIndex := 21, descriptorIndex := 6, attributes := #[] }, { accessFlags := 16409, nameIndex := 24, descriptorIndex := 6, attributes := #[] }, { accessFlags := 16409, nameIndex := 27, descriptorIndex := 6, attributes := #[] }, { accessFlags := 16409, nameIndex := 30, descriptorIndex := 6, attributes := #[] }, { accessFlags := 16409, nameIndex := 33, descriptorIndex := 6, attributes := #[] }, { accessFlags := 18, nameIndex := 55, descriptorIndex := 56, attributes := #[] }, { accessFlags := 4122, nameIndex := 36, descriptorIndex := 37, attributes := #[] }])
  fields := #[{ name := "UNSIGNED_INTEGER", type := (.object "com/example/brevidns/brevidns/CborReader$Kind"), accessFlags := 16409, slot := 0, constantValue := 0 }, { name := "NEGATIVE_INTEGER", type := (.object "com/example/brevidns/brevidns/CborReader$Kind"), accessFlags := 16409, slot := 1, constantValue := 0 }, { name := "BYTE_STRING", type := (.object "com/example/brevidns/brevidns/CborReader$Kind"), accessFlags := 16409, slot := 2, constantValue := 0 }, { name := "TEXT_STRING", type := (.object "com/example/brevidns/brevidns/CborReader$Kind"), accessFlags := 16409, slot := 3, constantValue := 0 }, { name := "ARRAY", type := (.object "com/example/brevidns/brevidns/CborReader$Kind"), accessFlags := 16409, slot := 4, constantValue := 0 }, { name := "MAP", type := (.object "com/example/brevidns/brevidns/CborReader$Kind"), accessFlags := 16409, slot := 5, constantValue := 0 }, { name := "TAG", type := (.object "com/example/brevidns/brevidns/CborReader$Kind"), accessFlags := 16409, slot := 6, constantValue := 0 }, { name := "BOOLEAN", type := (.object "com/example/brevidns/brevidns/CborReader$Kind"), accessFlags := 16409, slot := 7, constantValue := 0 }, { name := "SIMPLE_VALUE", type := (.object "com/example/brevidns/brevidns/CborReader$Kind"), accessFlags := 16409, slot := 8, constantValue := 0 }, { name := "FLOAT", type := (.object "com/example/brevidns/brevidns/CborReader$Kind"), accessFlags := 16409, slot := 9, constantValue := 0 }, { name := "description", type := (.object "java/lang/String"), accessFlags := 18, slot := 3, constantValue := 0 }, { name := "$VALUES", type := (.array (.object "com/example/brevidns/brevidns/CborReader$Kind")), accessFlags := 4122, slot := 10, constantValue := 0 }]
  methods := #[]
  instanceTypes := #[(.object "java/lang/String"), .int, .int, (.object "java/lang/String")]
  staticTypes := #[(.object "com/example/brevidns/brevidns/CborReader$Kind"), (.object "com/example/brevidns/brevidns/CborReader$Kind"), (.object "com/example/brevidns/brevidns/CborReader$Kind"), (.object "com/example/brevidns/brevidns/CborReader$Kind"), (.object "com/example/brevidns/brevidns/CborReader$Kind"), (.object "com/example/brevidns/brevidns/CborReader$Kind"), (.object "com/example/brevidns/brevidns/CborReader$Kind"), (.object "com/example/brevidns/brevidns/CborReader$Kind"), (.object "com/example/brevidns/brevidns/CborReader$Kind"), (.object "com/example/brevidns/brevidns/CborReader$Kind"), (.array (.object "com/example/brevidns/brevidns/CborReader$Kind"))]
  resolved := Array.replicate 113 none
  statics := some 0 }

def pool8 : Array CpInfo := pool [(2, .class_ 4), (1, u "java/lang/CharSequence"), (42, .class_ 48), (0, u "java/lang/CharSequence$1CodePointIterator"), (10, .class_ 60), (0, u "java/lang/CharSequence$1CharIterator"), (5, .class_ 67), (0, u "java/lang/Object")] 63

/-- java/lang/CharSequence -/
def k8 : Class := { plain "java/lang/CharSequence" (some 0) with
  accessFlags := 1537
  interfaces := #[]
  cf := some (fileOf pool8 2 #[.nestMembers #[47, 59]] #[] 1537 66 #[] #[])
  fields := #[]
  methods := #[]
  instanceTypes := #[]
  staticTypes := #[]
  resolved := Array.replicate 131 none
  statics := none }

def pool9 : Array CpInfo := pool [(1, .class_ 2), (0, u "java/lang/constant/ConstantDesc"), (0, .class_ 4), (0, u "java/lang/Object")] 32

/-- java/lang/constant/ConstantDesc -/
def k9 : Class := { plain "java/lang/constant/ConstantDesc" (some 0) with
  accessFlags := 1537
  interfaces := #[]
  cf := some (fileOf pool9 1 #[] #[] 1537 3 #[] #[])
  fields := #[]
  methods := #[]
  instanceTypes := #[]
  staticTypes := #[]
  resolved := Array.replicate 37 none
  statics := none }

def pool10 : Array CpInfo := pool [(2, .class_ 4), (1, u "java/lang/Object"), (0, u "<init>"), (0, u "()V"), (3, .class_ 12), (1, u "java/lang/String"), (0, u "value"), (0, u "[B"), (2, u "coder"), (0, u "B"), (2, u "hash"), (0, u "I"), (2, u "hashIsZero"), (0, u "Z"), (13, u "COMPACT_STRINGS"), (534, .class_ 576), (0, u "java/lang/CharSequence"), (22, u "CASE_INSENSITIVE_ORDER"), (0, u "Ljava/util/Comparator;"), (500, u "serialPersistentFields"), (0, u "[Ljava/io/ObjectStreamField;"), (0, .class_ 1104), (0, u "java/lang/String$CaseInsensitiveComparator"), (1, .class_ 1107), (0, u "java/io/Serializable"), (0, .class_ 1109), (0, u "java/lang/Comparable"), (0, .class_ 1111), (0, u "java/lang/constant/Constable"), (0, .class_ 1113), (0, u "java/lang/constant/ConstantDesc"), (2, u "serialVersionUID"), (0, u "J"), (3, u "REPL"), (0, u "C"), (2, u "LATIN1"), (1, u "UTF16")] 323

def k10m0 : Method := { name := "<init>", desc := "()V", sig := { parameters := [], returnType := none }, accessFlags := 1, code := none }
/-- java/lang/String -/
def k10 : Class := { plain "java/lang/String" (some 0) with
  accessFlags := 49
  interfaces := #[5, 4, 8, 3, 9]
  cf := some (fileOf pool10 10 #[.nestMembers #[1103]] #[{ accessFlags := 1, nameIndex := 5, descriptorIndex := 6, attributes := #[] }] 49 2 #[1106, 1108, 575, 1110, 1112] #[{ accessFlags := 18, nameIndex := 13, descriptorIndex := 14, attributes := #[] }, { accessFlags := 18, nameIndex := 17, descriptorIndex := 18, attributes := #[] }, { accessFlags := 2, nameIndex := 21, descriptorIndex := 22, attributes := #[] }, { accessFlags := 2, nameIndex := 25, descriptorIndex := 26, attributes := #[] }, { accessFlags := 26, nameIndex := 1116, descriptorIndex := 1117, attributes := #[] }, { accessFlags := 24, nameIndex := 40, descriptorIndex := 26, attributes := #[] }, { accessFlags := 26, nameIndex := 1101, descriptorIndex := 1102, attributes := #[] }, { accessFlags := 26, nameIndex := 1121, descriptorIndex := 1122, attributes := #[] }, { accessFlags := 25, nameIndex := 599, descriptorIndex := 600, attributes := #[] }, { accessFlags := 24, nameIndex := 1125, descriptorIndex := 18, attributes := #[] }, { accessFlags := 24, nameIndex := 1127, descriptorIndex := 18, attributes := #[] }])
  fields := #[{ name := "value", type := (.array .byte), accessFlags := 18, slot := 0, constantValue := 0 }, { name := "coder", type := .byte, accessFlags := 18, slot := 1, constantValue := 0 }, { name := "hash", type := .int, accessFlags := 2, slot := 2, constantValue := 0 }, { name := "hashIsZero", type := .boolean, accessFlags := 2, slot := 3, constantValue := 0 }, { name := "serialVersionUID", type := .long, accessFlags := 26, slot := 0, constantValue := 0 }, { name := "COMPACT_STRINGS", type := .boolean, accessFlags := 24, slot := 1, constantValue := 0 }, { name := "serialPersistentFields", type := (.array (.object "java/io/ObjectStreamField")), accessFlags := 26, slot := 2, constantValue := 0 }, { name := "REPL", type := .char, accessFlags := 26, slot := 3, constantValue := 0 }, { name := "CASE_INSENSITIVE_ORDER", type := (.object "java/util/Comparator"), accessFlags := 25, slot := 4, constantValue := 0 }, { name := "LATIN1", type := .byte, accessFlags := 24, slot := 5, constantValue := 0 }, { name := "UTF16", type := .byte, accessFlags := 24, slot := 6, constantValue := 0 }]
  methods := #[k10m0]
  instanceTypes := #[(.array .byte), .byte, .int, .boolean]
  staticTypes := #[.long, .boolean, (.array (.object "java/io/ObjectStreamField")), .char, (.object "java/util/Comparator"), .byte, .byte]
  resolved := Array.replicate 1451 none
  statics := none }

def pool11 : Array CpInfo := pool [(2, .class_ 4), (1, u "java/lang/Object"), (0, u "<init>"), (0, u "()V"), (1, .class_ 10), (1, u "java/lang/Number"), (2, .class_ 14), (0, u "java/io/Serializable"), (0, u "serialVersionUID"), (0, u "J")] 20

def k11m0 : Method := { name := "<init>", desc := "()V", sig := { parameters := [], returnType := none }, accessFlags := 1, code := none }
/-- java/lang/Number -/
def k11 : Class := { plain "java/lang/Number" (some 0) with
  accessFlags := 1057
  interfaces := #[5]
  cf := some (fileOf pool11 8 #[] #[{ accessFlags := 1, nameIndex := 5, descriptorIndex := 6, attributes := #[] }] 1057 2 #[13] #[{ accessFlags := 26, nameIndex := 15, descriptorIndex := 16, attributes := #[] }])
  fields := #[{ name := "serialVersionUID", type := .long, accessFlags := 26, slot := 0, constantValue := 0 }]
  methods := #[k11m0]
  instanceTypes := #[]
  staticTypes := #[.long]
  resolved := Array.replicate 37 none
  statics := none }

def pool12 : Array CpInfo := pool [(1, .class_ 2), (0, u "java/lang/Long"), (165, .long 9223372036854775808), (66, .class_ 237), (1, u "java/lang/Long$LongCache"), (33, .class_ 272), (0, u "java/lang/Number"), (2, u "value"), (0, u "J"), (25, .methodref 1 303), (0, .nameAndType 304 305), (0, u "compare"), (0, u "(JJ)I"), (55, u "TYPE"), (0, u "Ljava/lang/Class;"), (0, .class_ 364), (0, u "java/lang/Comparable"), (0, .class_ 366), (0, u "java/lang/constant/Constable"), (0, .class_ 368), (0, u "java/lang/constant/ConstantDesc"), (0, u "MIN_VALUE"), (1, u "MAX_VALUE"), (4, u "SIZE"), (0, u "I"), (1, u "BYTES"), (1, u "serialVersionUID"), (87, u "compareUnsigned")] 54

def k12c0 : Code := { maxStack := 4, maxLocals := 4, code := jdk_35_method_42_code, exceptionTable := #[], attributes := #[] }
def k12m0 : Method := { name := "compare", desc := "(JJ)I", sig := { parameters := [.long, .long], returnType := some .int }, accessFlags := 9, code := some k12c0 }
def k12c1 : Code := { maxStack := 6, maxLocals := 4, code := jdk_35_method_43_code, exceptionTable := #[], attributes := #[] }
def k12m1 : Method := { name := "compareUnsigned", desc := "(JJ)I", sig := { parameters := [.long, .long], returnType := some .int }, accessFlags := 9, code := some k12c1 }
/-- java/lang/Long -/
def k12 : Class := { plain "java/lang/Long" (some 11) with
  accessFlags := 49
  interfaces := #[4, 3, 9]
  cf := some (fileOf pool12 1 #[.nestMembers #[235]] #[{ accessFlags := 9, nameIndex := 304, descriptorIndex := 305, attributes := #[] }, { accessFlags := 9, nameIndex := 469, descriptorIndex := 305, attributes := #[] }] 49 271 #[363, 365, 367] #[{ accessFlags := 25, nameIndex := 369, descriptorIndex := 276, attributes := #[] }, { accessFlags := 25, nameIndex := 371, descriptorIndex := 276, attributes := #[] }, { accessFlags := 25, nameIndex := 361, descriptorIndex := 362, attributes := #[] }, { accessFlags := 18, nameIndex := 275, descriptorIndex := 276, attributes := #[] }, { accessFlags := 25, nameIndex := 376, descriptorIndex := 377, attributes := #[] }, { accessFlags := 25, nameIndex := 379, descriptorIndex := 377, attributes := #[] }, { accessFlags := 26, nameIndex := 381, descriptorIndex := 276, attributes := #[] }])
  fields := #[{ name := "MIN_VALUE", type := .long, accessFlags := 25, slot := 0, constantValue := 0 }, { name := "MAX_VALUE", type := .long, accessFlags := 25, slot := 1, constantValue := 0 }, { name := "TYPE", type := (.object "java/lang/Class"), accessFlags := 25, slot := 2, constantValue := 0 }, { name := "value", type := .long, accessFlags := 18, slot := 0, constantValue := 0 }, { name := "SIZE", type := .int, accessFlags := 25, slot := 3, constantValue := 0 }, { name := "BYTES", type := .int, accessFlags := 25, slot := 4, constantValue := 0 }, { name := "serialVersionUID", type := .long, accessFlags := 26, slot := 5, constantValue := 0 }]
  methods := #[k12m0, k12m1]
  instanceTypes := #[.long]
  staticTypes := #[.long, .long, (.object "java/lang/Class"), .int, .int, .long]
  resolved := Array.replicate 524 none
  statics := none }

def pool13 : Array CpInfo := pool [(2, .class_ 4), (1, u "java/lang/Object"), (0, u "<init>"), (0, u "()V"), (7, .class_ 16), (1, u "java/util/Arrays"), (57, .class_ 76), (1, u "java/util/Arrays$NaturalOrder"), (36, .class_ 115), (1, u "java/util/Arrays$LegacyMergeSort"), (1, u "Z"), (32, .methodref 151 152), (0, .class_ 153), (0, .nameAndType 154 155), (0, u "java/lang/System"), (0, u "arraycopy"), (0, u "(Ljava/lang/Object;ILjava/lang/Object;II)V"), (146, u "copyOf"), (1, .methodref 305 306), (0, .class_ 307), (0, .nameAndType 308 309), (0, u "java/lang/Math"), (0, u "min"), (0, u "(II)I"), (65, .class_ 376), (0, u "java/util/Arrays$ArrayList"), (68, u "$assertionsDisabled"), (269, u "MIN_ARRAY_SORT_GRAN"), (0, u "I"), (2, u "INSERTIONSORT_THRESHOLD"), (151, u "([II)[I"), (103, .class_ 976), (0, u "java/util/Arrays$ArrayItr")] 52

def k13m0 : Method := { name := "<init>", desc := "()V", sig := { parameters := [], returnType := none }, accessFlags := 2, code := none }
def k13c1 : Code := { maxStack := 6, maxLocals := 3, code := jdk_65_method_123_code, exceptionTable := #[], attributes := #[] }
def k13m1 : Method := { name := "copyOf", desc := "([II)[I", sig := { parameters := [(.array .int), .int], returnType := some (.array .int) }, accessFlags := 9, code := some k13c1 }
/-- java/util/Arrays -/
def k13 : Class := { plain "java/util/Arrays" (some 0) with
  accessFlags := 49
  interfaces := #[]
  cf := some (fileOf pool13 14 #[.nestMembers #[975, 375, 113, 74]] #[{ accessFlags := 2, nameIndex := 5, descriptorIndex := 6, attributes := #[] }, { accessFlags := 9, nameIndex := 302, descriptorIndex := 871, attributes := #[] }] 49 2 #[] #[{ accessFlags := 26, nameIndex := 715, descriptorIndex := 716, attributes := #[] }, { accessFlags := 26, nameIndex := 719, descriptorIndex := 716, attributes := #[] }, { accessFlags := 4120, nameIndex := 445, descriptorIndex := 117, attributes := #[] }])
  fields := #[{ name := "MIN_ARRAY_SORT_GRAN", type := .int, accessFlags := 26, slot := 0, constantValue := 0 }, { name := "INSERTIONSORT_THRESHOLD", type := .int, accessFlags := 26, slot := 1, constantValue := 0 }, { name := "$assertionsDisabled", type := .boolean, accessFlags := 4120, slot := 2, constantValue := 0 }]
  methods := #[k13m0, k13m1]
  instanceTypes := #[]
  staticTypes := #[.int, .int, .boolean]
  resolved := Array.replicate 1029 none
  statics := none }

def pool14 : Array CpInfo := pool [(1, .class_ 2), (0, u "java/lang/Math"), (1, .class_ 6), (1, u "java/lang/Object"), (0, u "<init>"), (0, u "()V"), (89, .class_ 100), (1, u "java/lang/Math$RandomNumberGeneratorHolder"), (71, u "negativeZeroFloatBits"), (0, u "J"), (2, u "negativeZeroDoubleBits"), (24, u "min"), (43, u "$assertionsDisabled"), (0, u "Z"), (88, u "(II)I"), (2, u "twoToTheDoubleScaleDown"), (0, u "D"), (4, u "twoToTheDoubleScaleUp"), (9, u "E"), (3, u "PI"), (2, u "TAU"), (2, u "DEGREES_TO_RADIANS"), (0, u "RADIANS_TO_DEGREES")] 94

def k14m0 : Method := { name := "<init>", desc := "()V", sig := { parameters := [], returnType := none }, accessFlags := 2, code := none }
def k14c1 : Code := { maxStack := 2, maxLocals := 2, code := jdk_29_method_69_code, exceptionTable := #[], attributes := #[] }
def k14m1 : Method := { name := "min", desc := "(II)I", sig := { parameters := [.int, .int], returnType := some .int }, accessFlags := 9, code := some k14c1 }
/-- java/lang/Math -/
def k14 : Class := { plain "java/lang/Math" (some 0) with
  accessFlags := 49
  interfaces := #[]
  cf := some (fileOf pool14 1 #[.nestMembers #[98]] #[{ accessFlags := 2, nameIndex := 7, descriptorIndex := 8, attributes := #[] }, { accessFlags := 9, nameIndex := 201, descriptorIndex := 335, attributes := #[] }] 49 4 #[] #[{ accessFlags := 25, nameIndex := 354, descriptorIndex := 339, attributes := #[] }, { accessFlags := 25, nameIndex := 358, descriptorIndex := 339, attributes := #[] }, { accessFlags := 25, nameIndex := 361, descriptorIndex := 339, attributes := #[] }, { accessFlags := 26, nameIndex := 364, descriptorIndex := 339, attributes := #[] }, { accessFlags := 26, nameIndex := 365, descriptorIndex := 339, attributes := #[] }, { accessFlags := 26, nameIndex := 172, descriptorIndex := 173, attributes := #[] }, { accessFlags := 26, nameIndex := 176, descriptorIndex := 173, attributes := #[] }, { accessFlags := 8, nameIndex := 344, descriptorIndex := 339, attributes := #[] }, { accessFlags := 8, nameIndex := 338, descriptorIndex := 339, attributes := #[] }, { accessFlags := 4120, nameIndex := 245, descriptorIndex := 246, attributes := #[] }])
  fields := #[{ name := "E", type := .double, accessFlags := 25, slot := 0, constantValue := 0 }, { name := "PI", type := .double, accessFlags := 25, slot := 1, constantValue := 0 }, { name := "TAU", type := .double, accessFlags := 25, slot := 2, constantValue := 0 }, { name := "DEGREES_TO_RADIANS", type := .double, accessFlags := 26, slot := 3, constantValue := 0 }, { name := "RADIANS_TO_DEGREES", type := .double, accessFlags := 26, slot := 4, constantValue := 0 }, { name := "negativeZeroFloatBits", type := .long, accessFlags := 26, slot := 5, constantValue := 0 }, { name := "negativeZeroDoubleBits", type := .long, accessFlags := 26, slot := 6, constantValue := 0 }, { name := "twoToTheDoubleScaleUp", type := .double, accessFlags := 8, slot := 7, constantValue := 0 }, { name := "twoToTheDoubleScaleDown", type := .double, accessFlags := 8, slot := 8, constantValue := 0 }, { name := "$assertionsDisabled", type := .boolean, accessFlags := 4120, slot := 9, constantValue := 0 }]
  methods := #[k14m0, k14m1]
  instanceTypes := #[]
  staticTypes := #[.double, .double, .double, .double, .double, .long, .long, .double, .double, .boolean]
  resolved := Array.replicate 460 none
  statics := none }

def pool15 : Array CpInfo := pool [(2, .class_ 4), (1, u "java/lang/Object"), (0, u "<init>"), (0, u "()V"), (1, .class_ 10), (1, u "java/lang/System"), (0, u "allowSecurityManager"), (0, u "I"), (16, u "cons"), (0, u "Ljava/io/Console;"), (77, .class_ 110), (1, u "java/lang/System$CallersHolder"), (43, u "initialErrStream"), (0, u "Ljava/io/PrintStream;"), (19, u "security"), (0, u "Ljava/lang/SecurityManager;"), (31, .class_ 209), (0, u "java/lang/System$1"), (7, u "props"), (0, u "Ljava/util/Properties;"), (2, u "lineSeparator"), (0, u "Ljava/lang/String;"), (96, .class_ 321), (1, u "java/lang/System$LoggerFinder"), (5, .class_ 328), (0, u "java/lang/System$Logger"), (67, u "err"), (2, u "out"), (91, u "notSupportedJnuEncoding"), (15, u "in"), (17, u "initialIn"), (0, u "Ljava/io/InputStream;"), (35, u "bootLayer"), (0, u "Ljava/lang/ModuleLayer;"), (99, .class_ 664), (0, u "java/lang/System$2"), (9, u "NEVER"), (2, u "MAYBE"), (49, u "arraycopy"), (0, u "(Ljava/lang/Object;ILjava/lang/Object;II)V"), (72, .class_ 802), (0, u "java/lang/System$Logger$Level")] 31

def k15m0 : Method := { name := "<init>", desc := "()V", sig := { parameters := [], returnType := none }, accessFlags := 2, code := none }
def k15m1 : Method := { name := "arraycopy", desc := "(Ljava/lang/Object;ILjava/lang/Object;II)V", sig := { parameters := [(.object "java/lang/Object"), .int, (.object "java/lang/Object"), .int, .int], returnType := none }, accessFlags := 265, code := none }
/-- java/lang/System -/
def k15 : Class := { plain "java/lang/System" (some 0) with
  accessFlags := 49
  interfaces := #[]
  cf := some (fileOf pool15 8 #[.nestMembers #[319, 327, 801, 108, 663, 208]] #[{ accessFlags := 2, nameIndex := 5, descriptorIndex := 6, attributes := #[] }, { accessFlags := 265, nameIndex := 727, descriptorIndex := 728, attributes := #[] }] 49 2 #[] #[{ accessFlags := 25, nameIndex := 507, descriptorIndex := 526, attributes := #[] }, { accessFlags := 25, nameIndex := 399, descriptorIndex := 155, attributes := #[] }, { accessFlags := 25, nameIndex := 396, descriptorIndex := 155, attributes := #[] }, { accessFlags := 10, nameIndex := 525, descriptorIndex := 526, attributes := #[] }, { accessFlags := 26, nameIndex := 674, descriptorIndex := 12, attributes := #[] }, { accessFlags := 26, nameIndex := 677, descriptorIndex := 12, attributes := #[] }, { accessFlags := 10, nameIndex := 11, descriptorIndex := 12, attributes := #[] }, { accessFlags := 74, nameIndex := 175, descriptorIndex := 176, attributes := #[] }, { accessFlags := 10, nameIndex := 491, descriptorIndex := 222, attributes := #[] }, { accessFlags := 74, nameIndex := 29, descriptorIndex := 30, attributes := #[] }, { accessFlags := 74, nameIndex := 154, descriptorIndex := 155, attributes := #[] }, { accessFlags := 10, nameIndex := 217, descriptorIndex := 218, attributes := #[] }, { accessFlags := 10, nameIndex := 221, descriptorIndex := 222, attributes := #[] }, { accessFlags := 8, nameIndex := 562, descriptorIndex := 563, attributes := #[] }])
  fields := #[{ name := "in", type := (.object "java/io/InputStream"), accessFlags := 25, slot := 0, constantValue := 0 }, { name := "out", type := (.object "java/io/PrintStream"), accessFlags := 25, slot := 1, constantValue := 0 }, { name := "err", type := (.object "java/io/PrintStream"), accessFlags := 25, slot := 2, constantValue := 0 }, { name := "initialIn", type := (.object "java/io/InputStream"), accessFlags := 10, slot := 3, constantValue := 0 }, { name := "NEVER", type := .int, accessFlags := 26, slot := 4, constantValue := 0 }, { name := "MAYBE", type := .int, accessFlags := 26, slot := 5, constantValue := 0 }, { name := "allowSecurityManager", type := .int, accessFlags := 10, slot := 6, constantValue := 0 }, { name := "security", type := (.object "java/lang/SecurityManager"), accessFlags := 74, slot := 7, constantValue := 0 }, { name := "notSupportedJnuEncoding", type := (.object "java/lang/String"), accessFlags := 10, slot := 8, constantValue := 0 }, { name := "cons", type := (.object "java/io/Console"), accessFlags := 74, slot := 9, constantValue := 0 }, { name := "initialErrStream", type := (.object "java/io/PrintStream"), accessFlags := 74, slot := 10, constantValue := 0 }, { name := "props", type := (.object "java/util/Properties"), accessFlags := 10, slot := 11, constantValue := 0 }, { name := "lineSeparator", type := (.object "java/lang/String"), accessFlags := 10, slot := 12, constantValue := 0 }, { name := "bootLayer", type := (.object "java/lang/ModuleLayer"), accessFlags := 8, slot := 13, constantValue := 0 }]
  methods := #[k15m0, k15m1]
  instanceTypes := #[]
  staticTypes := #[(.object "java/io/InputStream"), (.object "java/io/PrintStream"), (.object "java/io/PrintStream"), (.object "java/io/InputStream"), .int, .int, .int, (.object "java/lang/SecurityManager"), (.object "java/lang/String"), (.object "java/io/Console"), (.object "java/io/PrintStream"), (.object "java/util/Properties"), (.object "java/lang/String"), (.object "java/lang/ModuleLayer")]
  resolved := Array.replicate 834 none
  statics := none }

def pool16 : Array CpInfo := pool [(1, u "java/lang/Cloneable"), (0, .class_ 1), (0, u "java/lang/Object"), (0, .class_ 3)] 3

/-- java/lang/Cloneable -/
def k16 : Class := { plain "java/lang/Cloneable" (some 0) with
  accessFlags := 1537
  interfaces := #[]
  cf := some (fileOf pool16 2 #[] #[] 1537 4 #[] #[])
  fields := #[]
  methods := #[]
  instanceTypes := #[]
  staticTypes := #[]
  resolved := Array.replicate 8 none
  statics := none }

/-- the primitive byte -/
def k17 : Class := { plain "byte" none with kind := .primitive 'B', accessFlags := 0x411 }
/-- [B -/
def k18 : Class := { plain "[B" (some 0) with kind := .array 17 .byte, interfaces := #[16, 5], accessFlags := 1041 }

/-- the primitive int -/
def k19 : Class := { plain "int" none with kind := .primitive 'I', accessFlags := 0x411 }
/-- [I -/
def k20 : Class := { plain "[I" (some 0) with kind := .array 19 .int, interfaces := #[16, 5], accessFlags := 1041 }

def heap : Heap := #[{ cls := 7, slots := #[.ref 1, .null, .null, .null, .ref 2, .ref 3, .ref 4, .null, .null, .null, .null], vm := .statics 7 },
  { cls := 7, slots := #[.null, .int 0, .int 0, .null], vm := .none },
  { cls := 7, slots := #[.null, .int 4, .int 0, .null], vm := .none },
  { cls := 7, slots := #[.null, .int 5, .int 0, .null], vm := .none },
  { cls := 7, slots := #[.null, .int 6, .int 0, .null], vm := .none }]
def classes : Array Class := #[k0, k1, k2, k3, k4, k5, k6, k7, k8, k9, k10, k11, k12, k13, k14, k15, k16, k17, k18, k19, k20]
def interned : List (Array UInt16 × Addr) := []
def slotsUsed : Nat := 27
def theMethod : MethodId := ⟨1, 1⟩
def args0 : Array Value := #[.int 5, .int 300, .int 7]
def aboutOver (below : List Frame) : State where
  vm := { classes := classes, interned := interned.toArray }
  heap := heap
  slotsUsed := slotsUsed
  threads := #[{ frames := .invoking theMethod args0 :: below }]
def below0 : List Frame := [.native { method := ⟨0, 0⟩, args := #[] }]
def about1 : State := aboutOver below0
def p0 : Program := .bare "" "" ""
def e0 : Env := launch0.env 0 0 0
theorem w_frames : about1.frames = Frame.invoking theMethod args0 :: below0 := rfl
set_option maxRecDepth 65536 in
theorem w_args : argsFit about1.vm theMethod args0 = true := by decide +kernel
set_option maxRecDepth 65536 in
theorem w_heap : heapFits about1 = true := by decide +kernel
set_option maxRecDepth 65536 in
theorem w_runnable : about1.curStatus? = some .runnable := by decide +kernel
set_option maxRecDepth 65536 in
theorem w_alone : about1.alone = true := by decide +kernel
set_option maxRecDepth 65536 in
theorem w_named : about1.methodNamed? x = some theMethod := by decide +kernel
set_option maxRecDepth 65536 in
theorem w_hears : about1.hears theMethod below0 = true := by decide +kernel
set_option maxRecDepth 65536 in
theorem w_ripe : about1.ripe theMethod args0 below0 = true := by decide +kernel
theorem w_running : about1.status = .running := rfl
set_option maxRecDepth 65536 in
theorem w_room : about1.hasRoom e0.platform room_1 = true :=
  launch0.hasRoom_least _ room_1 (by decide +kernel) (by decide +kernel) (by decide +kernel) (by decide +kernel) (by decide +kernel) (by decide +kernel)
theorem allAtoms_all (ts : List Jvm.Cond) (a : Array Jvm.Value) (st : Jvm.State) : (allAtoms ts).before a st = ts.all (fun c => c.before a st) := by
  induction ts with
  | nil => rfl
  | cons c t ih =>
    show (Jvm.Cond.and c (allAtoms t)).before a st = _
    rw [Jvm.Cond.before_and, ih, List.all_cons]
def words1 : List Jvm.Cond := Jvm.Cond.code x code maxLocals ret :: tables_1
/-- a 'code' word, met by the world's own term for the bytes: nothing is compared byte by byte -/
theorem code_word {y : MethodName} {bytes : ByteArray} {mx : Nat} {rt : Option FieldType} {a : Array Value} {s : State} {m : MethodId} {meth : Method} {c : Code} (h1 : s.methodNamed? y = some m) (h2 : s.vm.method? m = some meth) (h3 : meth.code = some c) (h4 : c.code = bytes)
    (h5 : (c.maxLocals == mx && c.exceptionTable.isEmpty && decide (c.maxStack ≤ mostOperands) && decide (meth.sig.returnType = rt) && !meth.locks && decide (parseMethodDescriptor y.desc = some meth.sig)) = true) : (Jvm.Cond.code y bytes mx rt).before a s = true := by
  simp only [Bool.and_eq_true, beq_iff_eq, Bool.not_eq_true', decide_eq_true_eq] at h5
  obtain ⟨⟨⟨⟨⟨g1, g2⟩, g3⟩, g4⟩, g5⟩, g6⟩ := h5
  simp [Cond.before, Cond.holds, Cond.value, h1, h2, h3, h4, g1, g2, g3, g4, g5, g6]
def isCode : Jvm.Cond → Bool
  | .code _ _ _ _ => true
  | _ => false
theorem all_split {L : List Jvm.Cond} {P : Jvm.Cond → Bool} (h1 : L.all (fun c => isCode c || P c) = true) (h2 : ∀ c ∈ L.filter isCode, P c = true) : L.all P = true := by
  refine List.all_eq_true.mpr fun c hc => ?_
  have h := List.all_eq_true.mp h1 c hc
  rcases Bool.eq_false_or_eq_true (isCode c) with hi | hi
  · exact h2 c (List.mem_filter.mpr ⟨hc, hi⟩)
  · simpa [hi] using h
set_option maxRecDepth 65536 in
theorem w_c0 : (Jvm.Cond.code x code maxLocals ret).before args0 about1 = true := code_word (m := ⟨1, 1⟩) (meth := k1m1) (c := k1c1) (by decide +kernel) rfl rfl rfl (by decide +kernel)
set_option maxRecDepth 65536 in
theorem w_c1 : (Jvm.Cond.code ({ cls := "com/example/brevidns/brevidns/CborReader", name := "<init>", desc := "([B)V" } : Jvm.MethodName) prog_3_method_1_code (2 : Nat) (Option.none : Option Jvm.ClassFile.FieldType)).before args0 about1 = true := code_word (m := ⟨2, 0⟩) (meth := k2m0) (c := k2c0) (by decide +kernel) rfl rfl rfl (by decide +kernel)
set_option maxRecDepth 65536 in
theorem w_c2 : (Jvm.Cond.code ({ cls := "java/lang/Object", name := "<init>", desc := "()V" } : Jvm.MethodName) object_method_1_code (1 : Nat) (Option.none : Option Jvm.ClassFile.FieldType)).before args0 about1 = true := code_word (m := ⟨0, 0⟩) (meth := k0m0) (c := k0c0) (by decide +kernel) rfl rfl rfl (by decide +kernel)
set_option maxRecDepth 65536 in
theorem w_c3 : (Jvm.Cond.code ({ cls := "com/example/brevidns/brevidns/CborReader", name := "openArray", desc := "()V" } : Jvm.MethodName) prog_3_method_5_code (1 : Nat) (Option.none : Option Jvm.ClassFile.FieldType)).before args0 about1 = true := code_word (m := ⟨2, 3⟩) (meth := k2m3) (c := k2c3) (by decide +kernel) rfl rfl rfl (by decide +kernel)
set_option maxRecDepth 65536 in
theorem w_c4 : (Jvm.Cond.code ({ cls := "com/example/brevidns/brevidns/CborReader", name := "enter", desc := "(Lcom/example/brevidns/brevidns/CborReader$Kind;Ljava/lang/String;Ljava/lang/String;I)V" } : Jvm.MethodName) prog_3_method_7_code (9 : Nat) (Option.none : Option Jvm.ClassFile.FieldType)).before args0 about1 = true := code_word (m := ⟨2, 5⟩) (meth := k2m5) (c := k2c5) (by decide +kernel) rfl rfl rfl (by decide +kernel)
set_option maxRecDepth 65536 in
theorem w_c5 : (Jvm.Cond.code ({ cls := "com/example/brevidns/brevidns/CborReader", name := "readHead", desc := "(Lcom/example/brevidns/brevidns/CborReader$Kind;)J" } : Jvm.MethodName) prog_3_method_20_code (8 : Nat) (Option.some Jvm.ClassFile.FieldType.long)).before args0 about1 = true := code_word (m := ⟨2, 12⟩) (meth := k2m12) (c := k2c12) (by decide +kernel) rfl rfl rfl (by decide +kernel)
set_option maxRecDepth 65536 in
theorem w_c6 : (Jvm.Cond.code ({ cls := "com/example/brevidns/brevidns/CborReader", name := "peek", desc := "()Lcom/example/brevidns/brevidns/CborReader$Kind;" } : Jvm.MethodName) prog_3_method_4_code (4 : Nat) (Option.some (Jvm.ClassFile.FieldType.object "com/example/brevidns/brevidns/CborReader$Kind"))).before args0 about1 = true := code_word (m := ⟨2, 2⟩) (meth := k2m2) (c := k2c2) (by decide +kernel) rfl rfl rfl (by decide +kernel)
set_option maxRecDepth 65536 in
theorem w_c7 : (Jvm.Cond.code ({ cls := "com/example/brevidns/brevidns/CborReader", name := "checkInsideContainer", desc := "()V" } : Jvm.MethodName) prog_3_method_22_code (1 : Nat) (Option.none : Option Jvm.ClassFile.FieldType)).before args0 about1 = true := code_word (m := ⟨2, 14⟩) (meth := k2m14) (c := k2c14) (by decide +kernel) rfl rfl rfl (by decide +kernel)
set_option maxRecDepth 65536 in
theorem w_c8 : (Jvm.Cond.code ({ cls := "com/example/brevidns/brevidns/CborReader", name := "atEnd", desc := "()Z" } : Jvm.MethodName) prog_3_method_2_code (1 : Nat) (Option.some Jvm.ClassFile.FieldType.boolean)).before args0 about1 = true := code_word (m := ⟨2, 1⟩) (meth := k2m1) (c := k2c1) (by decide +kernel) rfl rfl rfl (by decide +kernel)
set_option maxRecDepth 65536 in
theorem w_c9 : (Jvm.Cond.code ({ cls := "com/example/brevidns/brevidns/CborReader", name := "remaining", desc := "()I" } : Jvm.MethodName) prog_3_method_21_code (1 : Nat) (Option.some Jvm.ClassFile.FieldType.int)).before args0 about1 = true := code_word (m := ⟨2, 13⟩) (meth := k2m13) (c := k2c13) (by decide +kernel) rfl rfl rfl (by decide +kernel)
set_option maxRecDepth 65536 in
theorem w_c10 : (Jvm.Cond.code ({ cls := "java/lang/Long", name := "compareUnsigned", desc := "(JJ)I" } : Jvm.MethodName) jdk_35_method_43_code (4 : Nat) (Option.some Jvm.ClassFile.FieldType.int)).before args0 about1 = true := code_word (m := ⟨12, 1⟩) (meth := k12m1) (c := k12c1) (by decide +kernel) rfl rfl rfl (by decide +kernel)
set_option maxRecDepth 65536 in
theorem w_c11 : (Jvm.Cond.code ({ cls := "java/lang/Long", name := "compare", desc := "(JJ)I" } : Jvm.MethodName) jdk_35_method_42_code (4 : Nat) (Option.some Jvm.ClassFile.FieldType.int)).before args0 about1 = true := code_word (m := ⟨12, 0⟩) (meth := k12m0) (c := k12c0) (by decide +kernel) rfl rfl rfl (by decide +kernel)
set_option maxRecDepth 65536 in
theorem w_c12 : (Jvm.Cond.code ({ cls := "com/example/brevidns/brevidns/CborReader", name := "itemsLeft", desc := "()I" } : Jvm.MethodName) prog_3_method_8_code (1 : Nat) (Option.some Jvm.ClassFile.FieldType.int)).before args0 about1 = true := code_word (m := ⟨2, 6⟩) (meth := k2m6) (c := k2c6) (by decide +kernel) rfl rfl rfl (by decide +kernel)
set_option maxRecDepth 65536 in
theorem w_c13 : (Jvm.Cond.code ({ cls := "com/example/brevidns/brevidns/CborReader", name := "openMap", desc := "()V" } : Jvm.MethodName) prog_3_method_6_code (1 : Nat) (Option.none : Option Jvm.ClassFile.FieldType)).before args0 about1 = true := code_word (m := ⟨2, 4⟩) (meth := k2m4) (c := k2c4) (by decide +kernel) rfl rfl rfl (by decide +kernel)
set_option maxRecDepth 65536 in
theorem w_c14 : (Jvm.Cond.code ({ cls := "com/example/brevidns/brevidns/CborReader", name := "closeMap", desc := "()V" } : Jvm.MethodName) prog_3_method_10_code (1 : Nat) (Option.none : Option Jvm.ClassFile.FieldType)).before args0 about1 = true := code_word (m := ⟨2, 8⟩) (meth := k2m8) (c := k2c8) (by decide +kernel) rfl rfl rfl (by decide +kernel)
set_option maxRecDepth 65536 in
theorem w_c15 : (Jvm.Cond.code ({ cls := "com/example/brevidns/brevidns/CborReader", name := "leave", desc := "()V" } : Jvm.MethodName) prog_3_method_11_code (1 : Nat) (Option.none : Option Jvm.ClassFile.FieldType)).before args0 about1 = true := code_word (m := ⟨2, 9⟩) (meth := k2m9) (c := k2c9) (by decide +kernel) rfl rfl rfl (by decide +kernel)
set_option maxRecDepth 65536 in
theorem w_c16 : (Jvm.Cond.code ({ cls := "java/util/Arrays", name := "copyOf", desc := "([II)[I" } : Jvm.MethodName) jdk_65_method_123_code (3 : Nat) (Option.some (Jvm.ClassFile.FieldType.array Jvm.ClassFile.FieldType.int))).before args0 about1 = true := code_word (m := ⟨13, 1⟩) (meth := k13m1) (c := k13c1) (by decide +kernel) rfl rfl rfl (by decide +kernel)
set_option maxRecDepth 65536 in
theorem w_c17 : (Jvm.Cond.code ({ cls := "java/lang/Math", name := "min", desc := "(II)I" } : Jvm.MethodName) jdk_29_method_69_code (2 : Nat) (Option.some Jvm.ClassFile.FieldType.int)).before args0 about1 = true := code_word (m := ⟨14, 1⟩) (meth := k14m1) (c := k14c1) (by decide +kernel) rfl rfl rfl (by decide +kernel)
set_option maxRecDepth 65536 in
theorem w_c18 : (Jvm.Cond.code ({ cls := "com/example/brevidns/brevidns/CborReader", name := "readUnsigned", desc := "()J" } : Jvm.MethodName) prog_3_method_12_code (4 : Nat) (Option.some Jvm.ClassFile.FieldType.long)).before args0 about1 = true := code_word (m := ⟨2, 10⟩) (meth := k2m10) (c := k2c10) (by decide +kernel) rfl rfl rfl (by decide +kernel)
set_option maxRecDepth 65536 in
theorem w_c19 : (Jvm.Cond.code ({ cls := "com/example/brevidns/brevidns/CborReader", name := "readTag", desc := "()J" } : Jvm.MethodName) prog_3_method_18_code (1 : Nat) (Option.some Jvm.ClassFile.FieldType.long)).before args0 about1 = true := code_word (m := ⟨2, 11⟩) (meth := k2m11) (c := k2c11) (by decide +kernel) rfl rfl rfl (by decide +kernel)
set_option maxRecDepth 65536 in
theorem w_c20 : (Jvm.Cond.code ({ cls := "com/example/brevidns/brevidns/CborReader", name := "closeArray", desc := "()V" } : Jvm.MethodName) prog_3_method_9_code (1 : Nat) (Option.none : Option Jvm.ClassFile.FieldType)).before args0 about1 = true := code_word (m := ⟨2, 7⟩) (meth := k2m7) (c := k2c7) (by decide +kernel) rfl rfl rfl (by decide +kernel)
def codes1 : List Jvm.Cond := [Jvm.Cond.code x code maxLocals ret, Jvm.Cond.code ({ cls := "com/example/brevidns/brevidns/CborReader", name := "<init>", desc := "([B)V" } : Jvm.MethodName) prog_3_method_1_code (2 : Nat) (Option.none : Option Jvm.ClassFile.FieldType), Jvm.Cond.code ({ cls := "java/lang/Object", name := "<init>", desc := "()V" } : Jvm.MethodName) object_method_1_code (1 : Nat) (Option.none : Option Jvm.ClassFile.FieldType), Jvm.Cond.code ({ cls := "com/example/brevidns/brevidns/CborReader", name := "openArray", desc := "()V" } : Jvm.MethodName) prog_3_method_5_code (1 : Nat) (Option.none : Option Jvm.ClassFile.FieldType), Jvm.Cond.code ({ cls := "com/example/brevidns/brevidns/CborReader", name := "enter", desc := "(Lcom/example/brevidns/brevidns/CborReader$Kind;Ljava/lang/String;Ljava/lang/String;I)V" } : Jvm.MethodName) prog_3_method_7_code (9 : Nat) (Option.none : Option Jvm.ClassFile.FieldType), Jvm.Cond.code ({ cls := "com/example/brevidns/brevidns/CborReader", name := "readHead", desc := "(Lcom/example/brevidns/brevidns/CborReader$Kind;)J" } : Jvm.MethodName) prog_3_method_20_code (8 : Nat) (Option.some Jvm.ClassFile.FieldType.long), Jvm.Cond.code ({ cls := "com/example/brevidns/brevidns/CborReader", name := "peek", desc := "()Lcom/example/brevidns/brevidns/CborReader$Kind;" } : Jvm.MethodName) prog_3_method_4_code (4 : Nat) (Option.some (Jvm.ClassFile.FieldType.object "com/example/brevidns/brevidns/CborReader$Kind")), Jvm.Cond.code ({ cls := "com/example/brevidns/brevidns/CborReader", name := "checkInsideContainer", desc := "()V" } : Jvm.MethodName) prog_3_method_22_code (1 : Nat) (Option.none : Option Jvm.ClassFile.FieldType), Jvm.Cond.code ({ cls := "com/example/brevidns/brevidns/CborReader", name := "atEnd", desc := "()Z" } : Jvm.MethodName) prog_3_method_2_code (1 : Nat) (Option.some Jvm.ClassFile.FieldType.boolean), Jvm.Cond.code ({ cls := "com/example/brevidns/brevidns/CborReader", name := "remaining", desc := "()I" } : Jvm.MethodName) prog_3_method_21_code (1 : Nat) (Option.some Jvm.ClassFile.FieldType.int), Jvm.Cond.code ({ cls := "java/lang/Long", name := "compareUnsigned", desc := "(JJ)I" } : Jvm.MethodName) jdk_35_method_43_code (4 : Nat) (Option.some Jvm.ClassFile.FieldType.int), Jvm.Cond.code ({ cls := "java/lang/Long", name := "compare", desc := "(JJ)I" } : Jvm.MethodName) jdk_35_method_42_code (4 : Nat) (Option.some Jvm.ClassFile.FieldType.int), Jvm.Cond.code ({ cls := "com/example/brevidns/brevidns/CborReader", name := "itemsLeft", desc := "()I" } : Jvm.MethodName) prog_3_method_8_code (1 : Nat) (Option.some Jvm.ClassFile.FieldType.int), Jvm.Cond.code ({ cls := "com/example/brevidns/brevidns/CborReader", name := "openMap", desc := "()V" } : Jvm.MethodName) prog_3_method_6_code (1 : Nat) (Option.none : Option Jvm.ClassFile.FieldType), Jvm.Cond.code ({ cls := "com/example/brevidns/brevidns/CborReader", name := "closeMap", desc := "()V" } : Jvm.MethodName) prog_3_method_10_code (1 : Nat) (Option.none : Option Jvm.ClassFile.FieldType), Jvm.Cond.code ({ cls := "com/example/brevidns/brevidns/CborReader", name := "leave", desc := "()V" } : Jvm.MethodName) prog_3_method_11_code (1 : Nat) (Option.none : Option Jvm.ClassFile.FieldType), Jvm.Cond.code ({ cls := "java/util/Arrays", name := "copyOf", desc := "([II)[I" } : Jvm.MethodName) jdk_65_method_123_code (3 : Nat) (Option.some (Jvm.ClassFile.FieldType.array Jvm.ClassFile.FieldType.int)), Jvm.Cond.code ({ cls := "java/lang/Math", name := "min", desc := "(II)I" } : Jvm.MethodName) jdk_29_method_69_code (2 : Nat) (Option.some Jvm.ClassFile.FieldType.int), Jvm.Cond.code ({ cls := "com/example/brevidns/brevidns/CborReader", name := "readUnsigned", desc := "()J" } : Jvm.MethodName) prog_3_method_12_code (4 : Nat) (Option.some Jvm.ClassFile.FieldType.long), Jvm.Cond.code ({ cls := "com/example/brevidns/brevidns/CborReader", name := "readTag", desc := "()J" } : Jvm.MethodName) prog_3_method_18_code (1 : Nat) (Option.some Jvm.ClassFile.FieldType.long), Jvm.Cond.code ({ cls := "com/example/brevidns/brevidns/CborReader", name := "closeArray", desc := "()V" } : Jvm.MethodName) prog_3_method_9_code (1 : Nat) (Option.none : Option Jvm.ClassFile.FieldType)]
set_option maxRecDepth 65536 in
theorem codes_eq : words1.filter isCode = codes1 := rfl
theorem w_codes : ∀ c ∈ words1.filter isCode, c.before args0 about1 = true := by
  rw [codes_eq]
  intro c hc
  simp only [codes1, List.mem_cons, List.not_mem_nil, or_false] at hc
  rcases hc with rfl | rfl | rfl | rfl | rfl | rfl | rfl | rfl | rfl | rfl | rfl | rfl | rfl | rfl | rfl | rfl | rfl | rfl | rfl | rfl | rfl
  · exact w_c0
  · exact w_c1
  · exact w_c2
  · exact w_c3
  · exact w_c4
  · exact w_c5
  · exact w_c6
  · exact w_c7
  · exact w_c8
  · exact w_c9
  · exact w_c10
  · exact w_c11
  · exact w_c12
  · exact w_c13
  · exact w_c14
  · exact w_c15
  · exact w_c16
  · exact w_c17
  · exact w_c18
  · exact w_c19
  · exact w_c20
set_option maxRecDepth 65536 in
theorem w_t1 : (words1.take 24).all (fun c => isCode c || c.before args0 about1) = true := by decide +kernel
set_option maxRecDepth 65536 in
theorem w_t2 : ((words1.drop 24).take 24).all (fun c => isCode c || c.before args0 about1) = true := by decide +kernel
set_option maxRecDepth 65536 in
theorem w_t3 : (((words1.drop 24).drop 24).take 24).all (fun c => isCode c || c.before args0 about1) = true := by decide +kernel
set_option maxRecDepth 65536 in
theorem w_t4 : ((((words1.drop 24).drop 24).drop 24).take 24).all (fun c => isCode c || c.before args0 about1) = true := by decide +kernel
set_option maxRecDepth 65536 in
theorem w_t5 : (((((words1.drop 24).drop 24).drop 24).drop 24).take 24).all (fun c => isCode c || c.before args0 about1) = true := by decide +kernel
set_option maxRecDepth 65536 in
theorem w_t6 : (((((words1.drop 24).drop 24).drop 24).drop 24).drop 24).all (fun c => isCode c || c.before args0 about1) = true := by decide +kernel
theorem w_tables : (allAtoms (Jvm.Cond.code x code maxLocals ret :: tables_1)).before args0 about1 = true := by
  rw [allAtoms_all]
  show words1.all (fun c => c.before args0 about1) = true
  refine all_split ?_ w_codes
  rw [← List.take_append_drop 24 words1, List.all_append, w_t1, ← List.take_append_drop 24 (words1.drop 24), List.all_append, w_t2, ← List.take_append_drop 24 ((words1.drop 24).drop 24), List.all_append, w_t3, ← List.take_append_drop 24 (((words1.drop 24).drop 24).drop 24), List.all_append, w_t4, ← List.take_append_drop 24 ((((words1.drop 24).drop 24).drop 24).drop 24), List.all_append, w_t5, w_t6]
  rfl
set_option maxRecDepth 65536 in
theorem w_case : (Jvm.Cond.and given_1 narrow_1).before args0 about1 = true := by decide +kernel
theorem w_applies : (headSpec (Jvm.Cond.code x code maxLocals ret :: tables_1) room_1).applies x e0.platform about1 = true :=
  (Spec.applies_iff w_frames).mpr ⟨w_running, w_runnable, w_alone, w_named, w_hears, w_ripe, w_room, w_tables⟩
theorem atStart : AtStart classFile x code maxLocals ret World_1 tables_1 room_1 Calls_1 rest_1 Pre_1 launch0 p0 e0 about1 theMethod args0 below0 :=
  ⟨lists_1, trivial, launch0.admits_env _ _ _, launch0.least_env, fairChoices_fair.cas, fairChoices_fair.clock, w_frames, w_args, w_heap, w_applies, trivial, trivial, w_case⟩
end start1
theorem witness_1 : WitnessClaimed_1 := ⟨start1.p0, start1.e0, start1.about1, start1.theMethod, start1.args0, start1.below0, start1.atStart⟩
end Jvm.Pilot.@@N@@
