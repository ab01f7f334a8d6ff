import JvmDerived
import JvmDerived.Pilot.@@N@@Statement
import JvmDerived.Pilot.@@N@@Code
set_option linter.unusedVariables false
set_option linter.unusedSimpArgs false
namespace Jvm.Pilot.@@N@@
open Jvm Jvm.ClassFile Sem Op Lib Jvm.Free Jvm.Stand Jvm.LawKit Jvm.RoadKit Bundle Jvm.Pilot.@@N@@.Jvm.D
section Own
variable {p : Program} {l : Launch} {e : Env} {R : Room} {s : State} {m : MethodId} {args : Array Value} {below : List Frame} {meth : Method} {c : Code} {T : State} {locs : List Loc} {cells slots : Nat} {Z : State} {a0 : Array Value} {h : Heap}
/-- the goal of a walk is a predicate that may be carried back over steps -/
def Go (p : Program) (e : Env) (below : List Frame) (G : State → Prop) : Prop := ∀ F F' : State, (∀ t, Steps p.tables e below F' t → Steps p.tables e below F t) → G F' → G F
/-- how a walk ends: it returns v -/
def Rt (p : Program) (l : Launch) (e : Env) (R : Room) (s : State) (m : MethodId) (args : Array Value) (below : List Frame) (meth : Method) (c : Code) (Q : Option Value → Heap → List Loc → Prop) (kc ks : Nat) (G : State → Prop) : Prop :=
  ∀ (T : State) (locs : List Loc) (cells slots : Nat) (v : Option Value) (F : State), Stand p l e R s m args below meth c T locs cells slots → cells ≤ kc → slots ≤ ks → (meth.sig.returnType = none → v = none) → Q v T.heap locs →
    (∀ fs, (∀ (f : JFrame) (acts : List Action), f.method = m → f.locked = none → f.entered = [] → (doReturn e (T.setTop f) acts v).1 = T.setFrames fs) → Steps p.tables e below F (T.setFrames fs)) → G F
def Gl (p : Program) (e : Env) (below : List Frame) (s : State) (Q : Option Value → Heap → List Loc → Prop) (kc ks : Nat) (F : State) : Prop :=
  ∃ s₂ o, Steps p.tables e below F s₂ ∧ s₂.status = .running ∧ Ended s₂ below o ∧ ∃ v L, o = .returned v ∧ Q v s₂.heap L ∧ FrameEnd s o s₂ L kc ks
theorem gl_go {Q : Option Value → Heap → List Loc → Prop} {kc ks : Nat} : Go p e below (Gl p e below s Q kc ks) := fun F F' h g => by
  obtain ⟨s₂, o, h1, h2⟩ := g
  exact ⟨s₂, o, h _ h1, h2⟩
theorem gl_rt {Q : Option Value → Heap → List Loc → Prop} {kc ks : Nat} (hlk : meth.locks = false) : Rt p l e R s m args below meth c Q kc ks (Gl p e below s Q kc ks) := fun T locs cells slots v F X hc hs hv hQ st => by
  obtain ⟨fs, hr, hrun, hended, hW, hsame⟩ := X.leave (v := v) hv hlk
  exact ⟨_, _, st fs hr, hrun, hended, v, locs, rfl, hQ, ⟨_, rfl⟩, hW, hsame.mono hc hs⟩
/-- a method's contract, at given arguments and a given heap -/
def Con (l : Launch) (Z : State) (y : MethodName) (bytes : ByteArray) (maxL : Nat) (ret : Option FieldType) (rm : Room) (as' : Array Value) (h : Heap) (Q : Option Value → Heap → List Loc → Prop) : Prop :=
  ∀ ws, MetFree l y (head1 (Jvm.Cond.code y bytes maxL ret :: ws) rm) (fun a U => a = as' ∧ Z.Warmed39 U.vm ∧ U.heap = h) (fun _ _ _ _ _ => True) (fun _ U o U' => ∃ v L, o = .returned v ∧ Q v U'.heap L ∧ FrameEnd U o U' L rm.cells rm.slots)
theorem own_body {y : MethodName} {bytes : ByteArray} {maxL : Nat} {ret : Option FieldType} {rm : Room} {as' : Array Value} {h0 : Heap} {Q : Option Value → Heap → List Loc → Prop} (hp : plainFor y = true)
    (k : ∀ (p : Program) (e : Env) (s : State) (m : MethodId) (below : List Frame) (meth : Method) (c : Code) (s₁ : State), p.tables.exec = Jvm.exec → c.code = bytes → c.maxLocals = maxL → s.vm.findClass y.cls = some m.cls → meth.name = y.name → meth.sig.returnType = ret → Z.Warmed39 s.vm → s₁.heap = h0 →
      Stand p l e rm s m as' below meth c s₁ [] 0 0 → ∀ G : State → Prop, Go p e below G → Rt p l e rm s m as' below meth c Q rm.cells rm.slots G → G (s₁.setTop (entryFrame m as' maxL))) : Con l Z y bytes maxL ret rm as' h0 Q := fun ws => by
  refine MetFree.of_bodySF hp hisR ?_
  intro p e s m args below meth c s₁ Bd hml0 hP hK
  obtain ⟨rfl, hZ, hh⟩ := hP
  exact k p e s m below meth c s₁ Bd.exec Bd.bytes hml0 (findClass_of_methodNamed Bd.named) (name_of_methodNamed Bd.named Bd.method).1 Bd.returns hZ (by rw [← hh, Bd.state]; rfl) (Stand.of_body Bd) (Gl p e below s Q rm.cells rm.slots) gl_go (gl_rt Bd.notSynchronized)
theorem own_pop2L {tb : Tables} [Ours tb] {target : State} {g : JFrame} (h : At T m c below) (hx : tb.exec = Jvm.exec) (hg : g.method = m) {x : Int64} {rest : List Value} (hd : decode c.code g.pc = .ok (.pop2, 1)) (hs : g.stack = .long x :: rest)
    (hr : Steps tb e below (T.setTop { g with pc := g.pc + 1, stack := rest }) target) : Steps tb e below (T.setTop g) target := by
  subst hg
  jvm_step h [h.top, hx, hd, hs, pop2.wp_sem, Value.category]
  exact hr
theorem own_hide {k : Nat} (X : Stand p l e R s m args below meth c T locs cells slots) (N : Fr k locs) : ∃ L, Stand p l e R s m args below meth c T L cells slots ∧ Fr k L := ⟨_, X, N⟩
section Rets
variable {Q : Option Value → Heap → List Loc → Prop} {kc ks : Nat} {G : State → Prop}
theorem own_retI (rt : Rt p l e R s m args below meth c Q kc ks G) (X : Stand p l e R s m args below meth c T locs cells slots) (hx : p.tables.exec = Jvm.exec) {pc : Nat} {Ls : Array Slot} {rest : List Value} (hret : meth.sig.returnType = some .int) {z : Int32} (hd : decode c.code pc = .ok (.ireturn, 1)) (hc : cells ≤ kc) (hs : slots ≤ ks) (hQ : Q (some (.int z)) T.heap locs) : G (T.setTop (mkF m pc Ls (.int z :: rest))) :=
  rt T locs cells slots _ _ X hc hs (fun h => by rw [hret] at h; cases h) hQ fun fs hr => retOut X hx hret rfl (Or.inl ⟨rfl, Or.inl rfl, _, rfl⟩) hd hr
theorem own_retZ (rt : Rt p l e R s m args below meth c Q kc ks G) (X : Stand p l e R s m args below meth c T locs cells slots) (hx : p.tables.exec = Jvm.exec) {pc : Nat} {Ls : Array Slot} {rest : List Value} {t : FieldType} (hret : meth.sig.returnType = some t) (ht : t = .boolean ∨ t = .byte ∨ t = .char ∨ t = .short) {z : Int32} (hd : decode c.code pc = .ok (.ireturn, 1)) (hc : cells ≤ kc) (hs : slots ≤ ks) (hQ : Q (some (.int (nar t z))) T.heap locs) : G (T.setTop (mkF m pc Ls (.int z :: rest))) :=
  rt T locs cells slots _ _ X hc hs (fun h => by rw [hret] at h; cases h) hQ fun fs hr => retN X hx hret ht hd hr
theorem own_retJ (rt : Rt p l e R s m args below meth c Q kc ks G) (X : Stand p l e R s m args below meth c T locs cells slots) (hx : p.tables.exec = Jvm.exec) {pc : Nat} {Ls : Array Slot} {rest : List Value} (hret : meth.sig.returnType = some .long) {z : Int64} (hd : decode c.code pc = .ok (.lreturn, 1)) (hc : cells ≤ kc) (hs : slots ≤ ks) (hQ : Q (some (.long z)) T.heap locs) : G (T.setTop (mkF m pc Ls (.long z :: rest))) :=
  rt T locs cells slots _ _ X hc hs (fun h => by rw [hret] at h; cases h) hQ fun fs hr => retOut X hx hret rfl (Or.inr (Or.inl ⟨rfl, rfl, _, rfl⟩)) hd hr
theorem own_retA (rt : Rt p l e R s m args below meth c Q kc ks G) (X : Stand p l e R s m args below meth c T locs cells slots) (hx : p.tables.exec = Jvm.exec) {pc : Nat} {Ls : Array Slot} {rest : List Value} {t : FieldType} (hret : meth.sig.returnType = some t) (ht : t.isReference = true) {v : Value} (hv : v.isRef = true) (hd : decode c.code pc = .ok (.areturn, 1)) (hc : cells ≤ kc) (hs : slots ≤ ks) (hQ : Q (some v) T.heap locs) : G (T.setTop (mkF m pc Ls (v :: rest))) :=
  rt T locs cells slots _ _ X hc hs (fun h => by rw [hret] at h; cases h) hQ fun fs hr => retOut X hx hret (by cases t <;> cases v <;> first | rfl | (simp [FieldType.isReference, Value.isRef] at ht hv)) (Or.inr (Or.inr (Or.inr (Or.inr ⟨rfl, ht, hv⟩)))) hd hr
theorem own_retV (rt : Rt p l e R s m args below meth c Q kc ks G) (X : Stand p l e R s m args below meth c T locs cells slots) (hx : p.tables.exec = Jvm.exec) {pc : Nat} {Ls : Array Slot} (hret : meth.sig.returnType = none) (hd : decode c.code pc = .ok (.return_, 1)) (hc : cells ≤ kc) (hs : slots ≤ ks) (hQ : Q none T.heap locs) : G (T.setTop (mkF m pc Ls [])) :=
  rt T locs cells slots _ _ X hc hs (fun _ => rfl) hQ fun fs hr => X.returnOut hx hret hd hr
end Rets
theorem own_selpriv {y z : MethodName} {C : String} (hz : z.cls = y.cls) (hs : (Cond.selects C z z).before args s = true) (hpriv : s.PrivateAt y) (hinst : (Cond.instanceMethod y).before args s = true) (hy : y.cls ≠ "java/lang/invoke/MethodHandle" ∧ y.cls ≠ "java/lang/invoke/VarHandle") : (Cond.selects y.cls y y).before args s = true := by
  obtain ⟨c2, r2, m2, -, -, q3, -, kP, hkP, hkPi⟩ := Cond.selects_spec hs
  have q := findClass_of_methodNamed q3
  rw [hz] at q
  exact selects_self_of_private q hkP hkPi hpriv hinst hy
section Calls
variable {G : State → Prop}
theorem own_static (go : Go p e below G) (X : Stand p l e R s m args below meth c T locs cells slots) (hx : p.tables.exec = Jvm.exec) (hZ : Z.Warmed39 s.vm) (eT : T.heap = h) {own : String} {index : Nat} {y : MethodName} {bytes : ByteArray} {maxL : Nat} {ret : Option FieldType} {rm : Room} {as' : Array Value} {Q : Option Value → Heap → List Loc → Prop} (hown : s.vm.findClass own = some m.cls) (w1 : (Cond.methodLink own index y).before a0 Z = true) (w2 : (Cond.static y).before a0 Z = true) (w3 : (Cond.initialized y.cls).before a0 Z = true) (w4 : (Cond.code y bytes maxL ret).before a0 Z = true)
    (hy : y.cls ≠ "java/lang/invoke/MethodHandle" ∧ y.cls ≠ "java/lang/invoke/VarHandle") (hM : Con l Z y bytes maxL ret rm as' h Q) (W : Nat) (hf : rm.frames + 1 ≤ R.frames) (hl : W + (maxL + 11) + rm.locals ≤ R.locals) (hc : cells + rm.cells ≤ R.cells) (hs : slots + rm.slots ≤ R.slots)
    {g : JFrame} (hg : g.method = m) (hsize : g.locals.size = c.maxLocals) (argsL rest : List Value) (has : argsL.toArray = as') (hlen : ∀ sig, parseMethodDescriptor y.desc = some sig → argsL.length = sig.parameters.length)
    (hstack : g.stack = argsL.reverse ++ rest) (hW : 2 * g.monitorRoom + (rest.map fun v => v.category).sum ≤ W) (hd : decode c.code g.pc = .ok (.invokestatic index, 3))
    (k : ∀ (T' : State) (L' : List Loc) (v : Option Value), Stand p l e R s m args below meth c T' (locs ++ L') (cells + rm.cells) (slots + rm.slots) → Q v T'.heap L' → G (T'.setTop { g with pc := g.pc + 3, stack := v.toList ++ rest })) : G (T.setTop g) := by
  obtain ⟨v, _, ⟨T1, L1, k1, n1⟩, -, X1, ⟨Lc, hQ, l1, y1, z1⟩, st⟩ := Jvm.LawKit.callS X hx hown (mvT hZ w1) (mvT hZ w2) (mvT hZ w3) (mvT hZ w4) hy (backOf (R := R) (W := W) (hM []) hZ w4 w3 hf hl) hg hsize hlen hstack hW hd (fun _ _ => ⟨has, eT, hc, hs⟩)
  dsimp only [Pt.U, Pt.locs, Pt.cells, Pt.slots] at X1 l1 y1 z1 st hQ
  subst l1 y1 z1
  exact go _ _ st (k T1 Lc v X1 hQ)
theorem own_init (go : Go p e below G) (X : Stand p l e R s m args below meth c T locs cells slots) (hx : p.tables.exec = Jvm.exec) (hZ : Z.Warmed39 s.vm) (eT : T.heap = h) {own : String} {index : Nat} {y : MethodName} {bytes : ByteArray} {maxL : Nat} {rm : Room} {as' : Array Value} {Q : Option Value → Heap → List Loc → Prop} (hy1 : y.name = "<init>") (hown : s.vm.findClass own = some m.cls) (w1 : (Cond.methodLink own index y).before a0 Z = true) (w2 : (Cond.instanceMethod y).before a0 Z = true) (w3 : (Cond.initialized y.cls).before a0 Z = true) (w4 : (Cond.code y bytes maxL none).before a0 Z = true)
    (hy : y.cls ≠ "java/lang/invoke/MethodHandle" ∧ y.cls ≠ "java/lang/invoke/VarHandle") (hM : Con l Z y bytes maxL none rm as' h Q) (W : Nat) (hf : rm.frames + 1 ≤ R.frames) (hl : W + (maxL + 11) + rm.locals ≤ R.locals) (hc : cells + rm.cells ≤ R.cells) (hs : slots + rm.slots ≤ R.slots)
    {g : JFrame} (hg : g.method = m) (hsize : g.locals.size = c.maxLocals) (a : Addr) (argsL rest : List Value) (has : (.ref a :: argsL).toArray = as') (hlen : ∀ sig, parseMethodDescriptor y.desc = some sig → argsL.length = sig.parameters.length)
    (hstack : g.stack = argsL.reverse ++ .ref a :: rest) (hW : 2 * g.monitorRoom + (rest.map fun v => v.category).sum ≤ W) (hd : decode c.code g.pc = .ok (.invokespecial index, 3))
    (k : ∀ (T' : State) (L' : List Loc) (v : Option Value), Stand p l e R s m args below meth c T' (locs ++ L') (cells + rm.cells) (slots + rm.slots) → Q v T'.heap L' → G (T'.setTop { g with pc := g.pc + 3, stack := v.toList ++ rest })) : G (T.setTop g) := by
  obtain ⟨v, _, ⟨T1, L1, k1, n1⟩, -, X1, ⟨Lc, hQ, l1, y1, z1⟩, st⟩ := X.specialBack hx hy1 hown (mvT hZ w1) (mvT hZ w2) (mvT hZ w4) hy (backOf (R := R) (W := W) (hM []) hZ w4 w3 hf hl) hg hsize (Steps.refl _) (a := a) hlen hstack hW hd (fun _ _ => ⟨has, eT, hc, hs⟩)
  dsimp only [Pt.U, Pt.locs, Pt.cells, Pt.slots] at X1 l1 y1 z1 st hQ
  subst l1 y1 z1
  exact go _ _ (fun t k => st.trans k) (k T1 Lc v X1 hQ)
theorem own_virtual (go : Go p e below G) (X : Stand p l e R s m args below meth c T locs cells slots) (hx : p.tables.exec = Jvm.exec) (hZ : Z.Warmed39 s.vm) (eT : T.heap = h) {own : String} {index : Nat} {y : MethodName} {bytes : ByteArray} {maxL : Nat} {ret : Option FieldType} {rm : Room} {as' : Array Value} {Q : Option Value → Heap → List Loc → Prop} {C : String} {z : MethodName} (hown : s.vm.findClass own = some m.cls) (w1 : (Cond.methodLink own index y).before a0 Z = true) (w2 : (Cond.declares y).before a0 Z = true) (hnf : NotFace s y) (w3 : (Cond.selects C y z).before a0 Z = true) (w4 : (Cond.instanceMethod z).before a0 Z = true) (w5 : (Cond.initialized z.cls).before a0 Z = true) (w6 : (Cond.code z bytes maxL ret).before a0 Z = true)
    (hy : y.cls ≠ "java/lang/invoke/MethodHandle" ∧ y.cls ≠ "java/lang/invoke/VarHandle") (hM : Con l Z z bytes maxL ret rm as' h Q) (W : Nat) (hf : rm.frames + 1 ≤ R.frames) (hl : W + (maxL + 11) + rm.locals ≤ R.locals) (hc : cells + rm.cells ≤ R.cells) (hs : slots + rm.slots ≤ R.slots)
    {a : Addr} (E : Exa Z h a C) {g : JFrame} (hg : g.method = m) (hsize : g.locals.size = c.maxLocals) (argsL rest : List Value) (has : (.ref a :: argsL).toArray = as') (hlen : ∀ sig, parseMethodDescriptor y.desc = some sig → argsL.length = sig.parameters.length)
    (hstack : g.stack = argsL.reverse ++ .ref a :: rest) (hW : 2 * g.monitorRoom + (rest.map fun v => v.category).sum ≤ W) (hd : decode c.code g.pc = .ok (.invokevirtual index, 3))
    (k : ∀ (T' : State) (L' : List Loc) (v : Option Value), Stand p l e R s m args below meth c T' (locs ++ L') (cells + rm.cells) (slots + rm.slots) → Q v T'.heap L' → G (T'.setTop { g with pc := g.pc + 3, stack := v.toList ++ rest })) : G (T.setTop g) := by
  obtain ⟨cq, kq, qa, qb, qc⟩ := isOf hZ eT E
  obtain ⟨v, _, ⟨T1, L1, k1, n1⟩, -, X1, ⟨Lc, hQ, l1, y1, z1⟩, st⟩ := X.virtualBack hx hown (mvT hZ w1) (mvT hZ w2) hnf (mvT hZ w3) (mvT hZ w4) hy (backOf (R := R) (W := W) (hM []) hZ w6 w5 hf hl) qa qc hg hsize (Steps.refl _) hlen hstack hW hd (fun _ _ => ⟨has, eT, hc, hs⟩)
  dsimp only [Pt.U, Pt.locs, Pt.cells, Pt.slots] at X1 l1 y1 z1 st hQ
  subst l1 y1 z1
  exact go _ _ (fun t k => st.trans k) (k T1 Lc v X1 hQ)
theorem own_private (go : Go p e below G) (X : Stand p l e R s m args below meth c T locs cells slots) (hx : p.tables.exec = Jvm.exec) (hZ : Z.Warmed39 s.vm) (eT : T.heap = h) {own : String} {index : Nat} {y : MethodName} {bytes : ByteArray} {maxL : Nat} {ret : Option FieldType} {rm : Room} {as' : Array Value} {Q : Option Value → Heap → List Loc → Prop} (hown : s.vm.findClass own = some m.cls) (w1 : (Cond.methodLink own index y).before a0 Z = true) (w2 : (Cond.instanceMethod y).before a0 Z = true) {C0 : String} {z : MethodName} (w3 : (Cond.selects C0 z z).before a0 Z = true) (hz : z.cls = y.cls) (w4 : (Cond.privateMethod y).before a0 Z = true) (w5 : (Cond.initialized y.cls).before a0 Z = true) (w6 : (Cond.code y bytes maxL ret).before a0 Z = true)
    (hy : y.cls ≠ "java/lang/invoke/MethodHandle" ∧ y.cls ≠ "java/lang/invoke/VarHandle") (hM : Con l Z y bytes maxL ret rm as' h Q) (W : Nat) (hf : rm.frames + 1 ≤ R.frames) (hl : W + (maxL + 11) + rm.locals ≤ R.locals) (hc : cells + rm.cells ≤ R.cells) (hs : slots + rm.slots ≤ R.slots)
    {a : Addr} {C : String} (E : Exa Z h a C) {g : JFrame} (hg : g.method = m) (hsize : g.locals.size = c.maxLocals) (argsL rest : List Value) (has : (.ref a :: argsL).toArray = as') (hlen : ∀ sig, parseMethodDescriptor y.desc = some sig → argsL.length = sig.parameters.length)
    (hstack : g.stack = argsL.reverse ++ .ref a :: rest) (hW : 2 * g.monitorRoom + (rest.map fun v => v.category).sum ≤ W) (hd : decode c.code g.pc = .ok (.invokevirtual index, 3))
    (k : ∀ (T' : State) (L' : List Loc) (v : Option Value), Stand p l e R s m args below meth c T' (locs ++ L') (cells + rm.cells) (slots + rm.slots) → Q v T'.heap L' → G (T'.setTop { g with pc := g.pc + 3, stack := v.toList ++ rest })) : G (T.setTop g) := by
  obtain ⟨cq, q1, q2⟩ := E.cell
  obtain ⟨v, _, ⟨T1, L1, k1, n1⟩, -, X1, ⟨Lc, hQ, l1, y1, z1⟩, st⟩ := X.privateBack hx hown (mvT hZ w1) (mvT hZ w2) (own_selpriv hz (mvT hZ w3) (Cond.privateMethod_at (mvP hZ w4 (args := #[]))) (mvT hZ w2) hy) (Cond.privateMethod_at (mvP hZ w4 (args := #[]))) (mvT hZ w6) hy (backOf (R := R) (W := W) (hM []) hZ w6 w5 hf hl) hg hsize (Steps.refl _) (a := a) (by rw [eT]; exact q1) q2 hlen hstack hW hd (fun _ _ => ⟨has, eT, hc, hs⟩)
  dsimp only [Pt.U, Pt.locs, Pt.cells, Pt.slots] at X1 l1 y1 z1 st hQ
  subst l1 y1 z1
  exact go _ _ (fun t k => st.trans k) (k T1 Lc v X1 hQ)
theorem own_interface (go : Go p e below G) (X : Stand p l e R s m args below meth c T locs cells slots) (hx : p.tables.exec = Jvm.exec) (hZ : Z.Warmed39 s.vm) (eT : T.heap = h) {own : String} {index : Nat} {y : MethodName} {bytes : ByteArray} {maxL : Nat} {ret : Option FieldType} {rm : Room} {as' : Array Value} {Q : Option Value → Heap → List Loc → Prop} {C : String} {z : MethodName} {count : Nat} (hown : s.vm.findClass own = some m.cls) (w1 : (Cond.methodLink own index y).before a0 Z = true) (w2 : (Cond.declares y).before a0 Z = true) (w2b : (Cond.interfaceMethod y.cls y.cls y.name y.desc).before args s = true) (w3 : (Cond.selects C y z).before a0 Z = true) (w4 : (Cond.instanceMethod z).before a0 Z = true) (w4b : (Cond.publicMethod z).before a0 Z = true) (w4c : (Cond.unhidden C y.name y.desc).before a0 Z = true) (w4d : (Cond.castable C y.cls).before a0 Z = true) (w5 : (Cond.initialized z.cls).before a0 Z = true) (w6 : (Cond.code z bytes maxL ret).before a0 Z = true)
    (hy : y.cls ≠ "java/lang/invoke/MethodHandle" ∧ y.cls ≠ "java/lang/invoke/VarHandle") (hM : Con l Z z bytes maxL ret rm as' h Q) (W : Nat) (hf : rm.frames + 1 ≤ R.frames) (hl : W + (maxL + 11) + rm.locals ≤ R.locals) (hc : cells + rm.cells ≤ R.cells) (hs : slots + rm.slots ≤ R.slots)
    {a : Addr} (E : Exa Z h a C) {g : JFrame} (hg : g.method = m) (hsize : g.locals.size = c.maxLocals) (argsL rest : List Value) (has : (.ref a :: argsL).toArray = as') (hlen : ∀ sig, parseMethodDescriptor y.desc = some sig → argsL.length = sig.parameters.length)
    (hstack : g.stack = argsL.reverse ++ .ref a :: rest) (hW : 2 * g.monitorRoom + (rest.map fun v => v.category).sum ≤ W) (hd : decode c.code g.pc = .ok (.invokeinterface index count, 5))
    (k : ∀ (T' : State) (L' : List Loc) (v : Option Value), Stand p l e R s m args below meth c T' (locs ++ L') (cells + rm.cells) (slots + rm.slots) → Q v T'.heap L' → G (T'.setTop { g with pc := g.pc + 5, stack := v.toList ++ rest })) : G (T.setTop g) := by
  obtain ⟨cq, kq, qa, qb, qc⟩ := isOf hZ eT E
  obtain ⟨v, _, ⟨T1, L1, k1, n1⟩, -, X1, ⟨Lc, hQ, l1, y1, z1⟩, st⟩ := X.interfaceBack hx hown (mvT hZ w1) (mvT hZ w2) w2b (mvT hZ w3) (mvT hZ w4) (mvT hZ w4b) (mvT hZ w4c) (mvT hZ w4d) hy (backOf (R := R) (W := W) (hM []) hZ w6 w5 hf hl) qa qb qc hg hsize (Steps.refl _) hlen hstack hW hd (fun _ _ => ⟨has, eT, hc, hs⟩)
  dsimp only [Pt.U, Pt.locs, Pt.cells, Pt.slots] at X1 l1 y1 z1 st hQ
  subst l1 y1 z1
  exact go _ _ (fun t k => st.trans k) (k T1 Lc v X1 hQ)
end Calls
end Own
section OwnArr
variable {p : Program} {l : Launch} {e : Env} {R : Room} {s : State} {m : MethodId} {args : Array Value} {below : List Frame} {meth : Method} {c : Code} {T : State} {locs : List Loc} {cells slots : Nat} {Z : State} {a0 : Array Value} {h h' : Heap} {a b : Addr} {ty : FieldType} {n sl : Nat} {f : Nat → Value} {v w : Value} {ws : List Addr}
/-- an array: its kind, its length, what lies in it -/
def Ary (Z : State) (h : Heap) (a : Addr) (ty : FieldType) (n : Nat) (f : Nat → Value) : Prop := ∃ c : Cell, Arr Z h a c ty ∧ c.slots.size = n ∧ n < 2147483648 ∧ (∀ i, i < n → c.slots[i]? = some (f i)) ∧ ∀ i, i < n → fits ty (f i) = true
theorem Ary.lt (F : Ary Z h a ty n f) : a < h.size := by obtain ⟨c, A, -⟩ := F; exact A.lt
theorem own_ary_ns (F : Ary Z h a ty n f) : ∃ c : Cell, h[a]? = some c ∧ c.vm.isStatics = false := by obtain ⟨c, A, -⟩ := F; exact ⟨c, A.1, A.plain⟩
theorem Ary.ext (F : Ary Z h a ty n f) (E : Ext h h') : Ary Z h' a ty n f := by obtain ⟨c, A, r⟩ := F; exact ⟨c, A.ext E, r⟩
theorem Ary.other (F : Ary Z h b ty n f) (W : Wr h h' a sl v) (q : b ≠ a) : Ary Z h' b ty n f := by obtain ⟨c, A, r⟩ := F; exact ⟨c, A.other W q, r⟩
theorem Ary.keep (F : Ary Z h a ty n f) (K : Keep h h' ws) (q : a ∉ ws) : Ary Z h' a ty n f := by obtain ⟨c, A, r⟩ := F; exact ⟨c, ⟨K.2.1 a c A.1 q, A.2⟩, r⟩
theorem Ary.cong {g : Nat → Value} (F : Ary Z h a ty n f) (q : ∀ i, i < n → f i = g i) : Ary Z h a ty n g := by
  obtain ⟨c, A, r1, r2, r3, r4⟩ := F
  exact ⟨c, A, r1, r2, fun i hi => by rw [← q i hi]; exact r3 i hi, fun i hi => by rw [← q i hi]; exact r4 i hi⟩
theorem Ary.same (W : Wr h h' a sl v) (F : Ary Z h a ty n f) (hv : fits ty v = true) : Ary Z h' a ty n (fun q => if q = sl then v else f q) := by
  obtain ⟨c, A, r1, r2, r3, r4⟩ := F
  refine ⟨_, A.same W, (sz_set _ _ _).trans r1, r2, fun i hi => ?_, fun i hi => ?_⟩
  · show (c.slots.setIfInBounds sl v)[i]? = _
    by_cases q : i = sl
    · subst q; simp [r1, hi]
    · rw [Array.getElem?_setIfInBounds_ne (fun z => q z.symm), r3 i hi]; simp [q]
  · show fits ty (if i = sl then v else f i) = true
    by_cases q : i = sl
    · simp [q, hv]
    · simp [q, r4 i hi]
theorem Ary.new {cA : ClassId} {z : Int32} (A : Arr Z h a (newA cA ty z) ty) (q : ¬ z < 0) : Ary Z h a ty z.toNatClampNeg (fun _ => defaultValue ty) :=
  ⟨_, A, sz_new _ _ _, (back32 q).2, fun i hi => by simp [newA, hi], fun i _ => by cases ty <;> rfl⟩
theorem Ary.ints (F : Ary Z h a ty n f) (ht : ty = .int ∨ ty = .boolean ∨ ty = .byte ∨ ty = .char ∨ ty = .short) : ∃ gg : Nat → Int32, Ary Z h a ty n (fun i => .int (gg i)) := by
  refine ⟨fun i => match f i with | .int y => y | _ => 0, F.cong fun i hi => ?_⟩
  obtain ⟨c, -, -, -, -, r4⟩ := F
  obtain ⟨y, hy⟩ := fit_I (r4 i hi) ht
  show f i = Value.int (match f i with | .int y => y | _ => 0)
  rw [hy]
theorem ix_of {j : Int32} {i : Nat} (hi : j.toInt = i) : j.toNatClampNeg = i := by simp [Int32.toNatClampNeg, hi]
theorem ix_in {j : Int32} {i k : Nat} (hi : j.toInt = i) (hk : i < k) : ¬ (j < 0 ∨ k ≤ j.toNatClampNeg) := by
  rw [ix_of hi]
  intro q
  rcases q with q | q
  · rw [Int32.lt_iff_toInt_lt, hi] at q
    have : (0 : Int32).toInt = 0 := rfl
    omega
  · omega
section St
variable {G : State → Prop}
theorem own_iastore (go : Go p e below G) (X : Stand p l e R s m args below meth c T locs cells slots) (hx : p.tables.exec = Jvm.exec) (hZ : Z.Warmed39 s.vm) (eT : T.heap = h) {j x : Int32} (i : Nat) (hi : j.toInt = i) (hlt : i < n) {g : JFrame} (hg : g.method = m) {rest : List Value} (F : Ary Z h a .int n f) (hs : g.stack = .int x :: .int j :: .ref a :: rest) (hd : decode c.code g.pc = .ok (.iastore, 1))
    (k : ∀ (T' : State) (h' : Heap), Stand p l e R s m args below meth c T' (locs ++ [⟨a, i⟩]) cells slots → T'.heap = h' → Wr h h' a i (.int x) → Ary Z h' a .int n (fun q => if q = i then .int x else f q) → G (T'.setTop { g with pc := g.pc + 1, stack := rest })) : G (T.setTop g) := by
  obtain ⟨cl, A, r1, r2, r3, r4⟩ := F
  have hj : ¬ (j < 0 ∨ cl.slots.size ≤ j.toNatClampNeg) := by rw [r1]; exact ix_in hi hlt
  obtain ⟨T1, h1, X1, e1, W1, st⟩ := stI X hx hZ eT A hj hg hs hd
  rw [ix_of hi] at X1 W1
  exact go _ _ st (k T1 h1 X1 e1 W1 (Ary.same W1 ⟨cl, A, r1, r2, r3, r4⟩ rfl))
theorem own_bastore (go : Go p e below G) (X : Stand p l e R s m args below meth c T locs cells slots) (hx : p.tables.exec = Jvm.exec) (hZ : Z.Warmed39 s.vm) (eT : T.heap = h) {j x : Int32} (i : Nat) (hi : j.toInt = i) (hlt : i < n) {g : JFrame} (hg : g.method = m) {rest : List Value} (F : Ary Z h a .byte n f) (hs : g.stack = .int x :: .int j :: .ref a :: rest) (hd : decode c.code g.pc = .ok (.bastore, 1))
    (k : ∀ (T' : State) (h' : Heap), Stand p l e R s m args below meth c T' (locs ++ [⟨a, i⟩]) cells slots → T'.heap = h' → Wr h h' a i (.int (nar .byte x)) → Ary Z h' a .byte n (fun q => if q = i then .int (nar .byte x) else f q) → G (T'.setTop { g with pc := g.pc + 1, stack := rest })) : G (T.setTop g) := by
  obtain ⟨cl, A, r1, r2, r3, r4⟩ := F
  have hj : ¬ (j < 0 ∨ cl.slots.size ≤ j.toNatClampNeg) := by rw [r1]; exact ix_in hi hlt
  obtain ⟨T1, h1, X1, e1, W1, st⟩ := stB X hx hZ eT A hj hg hs hd
  rw [ix_of hi] at X1 W1
  exact go _ _ st (k T1 h1 X1 e1 W1 (Ary.same W1 ⟨cl, A, r1, r2, r3, r4⟩ (fits_nar_byte _)))
theorem own_zastore (go : Go p e below G) (X : Stand p l e R s m args below meth c T locs cells slots) (hx : p.tables.exec = Jvm.exec) (hZ : Z.Warmed39 s.vm) (eT : T.heap = h) {j x : Int32} (i : Nat) (hi : j.toInt = i) (hlt : i < n) {g : JFrame} (hg : g.method = m) {rest : List Value} (F : Ary Z h a .boolean n f) (hs : g.stack = .int x :: .int j :: .ref a :: rest) (hd : decode c.code g.pc = .ok (.bastore, 1))
    (k : ∀ (T' : State) (h' : Heap), Stand p l e R s m args below meth c T' (locs ++ [⟨a, i⟩]) cells slots → T'.heap = h' → Wr h h' a i (.int (nar .boolean x)) → Ary Z h' a .boolean n (fun q => if q = i then .int (nar .boolean x) else f q) → G (T'.setTop { g with pc := g.pc + 1, stack := rest })) : G (T.setTop g) := by
  obtain ⟨cl, A, r1, r2, r3, r4⟩ := F
  have hj : ¬ (j < 0 ∨ cl.slots.size ≤ j.toNatClampNeg) := by rw [r1]; exact ix_in hi hlt
  obtain ⟨T1, h1, X1, e1, W1, st⟩ := stZ X hx hZ eT A hj hg hs hd
  rw [ix_of hi] at X1 W1
  exact go _ _ st (k T1 h1 X1 e1 W1 (Ary.same W1 ⟨cl, A, r1, r2, r3, r4⟩ (fits_nar_bool _)))
theorem own_iaload (go : Go p e below G) (X : Stand p l e R s m args below meth c T locs cells slots) (hx : p.tables.exec = Jvm.exec) (hZ : Z.Warmed39 s.vm) (eT : T.heap = h) {j : Int32} (i : Nat) (hi : j.toInt = i) (hlt : i < n) {g : JFrame} (hg : g.method = m) {rest : List Value} (F : Ary Z h a .int n f) (hs : g.stack = .int j :: .ref a :: rest) (hd : decode c.code g.pc = .ok (.iaload, 1)) (k : G (T.setTop { g with pc := g.pc + 1, stack := f i :: rest })) : G (T.setTop g) := by
  obtain ⟨cl, A, r1, r2, r3, r4⟩ := F
  have hj : ¬ (j < 0 ∨ cl.slots.size ≤ j.toNatClampNeg) := by rw [r1]; exact ix_in hi hlt
  exact go _ _ (fun t => X.iaload hx (by rw [eT]; exact A.1) (State.isArrayOf_alike hZ.alike A.2.1) A.2.2 hj (by rw [ix_of hi]; exact r3 i hlt) hg hs hd t) k
theorem own_baload (go : Go p e below G) (X : Stand p l e R s m args below meth c T locs cells slots) (hx : p.tables.exec = Jvm.exec) (hZ : Z.Warmed39 s.vm) (eT : T.heap = h) {j : Int32} (i : Nat) (hi : j.toInt = i) (hlt : i < n) {g : JFrame} (hg : g.method = m) {rest : List Value} (F : Ary Z h a .byte n f) (hs : g.stack = .int j :: .ref a :: rest) (hd : decode c.code g.pc = .ok (.baload, 1)) (k : G (T.setTop { g with pc := g.pc + 1, stack := f i :: rest })) : G (T.setTop g) := by
  obtain ⟨cl, A, r1, r2, r3, r4⟩ := F
  have hj : ¬ (j < 0 ∨ cl.slots.size ≤ j.toNatClampNeg) := by rw [r1]; exact ix_in hi hlt
  exact go _ _ (fun t => X.baloadBytes hx (by rw [eT]; exact A.1) (State.isArrayOf_alike hZ.alike A.2.1) A.2.2 hj (by rw [ix_of hi]; exact r3 i hlt) hg hs hd t) k
theorem own_zaload (go : Go p e below G) (X : Stand p l e R s m args below meth c T locs cells slots) (hx : p.tables.exec = Jvm.exec) (hZ : Z.Warmed39 s.vm) (eT : T.heap = h) {j : Int32} (i : Nat) (hi : j.toInt = i) (hlt : i < n) {g : JFrame} (hg : g.method = m) {rest : List Value} (F : Ary Z h a .boolean n f) (hs : g.stack = .int j :: .ref a :: rest) (hd : decode c.code g.pc = .ok (.baload, 1)) (k : G (T.setTop { g with pc := g.pc + 1, stack := f i :: rest })) : G (T.setTop g) := by
  obtain ⟨cl, A, r1, r2, r3, r4⟩ := F
  have hj : ¬ (j < 0 ∨ cl.slots.size ≤ j.toNatClampNeg) := by rw [r1]; exact ix_in hi hlt
  exact go _ _ (fun t => X.baloadBooleans hx (by rw [eT]; exact A.1) (State.isArrayOf_alike hZ.alike A.2.1) A.2.2 hj (by rw [ix_of hi]; exact r3 i hlt) hg hs hd t) k
theorem own_arrlen (go : Go p e below G) (X : Stand p l e R s m args below meth c T locs cells slots) (hx : p.tables.exec = Jvm.exec) (hZ : Z.Warmed39 s.vm) (eT : T.heap = h) {g : JFrame} (hg : g.method = m) {rest : List Value} (F : Ary Z h a ty n f) (hs : g.stack = .ref a :: rest) (hd : decode c.code g.pc = .ok (.arraylength, 1)) (k : G (T.setTop { g with pc := g.pc + 1, stack := .int n.toInt32 :: rest })) : G (T.setTop g) := by
  obtain ⟨cl, A, r1, r2, r3, r4⟩ := F
  subst r1
  exact go _ _ (fun t => X.arraylength hx (by rw [eT]; exact A.1) (State.isArrayOf_alike hZ.alike A.2.1) hg hs hd t) k
theorem own_newarr (go : Go p e below G) (X : Stand p l e R s m args below meth c T locs cells slots) (hx : p.tables.exec = Jvm.exec) (hZ : Z.Warmed39 s.vm) (eT : T.heap = h) {g : JFrame} (hg : g.method = m) {rest : List Value} {aty : ArrayType} (w : (Cond.arrayClass (newarray.typeOf aty)).before a0 Z = true) {z : Int32} (nn : Nat) (hz : z.toInt = nn) (hd : decode c.code g.pc = .ok (.newarray aty, 2)) (hs : g.stack = .int z :: rest)
    (cap : Nat) (hcap : nn ≤ cap) (hb : cap * 8 ≤ 536870912) (hc : cells + 1 ≤ R.cells) (hl : slots + cap ≤ R.slots)
    (k : ∀ (T' : State) (h' : Heap) (a : Addr), Stand p l e R s m args below meth c T' locs (cells + 1) (slots + cap) → T'.heap = h' → Ext h h' → a = h.size → Ary Z h' a (newarray.typeOf aty) nn (fun _ => defaultValue (newarray.typeOf aty)) → G (T'.setTop { g with pc := g.pc + 2, stack := .ref a :: rest })) : G (T.setTop g) := by
  have q : ¬ z < 0 := by
    rw [Int32.lt_iff_toInt_lt, hz]
    have : (0 : Int32).toInt = 0 := rfl
    omega
  obtain ⟨T1, h1, cA, X1, e1, E1, A1, st⟩ := newP X hx hZ w eT hg hd hs q (cap := cap) (by rw [ix_of hz]; exact hcap) hb hc hl
  have F := Ary.new A1 q
  rw [ix_of hz] at F
  exact go _ _ st (k T1 h1 _ X1 e1 E1 rfl F)
theorem own_aastoreN (go : Go p e below G) (X : Stand p l e R s m args below meth c T locs cells slots) (hx : p.tables.exec = Jvm.exec) (hZ : Z.Warmed39 s.vm) (eT : T.heap = h) {j : Int32} (i : Nat) (hi : j.toInt = i) (hlt : i < n) {g : JFrame} (hg : g.method = m) {rest : List Value} (F : Ary Z h a ty n f) (hty : ty.isReference = true) (hs : g.stack = .null :: .int j :: .ref a :: rest) (hd : decode c.code g.pc = .ok (.aastore, 1))
    (k : ∀ (T' : State) (h' : Heap), Stand p l e R s m args below meth c T' (locs ++ [⟨a, i⟩]) cells slots → T'.heap = h' → Wr h h' a i .null → Ary Z h' a ty n (fun q => if q = i then .null else f q) → G (T'.setTop { g with pc := g.pc + 1, stack := rest })) : G (T.setTop g) := by
  obtain ⟨cl, A, r1, r2, r3, r4⟩ := F
  have hj : ¬ (j < 0 ∨ cl.slots.size ≤ j.toNatClampNeg) := by rw [r1]; exact ix_in hi hlt
  obtain ⟨T1, h1, X1, e1, W1, st⟩ := stR X hx hZ eT A hj hty (Or.inl rfl) hg hs hd
  rw [ix_of hi] at X1 W1
  exact go _ _ st (k T1 h1 X1 e1 W1 (Ary.same W1 ⟨cl, A, r1, r2, r3, r4⟩ (by cases ty <;> first | rfl | (simp [FieldType.isReference] at hty))))
theorem own_newref (go : Go p e below G) (X : Stand p l e R s m args below meth c T locs cells slots) (hx : p.tables.exec = Jvm.exec) (hZ : Z.Warmed39 s.vm) (eT : T.heap = h) {g : JFrame} (hg : g.method = m) {rest : List Value} {own C : String} {index : Nat} (hown : s.vm.findClass own = some m.cls) (w1 : (Cond.classLink own index C).before a0 Z = true) (w2 : (Cond.arrayOver (.object C)).before a0 Z = true) {z : Int32} (nn : Nat) (hz : z.toInt = nn) (hd : decode c.code g.pc = .ok (.anewarray index, 3)) (hs : g.stack = .int z :: rest)
    (cap : Nat) (hcap : nn ≤ cap) (hb : cap * 8 ≤ 536870912) (hc : cells + 1 ≤ R.cells) (hl : slots + cap ≤ R.slots)
    (k : ∀ (T' : State) (h' : Heap) (a : Addr), Stand p l e R s m args below meth c T' locs (cells + 1) (slots + cap) → T'.heap = h' → Ext h h' → a = h.size → Ary Z h' a (.object C) nn (fun _ => .null) → G (T'.setTop { g with pc := g.pc + 3, stack := .ref a :: rest })) : G (T.setTop g) := by
  have q : ¬ z < 0 := by
    rw [Int32.lt_iff_toInt_lt, hz]
    have : (0 : Int32).toInt = 0 := rfl
    omega
  obtain ⟨T1, h1, cA, X1, e1, E1, A1, -, st⟩ := newR X hx hZ hown w1 w2 eT hg hd hs q (cap := cap) (by rw [ix_of hz]; exact hcap) hb hc hl
  have F := Ary.new A1 q
  rw [ix_of hz] at F
  exact go _ _ st (k T1 h1 _ X1 e1 E1 rfl F)
end St
end OwnArr
section OwnSta
variable {args : Array Value} {s Z : State} {C n d K : String} {a b : Addr} {h h' : Heap} {v w : Value} {t : Term} {ws : List Addr}
theorem own_sta (hx : (Jvm.Cond.exactly (Term.static C n d) K).value args s none s [] = some true) (w1 : (Jvm.Cond.initialized C).before args s = true) (w2 : (Jvm.Cond.laysStatic C n d).before args s = true) :
    ∃ a, Sta s s.heap C n d (.ref a) ∧ Exa s s.heap a K ∧ (Term.static C n d).eval args s none [] s = some (.ref a) := by
  obtain ⟨a, ev⟩ := exa_v hx
  exact ⟨a, Sta.start ev (Or.inr ⟨w1, w2⟩), Exa.start ev hx, ev⟩
theorem own_fieldeq {k : Int32} (ev : t.eval args s none [] s = some (.ref a)) (hq : (Jvm.Cond.eq (.field t C n d) (.int k)).value args s none s [] = some true) : Fld s s.heap a C n d (.int k) := by
  obtain ⟨x, y, ex, ey, k1, k2⟩ := cmp_v (Or.inl hq)
  have ey' := Option.some.inj ((Term.int_eval k).symm.trans ey)
  subst ey'
  obtain ⟨z, rfl⟩ := k2
  have := gotT (Cond.eq_ints ex ey) hq
  subst this
  rw [fld_at ev] at ex
  exact Fld.start ex
theorem own_sta_keep (F : Sta Z h C n d v) (K : Keep h h' ws) (q : ∀ w ∈ ws, ∃ c : Cell, h[w]? = some c ∧ c.vm.isStatics = false) : Sta Z h' C n d v := by
  obtain ⟨cf, i, k, f, st, cell, h1, h2, h3, h4, h5, h6, h7⟩ := F
  refine ⟨cf, i, k, f, st, cell, h1, h2, h3, h4, K.2.1 st cell h5 (fun hm => ?_), h6, h7⟩
  obtain ⟨c, e1, e2⟩ := q st hm
  cases h5.symm.trans e1
  rw [h6] at e2
  cases e2
theorem own_exa_ns (E : Exa Z h a C) : ∃ c : Cell, h[a]? = some c ∧ c.vm.isStatics = false := by
  obtain ⟨cell, k, h1, -, -, h4, -⟩ := E
  exact ⟨cell, h1, h4⟩
end OwnSta
section OwnW
variable {p : Program} {l : Launch} {e : Env} {R : Room} {s : State} {m : MethodId} {args : Array Value} {below : List Frame} {meth : Method} {c : Code} {T : State} {locs : List Loc} {cells slots : Nat} {Z : State} {a0 : Array Value} {h : Heap}
def GlW (p : Program) (e : Env) (below : List Frame) (s : State) (Q : Option Value → Heap → List Loc → Prop) (kc ks : Nat) (F : State) : Prop :=
  ∃ s₂ o, Steps p.tables e below F s₂ ∧ s₂.status = .running ∧ Ended s₂ below o ∧ ∃ v L, o = .returned v ∧ Q v s₂.heap L ∧ ReturnedEndW s o s₂ L kc ks
theorem glW_go {Q : Option Value → Heap → List Loc → Prop} {kc ks : Nat} : Go p e below (GlW p e below s Q kc ks) := fun F F' h g => by
  obtain ⟨s₂, o, h1, h2⟩ := g
  exact ⟨s₂, o, h _ h1, h2⟩
/-- how a walk that may intern ends: over every later table -/
def RtB (p : Program) (l : Launch) (e : Env) (R : Room) (s : State) (m : MethodId) (args : Array Value) (below : List Frame) (meth : Method) (c : Code) (Q : Option Value → Heap → List Loc → Prop) (kc ks : Nat) (G : State → Prop) (kS : Nat) : Prop :=
  ∀ (vm1 : Vm) (k1 : Nat), s.Since vm1 k1 → kS ≤ k1 → Rt p l e R (s.setVm vm1) m args below meth c (fun v h L => k1 ≤ h.size ∧ Q v h L) kc ks G
theorem glW_rb {Q : Option Value → Heap → List Loc → Prop} {kc ks : Nat} (hlk : meth.locks = false) : RtB p l e R s m args below meth c Q kc ks (GlW p e below s Q kc ks) 0 := fun vm1 k1 hS _ T locs cells slots v F X hc hs hv hQ st => by
  obtain ⟨fs, hr, hrun, hended, hW⟩ := X.leaveW hS hQ.1 (v := v) hv hlk
  exact ⟨_, _, st fs hr, hrun, hended, v, locs, rfl, hQ.2, hW.1, hW.2.1, hW.2.2.1, hW.2.2.2.mono hc hs⟩
theorem own_since (s : State) (n : Nat) : s.Since s.vm n := (State.WarmedH.refl s).since n
theorem own_since_mono {vm1 : Vm} {i j : Nat} (h : s.Since vm1 i) (q : i ≤ j) : s.Since vm1 j := ⟨h.1, fun n x a b => ⟨(h.2 n x a b).1, Nat.lt_of_lt_of_le (h.2 n x a b).2 q⟩⟩
section RB
variable {Q : Option Value → Heap → List Loc → Prop} {kc ks : Nat} {G : State → Prop} {kS : Nat}
theorem own_rt (rb : RtB p l e R s m args below meth c Q kc ks G kS) : Rt p l e R s m args below meth c (fun v h L => kS ≤ h.size ∧ Q v h L) kc ks G := rb s.vm kS (own_since s kS) (Nat.le_refl _)
theorem own_reb (rb : RtB p l e R s m args below meth c Q kc ks G kS) {vm1 : Vm} {k1 : Nat} (hS : s.Since vm1 k1) (hk : kS ≤ k1) : RtB p l e R (s.setVm vm1) m args below meth c Q kc ks G k1 := fun vm2 k2 h2 h => rb vm2 k2 (hS.trans h2 h) (Nat.le_trans hk h)
end RB
/-- a method's contract, where it may intern -/
def ConW (l : Launch) (Z : State) (y : MethodName) (bytes : ByteArray) (maxL : Nat) (ret : Option FieldType) (rm : Room) (as' : Array Value) (h : Heap) (Q : Option Value → Heap → List Loc → Prop) : Prop :=
  ∀ ws, MetFree l y (head1 (Jvm.Cond.code y bytes maxL ret :: ws) rm) (fun a U => a = as' ∧ Z.Warmed39 U.vm ∧ U.heap = h) (fun _ _ _ _ _ => True) (fun _ U o U' => ∃ v L, o = .returned v ∧ Q v U'.heap L ∧ ReturnedEndW U o U' L rm.cells rm.slots)
theorem own_bodyW {y : MethodName} {bytes : ByteArray} {maxL : Nat} {ret : Option FieldType} {rm : Room} {as' : Array Value} {h0 : Heap} {Q : Option Value → Heap → List Loc → Prop} (hp : plainFor y = true)
    (k : ∀ (p : Program) (e : Env) (s : State) (m : MethodId) (below : List Frame) (meth : Method) (c : Code) (s₁ : State), p.tables.exec = Jvm.exec → c.code = bytes → c.maxLocals = maxL → s.vm.findClass y.cls = some m.cls → meth.name = y.name → meth.sig.returnType = ret → Z.Warmed39 s.vm → s₁.heap = h0 →
      Stand p l e rm s m as' below meth c s₁ [] 0 0 → ∀ G : State → Prop, Go p e below G → ∀ kS, RtB p l e rm s m as' below meth c Q rm.cells rm.slots G kS → kS ≤ h0.size → G (s₁.setTop (entryFrame m as' maxL))) : ConW l Z y bytes maxL ret rm as' h0 Q := fun ws => by
  refine MetFree.of_bodySF hp hisR ?_
  intro p e s m args below meth c s₁ Bd hml0 hP hK
  obtain ⟨rfl, hZ, hh⟩ := hP
  exact k p e s m below meth c s₁ Bd.exec Bd.bytes hml0 (findClass_of_methodNamed Bd.named) (name_of_methodNamed Bd.named Bd.method).1 Bd.returns hZ (by rw [← hh, Bd.state]; rfl) (Stand.of_body Bd) (GlW p e below s Q rm.cells rm.slots) glW_go 0 (glW_rb Bd.notSynchronized) (Nat.zero_le _)
section CallsW
variable {G : State → Prop} {Qm : Option Value → Heap → List Loc → Prop} {kc ks kS : Nat}
theorem own_ldcS (go : Go p e below G) (X : Stand p l e R s m args below meth c T locs cells slots) (hx : p.tables.exec = Jvm.exec) (hZ : Z.Warmed39 s.vm) (eT : T.heap = h) {own text : String} {index : Nat} (hown : s.vm.findClass own = some m.cls) (w : (Cond.stringLink own index text).before a0 Z = true) (wS : ∀ a ∈ Bundle.stringAtoms, a.before a0 Z = true)
    (rb : RtB p l e R s m args below meth c Qm kc ks G kS) (hk : kS ≤ h.size) {g : JFrame} (hg : g.method = m) (hd : decode c.code g.pc = .ok (.ldc index, 2)) (n : Nat) (hn : 4 * text.toList.length ≤ n) (hbig : n ≤ 536870912) (hc : cells + 2 ≤ R.cells) (hl : slots + (n + 4) ≤ R.slots)
    (k : ∀ (s : State) (kS : Nat) (T' : State) (h' : Heap) (a : Addr), Z.Warmed39 s.vm → s.vm.findClass own = some m.cls → RtB p l e R s m args below meth c Qm kc ks G kS → kS ≤ h'.size → Stand p l e R s m args below meth c T' locs (cells + 2) (slots + (n + 4)) → T'.heap = h' → Ext h h' → G (T'.setTop { g with pc := g.pc + 2, stack := .ref a :: g.stack })) : G (T.setTop g) := by
  obtain ⟨a, T', h', k1, X', eT', E, hS, hk1, hZ', hown', st⟩ := ldcS (s := s) (vm0 := s.vm) X hx hZ hown w wS eT (own_since s kS) hk hg hd hn hbig hc hl
  exact go _ _ st (k _ h'.size T' h' a hZ' hown' (own_reb rb (own_since_mono hS hk1) (Nat.le_trans hk E.1)) (Nat.le_refl _) X' eT' E)
theorem own_staticW (go : Go p e below G) (X : Stand p l e R s m args below meth c T locs cells slots) (hx : p.tables.exec = Jvm.exec) (hZ : Z.Warmed39 s.vm) (eT : T.heap = h) {own : String} {index : Nat} {y : MethodName} {bytes : ByteArray} {maxL : Nat} {ret : Option FieldType} {rm : Room} {as' : Array Value} {Q : Option Value → Heap → List Loc → Prop} (hown : s.vm.findClass own = some m.cls) (w1 : (Cond.methodLink own index y).before a0 Z = true) (w2 : (Cond.static y).before a0 Z = true) (w3 : (Cond.initialized y.cls).before a0 Z = true) (w4 : (Cond.code y bytes maxL ret).before a0 Z = true)
    (hy : y.cls ≠ "java/lang/invoke/MethodHandle" ∧ y.cls ≠ "java/lang/invoke/VarHandle") (hM : ConW l Z y bytes maxL ret rm as' h Q) (W : Nat) (hf : rm.frames + 1 ≤ R.frames) (hl : W + (maxL + 11) + rm.locals ≤ R.locals) (hc : cells + rm.cells ≤ R.cells) (hs : slots + rm.slots ≤ R.slots)
    {g : JFrame} (hg : g.method = m) (hsize : g.locals.size = c.maxLocals) (argsL rest : List Value) (has : argsL.toArray = as') (hlen : ∀ sig, parseMethodDescriptor y.desc = some sig → argsL.length = sig.parameters.length)
    (hstack : g.stack = argsL.reverse ++ rest) (hW : 2 * g.monitorRoom + (rest.map fun v => v.category).sum ≤ W) (hd : decode c.code g.pc = .ok (.invokestatic index, 3))
    (rb : RtB p l e R s m args below meth c Qm kc ks G kS) (hk : kS ≤ h.size)
    (k : ∀ (s : State) (kS : Nat) (T' : State) (L' : List Loc) (v : Option Value), Z.Warmed39 s.vm → s.vm.findClass own = some m.cls → RtB p l e R s m args below meth c Qm kc ks G kS → kS ≤ T'.heap.size → Stand p l e R s m args below meth c T' (locs ++ L') (cells + rm.cells) (slots + rm.slots) → Q v T'.heap L' → G (T'.setTop { g with pc := g.pc + 3, stack := v.toList ++ rest })) : G (T.setTop g) := by
  obtain ⟨v, _, ⟨T1, L1, k1, n1⟩, -, X1, hS1, gr1, ⟨Lc, hQ, l1, y1, z1⟩, st⟩ := callSS X hx hown (mvT hZ w1) (mvT hZ w2) (mvT hZ w3) (mvT hZ w4) hy (backOfS (R := R) (W := W) (hM []) hZ w4 w3 hf hl) hg hsize hlen hstack hW hd (fun _ _ => ⟨has, eT, hc, hs⟩)
  dsimp only [Pt.U, Pt.locs, Pt.cells, Pt.slots] at X1 l1 y1 z1 st hQ hS1 gr1
  subst l1 y1 z1
  exact go _ _ (fun t k => st.trans k) (k (s.setVm T1.vm) T1.heap.size T1 Lc v (State.Warmed39.trans (t := s) hZ hS1.1) ((hS1.1.alike.findClass _ _).trans hown) (own_reb rb hS1 (Nat.le_trans hk (eT ▸ gr1))) (Nat.le_refl _) X1 hQ)
theorem own_initW (go : Go p e below G) (X : Stand p l e R s m args below meth c T locs cells slots) (hx : p.tables.exec = Jvm.exec) (hZ : Z.Warmed39 s.vm) (eT : T.heap = h) {own : String} {index : Nat} {y : MethodName} {bytes : ByteArray} {maxL : Nat} {rm : Room} {as' : Array Value} {Q : Option Value → Heap → List Loc → Prop} (hy1 : y.name = "<init>") (hown : s.vm.findClass own = some m.cls) (w1 : (Cond.methodLink own index y).before a0 Z = true) (w2 : (Cond.instanceMethod y).before a0 Z = true) (w3 : (Cond.initialized y.cls).before a0 Z = true) (w4 : (Cond.code y bytes maxL none).before a0 Z = true)
    (hy : y.cls ≠ "java/lang/invoke/MethodHandle" ∧ y.cls ≠ "java/lang/invoke/VarHandle") (hM : ConW l Z y bytes maxL none rm as' h Q) (W : Nat) (hf : rm.frames + 1 ≤ R.frames) (hl : W + (maxL + 11) + rm.locals ≤ R.locals) (hc : cells + rm.cells ≤ R.cells) (hs : slots + rm.slots ≤ R.slots)
    {g : JFrame} (hg : g.method = m) (hsize : g.locals.size = c.maxLocals) (a : Addr) (argsL rest : List Value) (has : (.ref a :: argsL).toArray = as') (hlen : ∀ sig, parseMethodDescriptor y.desc = some sig → argsL.length = sig.parameters.length)
    (hstack : g.stack = argsL.reverse ++ .ref a :: rest) (hW : 2 * g.monitorRoom + (rest.map fun v => v.category).sum ≤ W) (hd : decode c.code g.pc = .ok (.invokespecial index, 3))
    (rb : RtB p l e R s m args below meth c Qm kc ks G kS) (hk : kS ≤ h.size)
    (k : ∀ (s : State) (kS : Nat) (T' : State) (L' : List Loc) (v : Option Value), Z.Warmed39 s.vm → s.vm.findClass own = some m.cls → RtB p l e R s m args below meth c Qm kc ks G kS → kS ≤ T'.heap.size → Stand p l e R s m args below meth c T' (locs ++ L') (cells + rm.cells) (slots + rm.slots) → Q v T'.heap L' → G (T'.setTop { g with pc := g.pc + 3, stack := v.toList ++ rest })) : G (T.setTop g) := by
  obtain ⟨v, _, ⟨T1, L1, k1, n1⟩, -, X1, hS1, gr1, ⟨Lc, hQ, l1, y1, z1⟩, st⟩ := X.specialBackS hx hy1 hown (mvT hZ w1) (mvT hZ w2) (mvT hZ w4) hy (backOfS (R := R) (W := W) (hM []) hZ w4 w3 hf hl) hg hsize (Steps.refl _) (a := a) hlen hstack hW hd (fun _ _ => ⟨has, eT, hc, hs⟩)
  dsimp only [Pt.U, Pt.locs, Pt.cells, Pt.slots] at X1 l1 y1 z1 st hQ hS1 gr1
  subst l1 y1 z1
  exact go _ _ (fun t k => st.trans k) (k (s.setVm T1.vm) T1.heap.size T1 Lc v (State.Warmed39.trans (t := s) hZ hS1.1) ((hS1.1.alike.findClass _ _).trans hown) (own_reb rb hS1 (Nat.le_trans hk (eT ▸ gr1))) (Nat.le_refl _) X1 hQ)
theorem own_virtualW (go : Go p e below G) (X : Stand p l e R s m args below meth c T locs cells slots) (hx : p.tables.exec = Jvm.exec) (hZ : Z.Warmed39 s.vm) (eT : T.heap = h) {own : String} {index : Nat} {y : MethodName} {bytes : ByteArray} {maxL : Nat} {ret : Option FieldType} {rm : Room} {as' : Array Value} {Q : Option Value → Heap → List Loc → Prop} {C : String} {z : MethodName} (hown : s.vm.findClass own = some m.cls) (w1 : (Cond.methodLink own index y).before a0 Z = true) (w2 : (Cond.declares y).before a0 Z = true) (hnf : NotFace s y) (w3 : (Cond.selects C y z).before a0 Z = true) (w4 : (Cond.instanceMethod z).before a0 Z = true) (w5 : (Cond.initialized z.cls).before a0 Z = true) (w6 : (Cond.code z bytes maxL ret).before a0 Z = true)
    (hy : y.cls ≠ "java/lang/invoke/MethodHandle" ∧ y.cls ≠ "java/lang/invoke/VarHandle") (hM : ConW l Z z bytes maxL ret rm as' h Q) (W : Nat) (hf : rm.frames + 1 ≤ R.frames) (hl : W + (maxL + 11) + rm.locals ≤ R.locals) (hc : cells + rm.cells ≤ R.cells) (hs : slots + rm.slots ≤ R.slots)
    {a : Addr} (E : Exa Z h a C) {g : JFrame} (hg : g.method = m) (hsize : g.locals.size = c.maxLocals) (argsL rest : List Value) (has : (.ref a :: argsL).toArray = as') (hlen : ∀ sig, parseMethodDescriptor y.desc = some sig → argsL.length = sig.parameters.length)
    (hstack : g.stack = argsL.reverse ++ .ref a :: rest) (hW : 2 * g.monitorRoom + (rest.map fun v => v.category).sum ≤ W) (hd : decode c.code g.pc = .ok (.invokevirtual index, 3))
    (rb : RtB p l e R s m args below meth c Qm kc ks G kS) (hk : kS ≤ h.size)
    (k : ∀ (s : State) (kS : Nat) (T' : State) (L' : List Loc) (v : Option Value), Z.Warmed39 s.vm → s.vm.findClass own = some m.cls → RtB p l e R s m args below meth c Qm kc ks G kS → kS ≤ T'.heap.size → Stand p l e R s m args below meth c T' (locs ++ L') (cells + rm.cells) (slots + rm.slots) → Q v T'.heap L' → G (T'.setTop { g with pc := g.pc + 3, stack := v.toList ++ rest })) : G (T.setTop g) := by
  obtain ⟨cq, kq, qa, qb, qc⟩ := isOf hZ eT E
  obtain ⟨v, _, ⟨T1, L1, k1, n1⟩, -, X1, hS1, gr1, ⟨Lc, hQ, l1, y1, z1⟩, st⟩ := X.virtualBackS hx hown (mvT hZ w1) (mvT hZ w2) hnf (mvT hZ w3) (mvT hZ w4) hy (backOfS (R := R) (W := W) (hM []) hZ w6 w5 hf hl) qa qc hg hsize (Steps.refl _) hlen hstack hW hd (fun _ _ => ⟨has, eT, hc, hs⟩)
  dsimp only [Pt.U, Pt.locs, Pt.cells, Pt.slots] at X1 l1 y1 z1 st hQ hS1 gr1
  subst l1 y1 z1
  exact go _ _ (fun t k => st.trans k) (k (s.setVm T1.vm) T1.heap.size T1 Lc v (State.Warmed39.trans (t := s) hZ hS1.1) ((hS1.1.alike.findClass _ _).trans hown) (own_reb rb hS1 (Nat.le_trans hk (eT ▸ gr1))) (Nat.le_refl _) X1 hQ)
theorem own_privateW (go : Go p e below G) (X : Stand p l e R s m args below meth c T locs cells slots) (hx : p.tables.exec = Jvm.exec) (hZ : Z.Warmed39 s.vm) (eT : T.heap = h) {own : String} {index : Nat} {y : MethodName} {bytes : ByteArray} {maxL : Nat} {ret : Option FieldType} {rm : Room} {as' : Array Value} {Q : Option Value → Heap → List Loc → Prop} (hown : s.vm.findClass own = some m.cls) (w1 : (Cond.methodLink own index y).before a0 Z = true) (w2 : (Cond.instanceMethod y).before a0 Z = true) {C0 : String} {z : MethodName} (w3 : (Cond.selects C0 z z).before a0 Z = true) (hz : z.cls = y.cls) (w4 : (Cond.privateMethod y).before a0 Z = true) (w5 : (Cond.initialized y.cls).before a0 Z = true) (w6 : (Cond.code y bytes maxL ret).before a0 Z = true)
    (hy : y.cls ≠ "java/lang/invoke/MethodHandle" ∧ y.cls ≠ "java/lang/invoke/VarHandle") (hM : ConW l Z y bytes maxL ret rm as' h Q) (W : Nat) (hf : rm.frames + 1 ≤ R.frames) (hl : W + (maxL + 11) + rm.locals ≤ R.locals) (hc : cells + rm.cells ≤ R.cells) (hs : slots + rm.slots ≤ R.slots)
    {a : Addr} {C : String} (E : Exa Z h a C) {g : JFrame} (hg : g.method = m) (hsize : g.locals.size = c.maxLocals) (argsL rest : List Value) (has : (.ref a :: argsL).toArray = as') (hlen : ∀ sig, parseMethodDescriptor y.desc = some sig → argsL.length = sig.parameters.length)
    (hstack : g.stack = argsL.reverse ++ .ref a :: rest) (hW : 2 * g.monitorRoom + (rest.map fun v => v.category).sum ≤ W) (hd : decode c.code g.pc = .ok (.invokevirtual index, 3))
    (rb : RtB p l e R s m args below meth c Qm kc ks G kS) (hk : kS ≤ h.size)
    (k : ∀ (s : State) (kS : Nat) (T' : State) (L' : List Loc) (v : Option Value), Z.Warmed39 s.vm → s.vm.findClass own = some m.cls → RtB p l e R s m args below meth c Qm kc ks G kS → kS ≤ T'.heap.size → Stand p l e R s m args below meth c T' (locs ++ L') (cells + rm.cells) (slots + rm.slots) → Q v T'.heap L' → G (T'.setTop { g with pc := g.pc + 3, stack := v.toList ++ rest })) : G (T.setTop g) := by
  obtain ⟨cq, q1, q2⟩ := E.cell
  obtain ⟨v, _, ⟨T1, L1, k1, n1⟩, -, X1, hS1, gr1, ⟨Lc, hQ, l1, y1, z1⟩, st⟩ := X.privateBackS hx hown (mvT hZ w1) (mvT hZ w2) (own_selpriv hz (mvT hZ w3) (Cond.privateMethod_at (mvP hZ w4 (args := #[]))) (mvT hZ w2) hy) (Cond.privateMethod_at (mvP hZ w4 (args := #[]))) (mvT hZ w6) hy (backOfS (R := R) (W := W) (hM []) hZ w6 w5 hf hl) hg hsize (Steps.refl _) (a := a) (by rw [eT]; exact q1) q2 hlen hstack hW hd (fun _ _ => ⟨has, eT, hc, hs⟩)
  dsimp only [Pt.U, Pt.locs, Pt.cells, Pt.slots] at X1 l1 y1 z1 st hQ hS1 gr1
  subst l1 y1 z1
  exact go _ _ (fun t k => st.trans k) (k (s.setVm T1.vm) T1.heap.size T1 Lc v (State.Warmed39.trans (t := s) hZ hS1.1) ((hS1.1.alike.findClass _ _).trans hown) (own_reb rb hS1 (Nat.le_trans hk (eT ▸ gr1))) (Nat.le_refl _) X1 hQ)
theorem own_interfaceW (go : Go p e below G) (X : Stand p l e R s m args below meth c T locs cells slots) (hx : p.tables.exec = Jvm.exec) (hZ : Z.Warmed39 s.vm) (eT : T.heap = h) {own : String} {index : Nat} {y : MethodName} {bytes : ByteArray} {maxL : Nat} {ret : Option FieldType} {rm : Room} {as' : Array Value} {Q : Option Value → Heap → List Loc → Prop} {C : String} {z : MethodName} {count : Nat} (hown : s.vm.findClass own = some m.cls) (w1 : (Cond.methodLink own index y).before a0 Z = true) (w2 : (Cond.declares y).before a0 Z = true) (w2b : (Cond.interfaceMethod y.cls y.cls y.name y.desc).before args s = true) (w3 : (Cond.selects C y z).before a0 Z = true) (w4 : (Cond.instanceMethod z).before a0 Z = true) (w4b : (Cond.publicMethod z).before a0 Z = true) (w4c : (Cond.unhidden C y.name y.desc).before a0 Z = true) (w4d : (Cond.castable C y.cls).before a0 Z = true) (w5 : (Cond.initialized z.cls).before a0 Z = true) (w6 : (Cond.code z bytes maxL ret).before a0 Z = true)
    (hy : y.cls ≠ "java/lang/invoke/MethodHandle" ∧ y.cls ≠ "java/lang/invoke/VarHandle") (hM : ConW l Z z bytes maxL ret rm as' h Q) (W : Nat) (hf : rm.frames + 1 ≤ R.frames) (hl : W + (maxL + 11) + rm.locals ≤ R.locals) (hc : cells + rm.cells ≤ R.cells) (hs : slots + rm.slots ≤ R.slots)
    {a : Addr} (E : Exa Z h a C) {g : JFrame} (hg : g.method = m) (hsize : g.locals.size = c.maxLocals) (argsL rest : List Value) (has : (.ref a :: argsL).toArray = as') (hlen : ∀ sig, parseMethodDescriptor y.desc = some sig → argsL.length = sig.parameters.length)
    (hstack : g.stack = argsL.reverse ++ .ref a :: rest) (hW : 2 * g.monitorRoom + (rest.map fun v => v.category).sum ≤ W) (hd : decode c.code g.pc = .ok (.invokeinterface index count, 5))
    (rb : RtB p l e R s m args below meth c Qm kc ks G kS) (hk : kS ≤ h.size)
    (k : ∀ (s : State) (kS : Nat) (T' : State) (L' : List Loc) (v : Option Value), Z.Warmed39 s.vm → s.vm.findClass own = some m.cls → RtB p l e R s m args below meth c Qm kc ks G kS → kS ≤ T'.heap.size → Stand p l e R s m args below meth c T' (locs ++ L') (cells + rm.cells) (slots + rm.slots) → Q v T'.heap L' → G (T'.setTop { g with pc := g.pc + 5, stack := v.toList ++ rest })) : G (T.setTop g) := by
  obtain ⟨cq, kq, qa, qb, qc⟩ := isOf hZ eT E
  obtain ⟨v, _, ⟨T1, L1, k1, n1⟩, -, X1, hS1, gr1, ⟨Lc, hQ, l1, y1, z1⟩, st⟩ := X.interfaceBackS hx hown (mvT hZ w1) (mvT hZ w2) w2b (mvT hZ w3) (mvT hZ w4) (mvT hZ w4b) (mvT hZ w4c) (mvT hZ w4d) hy (backOfS (R := R) (W := W) (hM []) hZ w6 w5 hf hl) qa qb qc hg hsize (Steps.refl _) hlen hstack hW hd (fun _ _ => ⟨has, eT, hc, hs⟩)
  dsimp only [Pt.U, Pt.locs, Pt.cells, Pt.slots] at X1 l1 y1 z1 st hQ hS1 gr1
  subst l1 y1 z1
  exact go _ _ (fun t k => st.trans k) (k (s.setVm T1.vm) T1.heap.size T1 Lc v (State.Warmed39.trans (t := s) hZ hS1.1) ((hS1.1.alike.findClass _ _).trans hown) (own_reb rb hS1 (Nat.le_trans hk (eT ▸ gr1))) (Nat.le_refl _) X1 hQ)
end CallsW
end OwnW
section OwnChr
variable {p : Program} {l : Launch} {e : Env} {R : Room} {s : State} {m : MethodId} {args : Array Value} {below : List Frame} {meth : Method} {c : Code} {T : State} {locs : List Loc} {cells slots : Nat} {Z : State} {a0 : Array Value} {h h' : Heap} {a b : Addr} {ty : FieldType} {n sl : Nat} {f : Nat → Value} {v w : Value} {ws : List Addr}
variable {G : State → Prop}
theorem own_castore (go : Go p e below G) (X : Stand p l e R s m args below meth c T locs cells slots) (hx : p.tables.exec = Jvm.exec) (hZ : Z.Warmed39 s.vm) (eT : T.heap = h) {j x : Int32} (i : Nat) (hi : j.toInt = i) (hlt : i < n) {g : JFrame} (hg : g.method = m) {rest : List Value} (F : Ary Z h a .char n f) (hs : g.stack = .int x :: .int j :: .ref a :: rest) (hd : decode c.code g.pc = .ok (.castore, 1))
    (k : ∀ (T' : State) (h' : Heap), Stand p l e R s m args below meth c T' (locs ++ [⟨a, i⟩]) cells slots → T'.heap = h' → Wr h h' a i (.int (nar .char x)) → Ary Z h' a .char n (fun q => if q = i then .int (nar .char x) else f q) → G (T'.setTop { g with pc := g.pc + 1, stack := rest })) : G (T.setTop g) := by
  obtain ⟨cl, A, r1, r2, r3, r4⟩ := F
  have hj : ¬ (j < 0 ∨ cl.slots.size ≤ j.toNatClampNeg) := by rw [r1]; exact ix_in hi hlt
  obtain ⟨T1, h1, X1, e1, W1, st⟩ := stC X hx hZ eT A hj hg hs hd
  rw [ix_of hi] at X1 W1
  exact go _ _ st (k T1 h1 X1 e1 W1 (Ary.same W1 ⟨cl, A, r1, r2, r3, r4⟩ (fits_nar_char _)))
theorem own_caload (go : Go p e below G) (X : Stand p l e R s m args below meth c T locs cells slots) (hx : p.tables.exec = Jvm.exec) (hZ : Z.Warmed39 s.vm) (eT : T.heap = h) {j : Int32} (i : Nat) (hi : j.toInt = i) (hlt : i < n) {g : JFrame} (hg : g.method = m) {rest : List Value} (F : Ary Z h a .char n f) (hs : g.stack = .int j :: .ref a :: rest) (hd : decode c.code g.pc = .ok (.caload, 1)) (k : G (T.setTop { g with pc := g.pc + 1, stack := f i :: rest })) : G (T.setTop g) := by
  obtain ⟨cl, A, r1, r2, r3, r4⟩ := F
  have hj : ¬ (j < 0 ∨ cl.slots.size ≤ j.toNatClampNeg) := by rw [r1]; exact ix_in hi hlt
  exact go _ _ (fun t => X.caload hx (by rw [eT]; exact A.1) (State.isArrayOf_alike hZ.alike A.2.1) A.2.2 hj (by rw [ix_of hi]; exact r3 i hlt) hg hs hd t) k
theorem own_aaload (go : Go p e below G) (X : Stand p l e R s m args below meth c T locs cells slots) (hx : p.tables.exec = Jvm.exec) (hZ : Z.Warmed39 s.vm) (eT : T.heap = h) {j : Int32} (i : Nat) (hi : j.toInt = i) (hlt : i < n) {g : JFrame} (hg : g.method = m) {rest : List Value} (F : Ary Z h a ty n f) (hs : g.stack = .int j :: .ref a :: rest) (hty : ty.isReference = true) (hd : decode c.code g.pc = .ok (.aaload, 1)) (k : G (T.setTop { g with pc := g.pc + 1, stack := f i :: rest })) : G (T.setTop g) := by
  obtain ⟨cl, A, r1, r2, r3, r4⟩ := F
  have hj : ¬ (j < 0 ∨ cl.slots.size ≤ j.toNatClampNeg) := by rw [r1]; exact ix_in hi hlt
  exact go _ _ (fun t => X.aaload hx (by rw [eT]; exact A.1) (State.isArrayOf_alike hZ.alike A.2.1) hty A.2.2 hj (by rw [ix_of hi]; exact r3 i hlt) hg hs hd t) k
end OwnChr
section OwnTab
variable {args : Array Value} {s : State} {a : Addr} {c : Cell}
theorem own_len {t : Term} {k : Int32} (ev : t.eval args s none [] s = some (.ref a)) (hat : s.arrayAt? a = some c) (hq : (Jvm.Cond.eq (.length t) (.int k)).value args s none s [] = some true) : (c.slots.size : Int) = k.toInt ∧ c.slots.size < 2 ^ 31 := by
  obtain ⟨x, y, ex, ey, -, -⟩ := cmp_v (Or.inl hq)
  by_cases hl : c.slots.size < 2 ^ 31
  · have q := gotT (Cond.eq_ints (len_f ev hat hl) (Term.int_eval k)) hq
    rw [← q, len_toInt hl]
    exact ⟨rfl, hl⟩
  · simp [Term.eval, ev, hat, hl] at ex
theorem own_stat_idx {C n d : String} {i : Nat} {v : Value} (ev : (Term.static C n d).eval args s none [] s = some v) : (Term.static C n d).eval args s none [i] s = some v := ev
theorem own_idx_eval (i : Nat) : (Term.index 0).eval args s none [i] s = some (.int i.toInt32) := Term.index_eval _
end OwnTab

theorem own_wS {a0 : Array Value} {Z : State} (hw : ∀ d ∈ tables_1, d.before a0 Z = true) : ∀ a ∈ Bundle.stringAtoms, a.before a0 Z = true := fun d hd => by
  simp only [Bundle.stringAtoms, List.mem_cons, List.not_mem_nil, or_false] at hd
  rcases hd with rfl | rfl | rfl | rfl | rfl | rfl | rfl
  · exact hw _ (List.mem_of_getElem? (i := 18) rfl)
  · exact hw _ (List.mem_of_getElem? (i := 19) rfl)
  · exact hw _ (List.mem_of_getElem? (i := 20) rfl)
  · exact hw _ (List.mem_of_getElem? (i := 21) rfl)
  · exact hw _ (List.mem_of_getElem? (i := 22) rfl)
  · exact hw _ (List.mem_of_getElem? (i := 23) rfl)
  · exact hw _ (List.mem_of_getElem? (i := 24) rfl)
def tc (k : Int32) (a b c d : Addr) : Addr := if k = 0 then a else if k = 1 then b else if k = 2 then c else d
theorem own_tcE {Z : State} {h : Heap} {C : String} {k : Int32} {a b c d : Addr} (E0 : Exa Z h a C) (E1 : Exa Z h b C) (E2 : Exa Z h c C) (E3 : Exa Z h d C) : Exa Z h (tc k a b c d) C := by
  unfold tc; split
  · exact E0
  · split
    · exact E1
    · split
      · exact E2
      · exact E3
def k4 (k : Int32) : Prop := k = 0 ∨ k = 1 ∨ k = 2 ∨ k = 3
theorem own_and3 (u : Int32) : k4 (u &&& 3) := by
  have e1 : (u &&& 3).toInt = u.toInt % (2 ^ 2 : Nat) := c_mask u _ 2 (by decide) (by decide)
  unfold k4
  simp only [← Int32.toInt_inj, show (0 : Int32).toInt = 0 from rfl, show (1 : Int32).toInt = 1 from rfl, show (2 : Int32).toInt = 2 from rfl, show (3 : Int32).toInt = 3 from rfl]
  omega
theorem own_and31 (u : Int32) : ¬ (u &&& 2147483647) < 0 := by
  have e1 : (u &&& 2147483647).toInt = u.toInt % (2 ^ 31 : Nat) := c_mask u _ 31 (by decide) (by decide)
  rw [Int32.lt_iff_toInt_lt]; have e0 : (0 : Int32).toInt = 0 := rfl; omega
theorem own_and255 (u : Int32) : ¬ 255 < (u &&& 255) := by
  have e1 : (u &&& 255).toInt = u.toInt % (2 ^ 8 : Nat) := c_mask u _ 8 (by decide) (by decide)
  rw [Int32.lt_iff_toInt_lt]; have e0 : (255 : Int32).toInt = 255 := rfl; omega
theorem own_tci {k j : Int32} {a b c d : Addr} (h1 : a ≠ b) (h2 : a ≠ c) (h3 : a ≠ d) (h4 : b ≠ c) (h5 : b ≠ d) (h6 : c ≠ d) (hk : k4 k) (hj : k4 j) : tc k a b c d = tc j a b c d ↔ k = j := by
  rcases hk with rfl | rfl | rfl | rfl <;> rcases hj with rfl | rfl | rfl | rfl <;> simp [tc, h1, h2, h3, h4, h5, h6, Ne.symm h1, Ne.symm h2, Ne.symm h3, Ne.symm h4, Ne.symm h5, Ne.symm h6]
theorem own_k4z {k : Int32} (h : k4 k) (h1 : ¬ k = 1) (h2 : ¬ k = 2) (h3 : ¬ k = 3) : k = 0 := by
  rcases h with h | h | h | h
  · exact h
  · exact absurd h h1
  · exact absurd h h2
  · exact absurd h h3
theorem own_m128 {u : Int32} (h : ¬ u < 0) : ¬ u < -128 := by
  rw [Int32.lt_iff_toInt_lt] at h ⊢; have e0 : (0 : Int32).toInt = 0 := rfl; have e1 : (-128 : Int32).toInt = -128 := rfl; omega
def ci (u : Int32) : Nat := if u.toInt ≤ 127 then (u.toInt + 128).toNat else 0
theorem own_ci (u : Int32) (h : ¬ u < 0) : ci u < 256 := by
  rw [Int32.lt_iff_toInt_lt] at h; have e0 : (0 : Int32).toInt = 0 := rfl; unfold ci; split <;> omega
theorem own_ci2 (u : Int32) (h : ¬ u < 0) (h2 : ¬ 127 < u) : (u + 128).toInt = (ci u : Nat) := by
  rw [Int32.lt_iff_toInt_lt] at h h2; have e0 : (0 : Int32).toInt = 0 := rfl; have e1 : (127 : Int32).toInt = 127 := rfl; have e2 : (128 : Int32).toInt = 128 := rfl
  have q := c_iadd u 128
  have r := rng32 (u + 128)
  unfold ci; split <;> omega
section OwnNo
variable {Z : State} {a0 : Array Value}
theorem own_nsroot {O K : String} {n : Nat} (w : (Cond.noSuperclass O).before a0 Z = true) (wk : (Cond.instantiable K n).before a0 Z = true) (hn : O ≠ K) : NS Z O K := by
  obtain ⟨c, k, h1, h2, h3, -, -⟩ := Cond.noSuperclass_spec w
  obtain ⟨t, kt, g1, -⟩ := Cond.instantiable_spec wk
  have ne := ids_ne h1 g1 hn
  refine ⟨c, t, h1, g1, fun fuel => ?_⟩
  cases fuel with
  | zero => rfl
  | succ f => simp [Vm.isSubclassAux, ne, h2, h3]
theorem own_no {C S K : String} {n : Nat} (w : (Cond.superclass C S).before a0 Z = true) (wk : (Cond.instantiable K n).before a0 Z = true) (q : NS Z C K) (hn : C ≠ K) : ∃ c t, Z.vm.findClass C = some c ∧ Z.vm.findClass K = some t ∧ Z.vm.assignable c t = false := by
  obtain ⟨c, t, h0, g0, n3⟩ := q
  obtain ⟨p, k, kp, h1, h2, h3, h4, h5, -, h7⟩ := Cond.superclass_spec h0 w
  obtain ⟨t', kt, g1, g2, g3, g4, g5, -⟩ := Cond.instantiable_spec wk
  cases g0.symm.trans g1
  have ne := ids_ne h0 g0 hn
  refine ⟨c, t, h0, g0, ?_⟩
  show Z.vm.assignableAux (255 + 1) c t = false
  have g4' := (Bool.or_eq_false_iff.mp g4).1
  simp [Vm.assignableAux, ne, h2, g2, h5, g3, g4', Vm.isSubclass, n3]
end OwnNo
theorem own_r2 {c1 c2 : Addr} : ((.ref c1 : Value) = .ref c2) ↔ c1 = c2 := ⟨fun z => Value.ref.inj z, fun z => z ▸ rfl⟩
theorem own_if {P Q : Prop} [Decidable P] [Decidable Q] (h : P ↔ Q) : (if P then (1 : Int32) else 0) = (if Q then 1 else 0) := by
  by_cases p : P
  · rw [if_pos p, if_pos (h.mp p)]
  · rw [if_neg p, if_neg (fun q => p (h.mpr q))]

theorem own_e1 {ex : Int32} {P : Prop} [Decidable P] (h : ex = if P then 1 else 0) (z : ¬ ex = 0) : ex = 1 := by
  by_cases c : P
  · rw [h, if_pos c]
  · rw [if_neg c] at h; exact absurd h z
theorem Exa.neAry {Z : State} {h : Heap} {x b : Addr} {C : String} {ty : FieldType} {n k : Nat} {f : Nat → Value} {a0 : Array Value} (E : Exa Z h x C) (F : Ary Z h b ty n f) (w : (Cond.instantiable C k).before a0 Z = true) : x ≠ b := fun q => by
  subst q
  obtain ⟨c1, k1, e1, f1, g1, -⟩ := E
  obtain ⟨c2, ⟨e2, hA, -⟩, -⟩ := F
  cases e1.symm.trans e2
  obtain ⟨t', kt, i1, i2, i3, -⟩ := Cond.instantiable_spec w
  cases f1.symm.trans i1
  obtain ⟨-, kk, hk, comp, hkind⟩ := hA
  cases i2.symm.trans hk
  rw [i3] at hkind; cases hkind
theorem own_nee {s : State} {a b : Addr} {C n d : String} {k j : Int32} (F : Fld s s.heap a C n d (.int k)) (G : Fld s s.heap b C n d (.int j)) (h : k ≠ j) : a ≠ b := fun q => by
  subst q
  obtain ⟨c1, cf, k1, i1, f1, a1, a2, -, -, -, -, a7⟩ := F
  obtain ⟨c2, cg, k2, i2, f2, b1, b2, -, -, -, -, b7⟩ := G
  cases a1.symm.trans b1
  cases a2.symm.trans b2
  exact h (Value.int.inj (Option.some.inj (a7.symm.trans b7)))
theorem own_stateq {args : Array Value} {s : State} {C n d : String} {k : Int32} (hq : (Jvm.Cond.eq (Term.static C n d) (.int k)).value args s none s [] = some true) : (Term.static C n d).eval args s none [] s = some (.int k) := by
  obtain ⟨x, y, ex, ey, k1, k2⟩ := cmp_v (Or.inl hq)
  have ey' := Option.some.inj ((Term.int_eval k).symm.trans ey)
  subst ey'
  obtain ⟨z, rfl⟩ := k2
  have := gotT (Cond.eq_ints ex ey) hq
  subst this
  exact ex
theorem own_stane {args : Array Value} {s : State} {t : Term} {cs k : Int32} (ev : t.eval args s none [] s = some (.int cs)) (hq : (Jvm.Cond.not (Jvm.Cond.eq t (.int k))).value args s none s [] = some true) : ¬ cs = k := fun z => by
  subst z
  have q : (Jvm.Cond.eq t (.int cs)).value args s none s [] = some true := (Cond.eq_ints ev (Term.int_eval cs)).trans (by simp)
  rw [show (Jvm.Cond.not (Jvm.Cond.eq t (.int cs))).value args s none s [] = ((Jvm.Cond.eq t (.int cs)).value args s none s []).map (fun b => !b) from rfl, q] at hq
  cases hq
theorem own_f0 {v d : Value} : ∀ q, q < 1 → (fun q => if q = 0 then v else (fun _ => d) q) q = (fun _ => v) q := fun q hq => by
  have : q = 0 := by omega
  subst this; rfl
theorem d1_0 : decode method_2_code 0 = .ok (.iload_n 0, 1) := by decide +kernel
theorem d1_1 : decode method_2_code 1 = .ok (.ifCond .ne 7, 3) := by decide +kernel
theorem d1_4 : decode method_2_code 4 = .ok (.getstatic 7, 3) := by decide +kernel
theorem d1_7 : decode method_2_code 7 = .ok (.areturn, 1) := by decide +kernel
theorem d1_8 : decode method_2_code 8 = .ok (.iload_n 0, 1) := by decide +kernel
theorem d1_9 : decode method_2_code 9 = .ok (.iconst 1, 1) := by decide +kernel
theorem d1_10 : decode method_2_code 10 = .ok (.if_icmp .ne 7, 3) := by decide +kernel
theorem d1_13 : decode method_2_code 13 = .ok (.getstatic 13, 3) := by decide +kernel
theorem d1_16 : decode method_2_code 16 = .ok (.areturn, 1) := by decide +kernel
theorem d1_17 : decode method_2_code 17 = .ok (.iload_n 0, 1) := by decide +kernel
theorem d1_18 : decode method_2_code 18 = .ok (.iconst 2, 1) := by decide +kernel
theorem d1_19 : decode method_2_code 19 = .ok (.if_icmp .ne 7, 3) := by decide +kernel
theorem d1_22 : decode method_2_code 22 = .ok (.getstatic 16, 3) := by decide +kernel
theorem d1_25 : decode method_2_code 25 = .ok (.areturn, 1) := by decide +kernel
theorem d1_26 : decode method_2_code 26 = .ok (.getstatic 19, 3) := by decide +kernel
theorem d1_29 : decode method_2_code 29 = .ok (.areturn, 1) := by decide +kernel
theorem d2_0 : decode prog_76_method_1_code 0 = .ok (.aload_n 0, 1) := by decide +kernel
theorem d2_1 : decode prog_76_method_1_code 1 = .ok (.invokespecial 1, 3) := by decide +kernel
theorem d2_4 : decode prog_76_method_1_code 4 = .ok (.iload_n 2, 1) := by decide +kernel
theorem d2_5 : decode prog_76_method_1_code 5 = .ok (.ifCond .ge 17, 3) := by decide +kernel
theorem d2_22 : decode prog_76_method_1_code 22 = .ok (.aload_n 0, 1) := by decide +kernel
theorem d2_23 : decode prog_76_method_1_code 23 = .ok (.aload_n 1, 1) := by decide +kernel
theorem d2_24 : decode prog_76_method_1_code 24 = .ok (.ldc 16, 2) := by decide +kernel
theorem d2_26 : decode prog_76_method_1_code 26 = .ok (.invokestatic 18, 3) := by decide +kernel
theorem d2_29 : decode prog_76_method_1_code 29 = .ok (.checkcast 24, 3) := by decide +kernel
theorem d2_32 : decode prog_76_method_1_code 32 = .ok (.putfield 26, 3) := by decide +kernel
theorem d2_35 : decode prog_76_method_1_code 35 = .ok (.aload_n 0, 1) := by decide +kernel
theorem d2_36 : decode prog_76_method_1_code 36 = .ok (.iload_n 2, 1) := by decide +kernel
theorem d2_37 : decode prog_76_method_1_code 37 = .ok (.putfield 32, 3) := by decide +kernel
theorem d2_40 : decode prog_76_method_1_code 40 = .ok (.return_, 1) := by decide +kernel
theorem d4_0 : decode jdk_31_method_11_code 0 = .ok (.aload_n 0, 1) := by decide +kernel
theorem d4_1 : decode jdk_31_method_11_code 1 = .ok (.ifnonnull 12, 3) := by decide +kernel
theorem d4_13 : decode jdk_31_method_11_code 13 = .ok (.aload_n 0, 1) := by decide +kernel
theorem d4_14 : decode jdk_31_method_11_code 14 = .ok (.areturn, 1) := by decide +kernel
theorem d5_0 : decode prog_76_method_6_code 0 = .ok (.aload_n 1, 1) := by decide +kernel
theorem d5_1 : decode prog_76_method_6_code 1 = .ok (.instanceof 27, 3) := by decide +kernel
theorem d5_4 : decode prog_76_method_6_code 4 = .ok (.ifCond .ne 5, 3) := by decide +kernel
theorem d5_7 : decode prog_76_method_6_code 7 = .ok (.iconst 0, 1) := by decide +kernel
theorem d5_8 : decode prog_76_method_6_code 8 = .ok (.ireturn, 1) := by decide +kernel
theorem d5_9 : decode prog_76_method_6_code 9 = .ok (.aload_n 1, 1) := by decide +kernel
theorem d5_10 : decode prog_76_method_6_code 10 = .ok (.checkcast 27, 3) := by decide +kernel
theorem d5_13 : decode prog_76_method_6_code 13 = .ok (.astore_n 2, 1) := by decide +kernel
theorem d5_14 : decode prog_76_method_6_code 14 = .ok (.aload_n 2, 1) := by decide +kernel
theorem d5_15 : decode prog_76_method_6_code 15 = .ok (.getfield 26, 3) := by decide +kernel
theorem d5_18 : decode prog_76_method_6_code 18 = .ok (.aload_n 0, 1) := by decide +kernel
theorem d5_19 : decode prog_76_method_6_code 19 = .ok (.getfield 26, 3) := by decide +kernel
theorem d5_22 : decode prog_76_method_6_code 22 = .ok (.if_acmp .ne 18, 3) := by decide +kernel
theorem d5_25 : decode prog_76_method_6_code 25 = .ok (.aload_n 2, 1) := by decide +kernel
theorem d5_26 : decode prog_76_method_6_code 26 = .ok (.getfield 32, 3) := by decide +kernel
theorem d5_29 : decode prog_76_method_6_code 29 = .ok (.aload_n 0, 1) := by decide +kernel
theorem d5_30 : decode prog_76_method_6_code 30 = .ok (.getfield 32, 3) := by decide +kernel
theorem d5_33 : decode prog_76_method_6_code 33 = .ok (.if_icmp .ne 7, 3) := by decide +kernel
theorem d5_36 : decode prog_76_method_6_code 36 = .ok (.iconst 1, 1) := by decide +kernel
theorem d5_37 : decode prog_76_method_6_code 37 = .ok (.goto 4, 3) := by decide +kernel
theorem d5_40 : decode prog_76_method_6_code 40 = .ok (.iconst 0, 1) := by decide +kernel
theorem d5_41 : decode prog_76_method_6_code 41 = .ok (.ireturn, 1) := by decide +kernel
theorem d6_0 : decode jdk_33_method_22_code 0 = .ok (.iload_n 0, 1) := by decide +kernel
theorem d6_1 : decode jdk_33_method_22_code 1 = .ok (.bipush (-128), 2) := by decide +kernel
theorem d6_3 : decode jdk_33_method_22_code 3 = .ok (.if_icmp .lt 20, 3) := by decide +kernel
theorem d6_6 : decode jdk_33_method_22_code 6 = .ok (.iload_n 0, 1) := by decide +kernel
theorem d6_7 : decode jdk_33_method_22_code 7 = .ok (.getstatic 191, 3) := by decide +kernel
theorem d6_10 : decode jdk_33_method_22_code 10 = .ok (.if_icmp .gt 13, 3) := by decide +kernel
theorem d6_13 : decode jdk_33_method_22_code 13 = .ok (.getstatic 195, 3) := by decide +kernel
theorem d6_16 : decode jdk_33_method_22_code 16 = .ok (.iload_n 0, 1) := by decide +kernel
theorem d6_17 : decode jdk_33_method_22_code 17 = .ok (.sipush 128, 3) := by decide +kernel
theorem d6_20 : decode jdk_33_method_22_code 20 = .ok (.iadd, 1) := by decide +kernel
theorem d6_21 : decode jdk_33_method_22_code 21 = .ok (.aaload, 1) := by decide +kernel
theorem d6_22 : decode jdk_33_method_22_code 22 = .ok (.areturn, 1) := by decide +kernel
theorem d6_23 : decode jdk_33_method_22_code 23 = .ok (.new 1, 3) := by decide +kernel
theorem d6_26 : decode jdk_33_method_22_code 26 = .ok (.dup, 1) := by decide +kernel
theorem d6_27 : decode jdk_33_method_22_code 27 = .ok (.iload_n 0, 1) := by decide +kernel
theorem d6_28 : decode jdk_33_method_22_code 28 = .ok (.invokespecial 199, 3) := by decide +kernel
theorem d6_31 : decode jdk_33_method_22_code 31 = .ok (.areturn, 1) := by decide +kernel
theorem d7_0 : decode jdk_33_method_23_code 0 = .ok (.aload_n 0, 1) := by decide +kernel
theorem d7_1 : decode jdk_33_method_23_code 1 = .ok (.invokespecial 202, 3) := by decide +kernel
theorem d7_4 : decode jdk_33_method_23_code 4 = .ok (.aload_n 0, 1) := by decide +kernel
theorem d7_5 : decode jdk_33_method_23_code 5 = .ok (.iload_n 1, 1) := by decide +kernel
theorem d7_6 : decode jdk_33_method_23_code 6 = .ok (.putfield 205, 3) := by decide +kernel
theorem d7_9 : decode jdk_33_method_23_code 9 = .ok (.return_, 1) := by decide +kernel
theorem d8_0 : decode jdk_18_method_1_code 0 = .ok (.aload_n 0, 1) := by decide +kernel
theorem d8_1 : decode jdk_18_method_1_code 1 = .ok (.invokespecial 1, 3) := by decide +kernel
theorem d8_4 : decode jdk_18_method_1_code 4 = .ok (.return_, 1) := by decide +kernel
theorem d9_0 : decode jdk_42_method_3_code 0 = .ok (.aload_n 0, 1) := by decide +kernel
theorem d9_1 : decode jdk_42_method_3_code 1 = .ok (.aload_n 1, 1) := by decide +kernel
theorem d9_2 : decode jdk_42_method_3_code 2 = .ok (.iconst 0, 1) := by decide +kernel
theorem d9_3 : decode jdk_42_method_3_code 3 = .ok (.aload_n 1, 1) := by decide +kernel
theorem d9_4 : decode jdk_42_method_3_code 4 = .ok (.arraylength, 1) := by decide +kernel
theorem d9_5 : decode jdk_42_method_3_code 5 = .ok (.aconst_null, 1) := by decide +kernel
theorem d9_6 : decode jdk_42_method_3_code 6 = .ok (.invokespecial 27, 3) := by decide +kernel
theorem d9_9 : decode jdk_42_method_3_code 9 = .ok (.return_, 1) := by decide +kernel
theorem d10_0 : decode jdk_42_method_149_code 0 = .ok (.aload_n 0, 1) := by decide +kernel
theorem d10_1 : decode jdk_42_method_149_code 1 = .ok (.invokespecial 1, 3) := by decide +kernel
theorem d10_4 : decode jdk_42_method_149_code 4 = .ok (.iload_n 3, 1) := by decide +kernel
theorem d10_5 : decode jdk_42_method_149_code 5 = .ok (.ifCond .ne 22, 3) := by decide +kernel
theorem d10_27 : decode jdk_42_method_149_code 27 = .ok (.getstatic 38, 3) := by decide +kernel
theorem d10_30 : decode jdk_42_method_149_code 30 = .ok (.ifCond .eq 28, 3) := by decide +kernel
theorem d10_33 : decode jdk_42_method_149_code 33 = .ok (.aload_n 1, 1) := by decide +kernel
theorem d10_34 : decode jdk_42_method_149_code 34 = .ok (.iload_n 2, 1) := by decide +kernel
theorem d10_35 : decode jdk_42_method_149_code 35 = .ok (.iload_n 3, 1) := by decide +kernel
theorem d10_36 : decode jdk_42_method_149_code 36 = .ok (.invokestatic 177, 3) := by decide +kernel
theorem d10_39 : decode jdk_42_method_149_code 39 = .ok (.astore 5, 2) := by decide +kernel
theorem d10_41 : decode jdk_42_method_149_code 41 = .ok (.aload_n 0, 1) := by decide +kernel
theorem d10_42 : decode jdk_42_method_149_code 42 = .ok (.aload 5, 2) := by decide +kernel
theorem d10_44 : decode jdk_42_method_149_code 44 = .ok (.iload_n 3, 1) := by decide +kernel
theorem d10_45 : decode jdk_42_method_149_code 45 = .ok (.invokestatic 47, 3) := by decide +kernel
theorem d10_48 : decode jdk_42_method_149_code 48 = .ok (.putfield 15, 3) := by decide +kernel
theorem d10_51 : decode jdk_42_method_149_code 51 = .ok (.aload_n 0, 1) := by decide +kernel
theorem d10_52 : decode jdk_42_method_149_code 52 = .ok (.aload 5, 2) := by decide +kernel
theorem d10_54 : decode jdk_42_method_149_code 54 = .ok (.putfield 9, 3) := by decide +kernel
theorem d10_57 : decode jdk_42_method_149_code 57 = .ok (.return_, 1) := by decide +kernel
theorem d11_0 : decode jdk_52_method_16_code 0 = .ok (.iload_n 2, 1) := by decide +kernel
theorem d11_1 : decode jdk_52_method_16_code 1 = .ok (.newarray .byte, 2) := by decide +kernel
theorem d11_3 : decode jdk_52_method_16_code 3 = .ok (.astore_n 3, 1) := by decide +kernel
theorem d11_4 : decode jdk_52_method_16_code 4 = .ok (.aload_n 0, 1) := by decide +kernel
theorem d11_5 : decode jdk_52_method_16_code 5 = .ok (.iload_n 1, 1) := by decide +kernel
theorem d11_6 : decode jdk_52_method_16_code 6 = .ok (.aload_n 3, 1) := by decide +kernel
theorem d11_7 : decode jdk_52_method_16_code 7 = .ok (.iconst 0, 1) := by decide +kernel
theorem d11_8 : decode jdk_52_method_16_code 8 = .ok (.iload_n 2, 1) := by decide +kernel
theorem d11_9 : decode jdk_52_method_16_code 9 = .ok (.invokestatic 115, 3) := by decide +kernel
theorem d11_12 : decode jdk_52_method_16_code 12 = .ok (.istore 4, 2) := by decide +kernel
theorem d11_14 : decode jdk_52_method_16_code 14 = .ok (.iload 4, 2) := by decide +kernel
theorem d11_16 : decode jdk_52_method_16_code 16 = .ok (.iload_n 2, 1) := by decide +kernel
theorem d11_17 : decode jdk_52_method_16_code 17 = .ok (.if_icmp .eq 40, 3) := by decide +kernel
theorem d11_57 : decode jdk_52_method_16_code 57 = .ok (.aload_n 3, 1) := by decide +kernel
theorem d11_58 : decode jdk_52_method_16_code 58 = .ok (.areturn, 1) := by decide +kernel
theorem d12_0 : decode jdk_52_method_21_code 0 = .ok (.iconst 0, 1) := by decide +kernel
theorem d12_1 : decode jdk_52_method_21_code 1 = .ok (.istore 5, 2) := by decide +kernel
theorem d12_3 : decode jdk_52_method_21_code 3 = .ok (.iload 5, 2) := by decide +kernel
theorem d12_5 : decode jdk_52_method_21_code 5 = .ok (.iload 4, 2) := by decide +kernel
theorem d12_7 : decode jdk_52_method_21_code 7 = .ok (.if_icmp .ge 37, 3) := by decide +kernel
theorem d12_10 : decode jdk_52_method_21_code 10 = .ok (.aload_n 0, 1) := by decide +kernel
theorem d12_11 : decode jdk_52_method_21_code 11 = .ok (.iload_n 1, 1) := by decide +kernel
theorem d12_12 : decode jdk_52_method_21_code 12 = .ok (.caload, 1) := by decide +kernel
theorem d12_13 : decode jdk_52_method_21_code 13 = .ok (.istore 6, 2) := by decide +kernel
theorem d12_15 : decode jdk_52_method_21_code 15 = .ok (.iload 6, 2) := by decide +kernel
theorem d12_17 : decode jdk_52_method_21_code 17 = .ok (.sipush 255, 3) := by decide +kernel
theorem d12_20 : decode jdk_52_method_21_code 20 = .ok (.if_icmp .le 6, 3) := by decide +kernel
theorem d12_26 : decode jdk_52_method_21_code 26 = .ok (.aload_n 2, 1) := by decide +kernel
theorem d12_27 : decode jdk_52_method_21_code 27 = .ok (.iload_n 3, 1) := by decide +kernel
theorem d12_28 : decode jdk_52_method_21_code 28 = .ok (.iload 6, 2) := by decide +kernel
theorem d12_30 : decode jdk_52_method_21_code 30 = .ok (.i2b, 1) := by decide +kernel
theorem d12_31 : decode jdk_52_method_21_code 31 = .ok (.bastore, 1) := by decide +kernel
theorem d12_32 : decode jdk_52_method_21_code 32 = .ok (.iinc 1 1, 3) := by decide +kernel
theorem d12_35 : decode jdk_52_method_21_code 35 = .ok (.iinc 3 1, 3) := by decide +kernel
theorem d12_38 : decode jdk_52_method_21_code 38 = .ok (.iinc 5 1, 3) := by decide +kernel
theorem d12_41 : decode jdk_52_method_21_code 41 = .ok (.goto (-38), 3) := by decide +kernel
theorem d12_44 : decode jdk_52_method_21_code 44 = .ok (.iload 4, 2) := by decide +kernel
theorem d12_46 : decode jdk_52_method_21_code 46 = .ok (.ireturn, 1) := by decide +kernel
theorem d13_0 : decode jdk_52_method_15_code 0 = .ok (.iload_n 1, 1) := by decide +kernel
theorem d13_1 : decode jdk_52_method_15_code 1 = .ok (.aload_n 0, 1) := by decide +kernel
theorem d13_2 : decode jdk_52_method_15_code 2 = .ok (.arraylength, 1) := by decide +kernel
theorem d13_3 : decode jdk_52_method_15_code 3 = .ok (.isub, 1) := by decide +kernel
theorem d13_4 : decode jdk_52_method_15_code 4 = .ok (.bipush 31, 2) := by decide +kernel
theorem d13_6 : decode jdk_52_method_15_code 6 = .ok (.iushr, 1) := by decide +kernel
theorem d13_7 : decode jdk_52_method_15_code 7 = .ok (.i2b, 1) := by decide +kernel
theorem d13_8 : decode jdk_52_method_15_code 8 = .ok (.ireturn, 1) := by decide +kernel
theorem pd_0 : parseMethodDescriptor "(Ljava/lang/Object;Ljava/lang/String;)Ljava/lang/Object;" = some ⟨[(.object "java/lang/Object"), (.object "java/lang/String")], some (.object "java/lang/Object")⟩ := by decide +kernel
theorem pd_1 : parseMethodDescriptor "()V" = some ⟨[], none⟩ := by decide +kernel
theorem pd_2 : parseMethodDescriptor "(I)V" = some ⟨[.int], none⟩ := by decide +kernel
theorem pd_3 : parseMethodDescriptor "([CI[BII)I" = some ⟨[(.array .char), .int, (.array .byte), .int, .int], some .int⟩ := by decide +kernel
theorem pd_4 : parseMethodDescriptor "([CII)[B" = some ⟨[(.array .char), .int, .int], some (.array .byte)⟩ := by decide +kernel
theorem pd_5 : parseMethodDescriptor "([BI)B" = some ⟨[(.array .byte), .int], some .byte⟩ := by decide +kernel
theorem pd_6 : parseMethodDescriptor "([CIILjava/lang/Void;)V" = some ⟨[(.array .char), .int, .int, (.object "java/lang/Void")], none⟩ := by decide +kernel
theorem pd_7 : parseMethodDescriptor "(I)Lcom/example/clearbrace/clearbrace/schema/TagClass;" = some ⟨[.int], some (.object "com/example/clearbrace/clearbrace/schema/TagClass")⟩ := by decide +kernel
theorem pd_8 : parseMethodDescriptor "(Lcom/example/clearbrace/clearbrace/schema/TagClass;I)V" = some ⟨[(.object "com/example/clearbrace/clearbrace/schema/TagClass"), .int], none⟩ := by decide +kernel
theorem pd_9 : parseMethodDescriptor "(Ljava/lang/Object;)Z" = some ⟨[(.object "java/lang/Object")], some .boolean⟩ := by decide +kernel
theorem pd_10 : parseMethodDescriptor "(I)Ljava/lang/Integer;" = some ⟨[.int], some (.object "java/lang/Integer")⟩ := by decide +kernel
theorem pd_11 : parseMethodDescriptor "([C)V" = some ⟨[(.array .char)], none⟩ := by decide +kernel
theorem pn_1 : plainFor (⟨"com/example/clearbrace/clearbrace/schema/TagEqualsPinLaw", "cls", "(I)Lcom/example/clearbrace/clearbrace/schema/TagClass;"⟩ : MethodName) = true := by first | (exact plainFor_of_name (show plainName "com/example/clearbrace/clearbrace/schema/TagEqualsPinLaw" = true by first | (simp [plainName, overriddenIn]; done) | decide +kernel)) | decide +kernel
theorem ef_rm_cls (m : MethodId) (x0 : Int32) : entryFrame m #[(.int x0)] 1 = mkF m 0 #[.val (.int x0)] [] := by first | (simp [entryFrame, mkF, argsToLocals, Value.category]; done) | rfl
set_option maxRecDepth 65536 in
set_option maxHeartbeats 40000000 in
theorem rm_cls (l : Launch) (Z : State) (a0 : Array Value) (hw : ∀ d ∈ tables_1, d.before a0 Z = true) (u : Int32) (x0 x1 x2 x3 : Addr) (h0 : Heap) (n0 : Nat) (Z0 : n0 ≤ h0.size) (S0 : Sta Z h0 "com/example/clearbrace/clearbrace/schema/TagClass" "UNIVERSAL" "Lcom/example/clearbrace/clearbrace/schema/TagClass;" (.ref x0)) (S1 : Sta Z h0 "com/example/clearbrace/clearbrace/schema/TagClass" "APPLICATION" "Lcom/example/clearbrace/clearbrace/schema/TagClass;" (.ref x1)) (S2 : Sta Z h0 "com/example/clearbrace/clearbrace/schema/TagClass" "CONTEXT_SPECIFIC" "Lcom/example/clearbrace/clearbrace/schema/TagClass;" (.ref x2)) (S3 : Sta Z h0 "com/example/clearbrace/clearbrace/schema/TagClass" "PRIVATE" "Lcom/example/clearbrace/clearbrace/schema/TagClass;" (.ref x3)) :
    Con l Z (⟨"com/example/clearbrace/clearbrace/schema/TagEqualsPinLaw", "cls", "(I)Lcom/example/clearbrace/clearbrace/schema/TagClass;"⟩ : MethodName) method_2_code 1 (some (.object "com/example/clearbrace/clearbrace/schema/TagClass")) ({ frames := 0, cells := 0, slots := 0, locals := 0 } : Room) #[(.int u)] h0 (fun v h L => v = some (.ref (tc u x0 x1 x2 x3)) ∧ Fr n0 L ∧ h = h0) := by
  refine own_body pn_1 ?_
  intro p e s m below meth c s₁ hx hby hml hown hnm hret hZ e0 X0 G go rt
  have N0 := Fr.nil n0
  rw [ef_rm_cls m u]
  show G (s₁.setTop (mkF m 0 #[.val (.int u)] []))
  refine go _ _ (fun t' k' => XS.iloadN X0.here hx rfl (hb hby d1_0) rfl  k') ?_
  show G (s₁.setTop (mkF m 1 #[.val (.int u)] [(.int u)]))
  by_cases c101 : u = (0 : Int32)
  · refine go _ _ (fun t' k' => XS.ifNo X0.here hx rfl (hb hby d1_1) rfl (Free.XT.i0_ne_f c101) k') ?_
    show G (s₁.setTop (mkF m 4 #[.val (.int u)] []))
    obtain ⟨T102, X102, e102, st102⟩ := getS X0 hx hZ hown (host := "") (hw _ (List.mem_of_getElem? (i := 8) rfl)) Via.refl e0 S0 (g := (mkF m 4 #[.val (.int u)] [])) rfl (hb hby d1_4)
    refine go _ _ st102 ?_
    show G (T102.setTop (mkF m 7 #[.val (.int u)] [(.ref x0)]))
    refine own_retA rt X102 hx hret rfl rfl (hb hby d1_7) (by decide) (by decide) ?_
    exact ⟨by simp [tc, c101], N0, e102⟩
  · refine go _ _ (fun t' k' => XS.ifYes X0.here hx rfl (pc0 := 1) (pc' := 8) rfl (hb hby d1_1) rfl (Free.XT.i0_ne_t c101) (by decide) (by decide) k') ?_
    show G (s₁.setTop (mkF m 8 #[.val (.int u)] []))
    refine go _ _ (fun t' k' => XS.iloadN X0.here hx rfl (hb hby d1_8) rfl  k') ?_
    show G (s₁.setTop (mkF m 9 #[.val (.int u)] [(.int u)]))
    refine go _ _ (fun t' k' => XS.iconst X0.here hx rfl (hb hby d1_9) k') ?_
    show G (s₁.setTop (mkF m 10 #[.val (.int u)] [(.int (1 : Int32)), (.int u)]))
    by_cases c103 : u = (1 : Int32)
    · refine go _ _ (fun t' k' => XS.icmpNo X0.here hx rfl (hb hby d1_10) rfl (Free.XT.ii_ne_f c103) k') ?_
      show G (s₁.setTop (mkF m 13 #[.val (.int u)] []))
      obtain ⟨T104, X104, e104, st104⟩ := getS X0 hx hZ hown (host := "") (hw _ (List.mem_of_getElem? (i := 46) rfl)) Via.refl e0 S1 (g := (mkF m 13 #[.val (.int u)] [])) rfl (hb hby d1_13)
      refine go _ _ st104 ?_
      show G (T104.setTop (mkF m 16 #[.val (.int u)] [(.ref x1)]))
      refine own_retA rt X104 hx hret rfl rfl (hb hby d1_16) (by decide) (by decide) ?_
      exact ⟨by simp [tc, c101, c103], N0, e104⟩
    · refine go _ _ (fun t' k' => XS.icmpYes X0.here hx rfl (pc0 := 10) (pc' := 17) rfl (hb hby d1_10) rfl (Free.XT.ii_ne_t c103) (by decide) (by decide) k') ?_
      show G (s₁.setTop (mkF m 17 #[.val (.int u)] []))
      refine go _ _ (fun t' k' => XS.iloadN X0.here hx rfl (hb hby d1_17) rfl  k') ?_
      show G (s₁.setTop (mkF m 18 #[.val (.int u)] [(.int u)]))
      refine go _ _ (fun t' k' => XS.iconst X0.here hx rfl (hb hby d1_18) k') ?_
      show G (s₁.setTop (mkF m 19 #[.val (.int u)] [(.int (2 : Int32)), (.int u)]))
      by_cases c105 : u = (2 : Int32)
      · refine go _ _ (fun t' k' => XS.icmpNo X0.here hx rfl (hb hby d1_19) rfl (Free.XT.ii_ne_f c105) k') ?_
        show G (s₁.setTop (mkF m 22 #[.val (.int u)] []))
        obtain ⟨T106, X106, e106, st106⟩ := getS X0 hx hZ hown (host := "") (hw _ (List.mem_of_getElem? (i := 35) rfl)) Via.refl e0 S2 (g := (mkF m 22 #[.val (.int u)] [])) rfl (hb hby d1_22)
        refine go _ _ st106 ?_
        show G (T106.setTop (mkF m 25 #[.val (.int u)] [(.ref x2)]))
        refine own_retA rt X106 hx hret rfl rfl (hb hby d1_25) (by decide) (by decide) ?_
        exact ⟨by simp [tc, c101, c103, c105], N0, e106⟩
      · refine go _ _ (fun t' k' => XS.icmpYes X0.here hx rfl (pc0 := 19) (pc' := 26) rfl (hb hby d1_19) rfl (Free.XT.ii_ne_t c105) (by decide) (by decide) k') ?_
        show G (s₁.setTop (mkF m 26 #[.val (.int u)] []))
        obtain ⟨T107, X107, e107, st107⟩ := getS X0 hx hZ hown (host := "") (hw _ (List.mem_of_getElem? (i := 44) rfl)) Via.refl e0 S3 (g := (mkF m 26 #[.val (.int u)] [])) rfl (hb hby d1_26)
        refine go _ _ st107 ?_
        show G (T107.setTop (mkF m 29 #[.val (.int u)] [(.ref x3)]))
        refine own_retA rt X107 hx hret rfl rfl (hb hby d1_29) (by decide) (by decide) ?_
        exact ⟨by simp [tc, c101, c103, c105], N0, e107⟩
theorem pn_4 : plainFor (⟨"java/util/Objects", "requireNonNull", "(Ljava/lang/Object;Ljava/lang/String;)Ljava/lang/Object;"⟩ : MethodName) = true := by first | (exact plainFor_of_name (show plainName "java/util/Objects" = true by first | (simp [plainName, overriddenIn]; done) | decide +kernel)) | decide +kernel
theorem ef_rm_rn (m : MethodId) (x0 : Addr) (x1 : Addr) : entryFrame m #[(.ref x0), (.ref x1)] 2 = mkF m 0 #[.val (.ref x0), .val (.ref x1)] [] := by first | (simp [entryFrame, mkF, argsToLocals, Value.category]; done) | rfl
set_option maxRecDepth 65536 in
set_option maxHeartbeats 40000000 in
theorem rm_rn (l : Launch) (Z : State) (a0 : Array Value) (hw : ∀ d ∈ tables_1, d.before a0 Z = true) (r0 r1 : Addr) (h0 : Heap) (n0 : Nat) (Z0 : n0 ≤ h0.size)  :
    Con l Z (⟨"java/util/Objects", "requireNonNull", "(Ljava/lang/Object;Ljava/lang/String;)Ljava/lang/Object;"⟩ : MethodName) jdk_31_method_11_code 2 (some (.object "java/lang/Object")) ({ frames := 0, cells := 0, slots := 0, locals := 0 } : Room) #[(.ref r0), (.ref r1)] h0 (fun v h L => v = some (.ref r0) ∧ Fr n0 L ∧ h = h0) := by
  refine own_body pn_4 ?_
  intro p e s m below meth c s₁ hx hby hml hown hnm hret hZ e0 X0 G go rt
  have N0 := Fr.nil n0
  rw [ef_rm_rn m r0 r1]
  show G (s₁.setTop (mkF m 0 #[.val (.ref r0), .val (.ref r1)] []))
  refine go _ _ (fun t' k' => XS.aloadN X0.here hx rfl (hb hby d4_0) rfl rfl  k') ?_
  show G (s₁.setTop (mkF m 1 #[.val (.ref r0), .val (.ref r1)] [(.ref r0)]))
  refine go _ _ (fun t' k' => XS.ifnonnullYes X0.here hx rfl (pc0 := 1) (pc' := 13) rfl (hb hby d4_1) rfl (by decide) (by decide) k') ?_
  show G (s₁.setTop (mkF m 13 #[.val (.ref r0), .val (.ref r1)] []))
  refine go _ _ (fun t' k' => XS.aloadN X0.here hx rfl (hb hby d4_13) rfl rfl  k') ?_
  show G (s₁.setTop (mkF m 14 #[.val (.ref r0), .val (.ref r1)] [(.ref r0)]))
  refine own_retA rt X0 hx hret rfl rfl (hb hby d4_14) (by decide) (by decide) ?_
  exact ⟨rfl, N0, e0⟩
theorem pn_2 : plainFor (⟨"com/example/clearbrace/clearbrace/schema/Tag", "<init>", "(Lcom/example/clearbrace/clearbrace/schema/TagClass;I)V"⟩ : MethodName) = true := by first | (exact plainFor_of_name (show plainName "com/example/clearbrace/clearbrace/schema/Tag" = true by first | (simp [plainName, overriddenIn]; done) | decide +kernel)) | decide +kernel
theorem ef_rm_ti (m : MethodId) (x0 : Addr) (x1 : Addr) (x2 : Int32) : entryFrame m #[(.ref x0), (.ref x1), (.int x2)] 3 = mkF m 0 #[.val (.ref x0), .val (.ref x1), .val (.int x2)] [] := by first | (simp [entryFrame, mkF, argsToLocals, Value.category]; done) | rfl
set_option maxRecDepth 65536 in
set_option maxHeartbeats 40000000 in
theorem rm_ti (l : Launch) (Z : State) (a0 : Array Value) (hw : ∀ d ∈ tables_1, d.before a0 Z = true) (r0 r1 : Addr) (u : Int32) (h0 : Heap) (n0 : Nat) (Z0 : n0 ≤ h0.size) (g_r0 : n0 ≤ r0) (hu : ¬ u < 0) (Ec : Exa Z h0 r1 "com/example/clearbrace/clearbrace/schema/TagClass") (E0 : Exa Z h0 r0 "com/example/clearbrace/clearbrace/schema/Tag") (F0 : Fld Z h0 r0 "com/example/clearbrace/clearbrace/schema/Tag" "_tagClass" "Lcom/example/clearbrace/clearbrace/schema/TagClass;" (.null)) (F1 : Fld Z h0 r0 "com/example/clearbrace/clearbrace/schema/Tag" "_number" "I" (.int 0)) :
    ConW l Z (⟨"com/example/clearbrace/clearbrace/schema/Tag", "<init>", "(Lcom/example/clearbrace/clearbrace/schema/TagClass;I)V"⟩ : MethodName) prog_76_method_1_code 3 none ({ frames := 1, cells := 2, slots := 36, locals := 14 } : Room) #[(.ref r0), (.ref r1), (.int u)] h0 (fun v h L => v = none ∧ Fr n0 L ∧ Keep h0 h [r0] ∧ Fld Z h r0 "com/example/clearbrace/clearbrace/schema/Tag" "_tagClass" "Lcom/example/clearbrace/clearbrace/schema/TagClass;" (.ref r1) ∧ Fld Z h r0 "com/example/clearbrace/clearbrace/schema/Tag" "_number" "I" (.int u)) := by
  refine own_bodyW pn_2 ?_
  intro p e s m below meth c s₁ hx hby hml hown hnm hret hZ e0 X0 G go kS rb Zk0
  have rt := own_rt rb
  have N0 := Fr.nil n0
  rw [ef_rm_ti m r0 r1 u]
  show G (s₁.setTop (mkF m 0 #[.val (.ref r0), .val (.ref r1), .val (.int u)] []))
  refine go _ _ (fun t' k' => XS.aloadN X0.here hx rfl (hb hby d2_0) rfl rfl  k') ?_
  show G (s₁.setTop (mkF m 1 #[.val (.ref r0), .val (.ref r1), .val (.int u)] [(.ref r0)]))
  obtain ⟨T108, X108, e108, st108⟩ := initO X0 hx hZ hown (hw _ (List.mem_of_getElem? (i := 14) rfl)) (hw _ (List.mem_of_getElem? (i := 15) rfl)) (hw _ (List.mem_of_getElem? (i := 16) rfl)) e0 (g := (mkF m 1 #[.val (.ref r0), .val (.ref r1), .val (.int u)] [(.ref r0)])) rfl (by rw [hml]; rfl) rfl (hb hby d2_1) (by decide) (W := 0) (by show 2 * 0 + _ ≤ _; exact Nat.le_of_eq rfl) (by decide)
  refine go _ _ st108 ?_
  show G (T108.setTop (mkF m 4 #[.val (.ref r0), .val (.ref r1), .val (.int u)] []))
  refine go _ _ (fun t' k' => XS.iloadN X108.here hx rfl (hb hby d2_4) rfl  k') ?_
  show G (T108.setTop (mkF m 5 #[.val (.ref r0), .val (.ref r1), .val (.int u)] [(.int u)]))
  refine go _ _ (fun t' k' => XS.ifYes X108.here hx rfl (pc0 := 5) (pc' := 22) rfl (hb hby d2_5) rfl (Free.XT.i0_ge_t hu) (by decide) (by decide) k') ?_
  show G (T108.setTop (mkF m 22 #[.val (.ref r0), .val (.ref r1), .val (.int u)] []))
  refine go _ _ (fun t' k' => XS.aloadN X108.here hx rfl (hb hby d2_22) rfl rfl  k') ?_
  show G (T108.setTop (mkF m 23 #[.val (.ref r0), .val (.ref r1), .val (.int u)] [(.ref r0)]))
  refine go _ _ (fun t' k' => XS.aloadN X108.here hx rfl (hb hby d2_23) rfl rfl  k') ?_
  show G (T108.setTop (mkF m 24 #[.val (.ref r0), .val (.ref r1), .val (.int u)] [(.ref r1), (.ref r0)]))
  refine own_ldcS go X108 hx hZ e108 hown (hw _ (List.mem_of_getElem? (i := 17) rfl)) (own_wS hw) rb Zk0 (g := (mkF m 24 #[.val (.ref r0), .val (.ref r1), .val (.int u)] [(.ref r1), (.ref r0)])) rfl (hb hby d2_24) 32 (by decide) (by decide) (by decide) (by decide) ?_
  intro s kS T109 h109 a109 hZ hown rb Y109 X109 e109 E109
  have rt := own_rt rb
  have Z110 : n0 ≤ h109.size := Nat.le_trans Z0 E109.1
  have K111 : Keep h0 h109 [r0] := (Keep.refl h0 [r0]).ext E109
  show G (T109.setTop (mkF m 26 #[.val (.ref r0), .val (.ref r1), .val (.int u)] [(.ref a109), (.ref r1), (.ref r0)]))
  refine own_static go X109 hx hZ e109 hown (hw _ (List.mem_of_getElem? (i := 25) rfl)) (hw _ (List.mem_of_getElem? (i := 26) rfl)) (hw _ (List.mem_of_getElem? (i := 27) rfl)) (hw _ (List.mem_of_getElem? (i := 28) rfl)) (by decide) (rm_rn l Z a0 hw r1 a109 h109 n0 Z110) 1 (by decide) (by decide) (by decide) (by decide) (g := (mkF m 26 #[.val (.ref r0), .val (.ref r1), .val (.int u)] [(.ref a109), (.ref r1), (.ref r0)])) rfl (by rw [hml]; rfl) [(.ref r1), (.ref a109)] [(.ref r0)] rfl (lenOf pd_0 rfl) rfl (by show 2 * 0 + _ ≤ _; exact Nat.le_of_eq rfl) (hb hby d2_26) ?_
  intro T112 L112 v112 X112 q112
  obtain ⟨rfl, N112, hh112⟩ := q112
  obtain ⟨lc112, X112h, N112h⟩ := own_hide X112 (Fr.app N0 N112)
  show G (T112.setTop (mkF m 29 #[.val (.ref r0), .val (.ref r1), .val (.int u)] [(.ref r1), (.ref r0)]))
  have f114 := (Ec.ext E109)
  obtain ⟨T113, X113, e113, st113⟩ := castY X112h hx hZ hown (hw _ (List.mem_of_getElem? (i := 29) rfl)) hh112 (Ins.self f114) (g := (mkF m 29 #[.val (.ref r0), .val (.ref r1), .val (.int u)] [(.ref r1), (.ref r0)])) rfl rfl (hb hby d2_29)
  refine go _ _ st113 ?_
  show G (T113.setTop (mkF m 32 #[.val (.ref r0), .val (.ref r1), .val (.int u)] [(.ref r1), (.ref r0)]))
  have f115 := (F0.ext E109)
  have f116 := (E0.ext E109)
  obtain ⟨T117, h117, X117, e117, W117, st117⟩ := putF X113 hx hZ hown (host := "") (Or.inl (hw _ (List.mem_of_getElem? (i := 31) rfl))) Via.refl e113 f115 f116 (Or.inr ⟨(hw _ (List.mem_of_getElem? (i := 32) rfl)), rfl, hnm⟩) (hw _ (List.mem_of_getElem? (i := 2) rfl)) (ty := (.object "com/example/clearbrace/clearbrace/schema/TagClass")) (by decide) rfl rfl (g := (mkF m 32 #[.val (.ref r0), .val (.ref r1), .val (.int u)] [(.ref r1), (.ref r0)])) rfl rfl (hb hby d2_32)
  have F117 := f115.same W117
  have K118 : Keep h0 h117 [r0] := K111.wr W117 (Or.inl (List.mem_of_getElem? (i := 0) rfl))
  obtain ⟨lc117, X117h, N117h⟩ := own_hide X117 (Fr.snoc X117 N112h g_r0)
  have Z119 : n0 ≤ h117.size := Nat.le_trans Z110 (Nat.le_of_eq W117.size.symm)
  have Y120 : kS ≤ h117.size := Nat.le_trans Y109 (Nat.le_of_eq W117.size.symm)
  refine go _ _ st117 ?_
  show G (T117.setTop (mkF m 35 #[.val (.ref r0), .val (.ref r1), .val (.int u)] []))
  refine go _ _ (fun t' k' => XS.aloadN X117h.here hx rfl (hb hby d2_35) rfl rfl  k') ?_
  show G (T117.setTop (mkF m 36 #[.val (.ref r0), .val (.ref r1), .val (.int u)] [(.ref r0)]))
  refine go _ _ (fun t' k' => XS.iloadN X117h.here hx rfl (hb hby d2_36) rfl  k') ?_
  show G (T117.setTop (mkF m 37 #[.val (.ref r0), .val (.ref r1), .val (.int u)] [(.int u), (.ref r0)]))
  have f121 := ((F1.ext E109).other W117 (Or.inr (slot_ne (Or.inr (hw _ (List.mem_of_getElem? (i := 34) rfl))) (Or.inr (hw _ (List.mem_of_getElem? (i := 32) rfl))) (by decide) (t := .int) (t' := (.object "com/example/clearbrace/clearbrace/schema/TagClass")) (by decide) (by decide))))
  have f122 := (f116.wr W117)
  obtain ⟨T123, h123, X123, e123, W123, st123⟩ := putF X117h hx hZ hown (host := "") (Or.inl (hw _ (List.mem_of_getElem? (i := 33) rfl))) Via.refl e117 f121 f122 (Or.inr ⟨(hw _ (List.mem_of_getElem? (i := 34) rfl)), rfl, hnm⟩) (hw _ (List.mem_of_getElem? (i := 2) rfl)) (ty := .int) (by decide) rfl rfl (g := (mkF m 37 #[.val (.ref r0), .val (.ref r1), .val (.int u)] [(.int u), (.ref r0)])) rfl rfl (hb hby d2_37)
  have F123 := f121.same W123
  have K124 : Keep h0 h123 [r0] := K118.wr W123 (Or.inl (List.mem_of_getElem? (i := 0) rfl))
  obtain ⟨lc123, X123h, N123h⟩ := own_hide X123 (Fr.snoc X123 N117h g_r0)
  have Z125 : n0 ≤ h123.size := Nat.le_trans Z119 (Nat.le_of_eq W123.size.symm)
  have Y126 : kS ≤ h123.size := Nat.le_trans Y120 (Nat.le_of_eq W123.size.symm)
  refine go _ _ st123 ?_
  show G (T123.setTop (mkF m 40 #[.val (.ref r0), .val (.ref r1), .val (.int u)] []))
  refine own_retV rt X123h hx hret (hb hby d2_40) (by decide) (by decide) ?_
  refine ⟨(by rw [e123]; exact Y126), ?_⟩
  have f127 := (F117.other W123 (Or.inr (slot_ne (Or.inr (hw _ (List.mem_of_getElem? (i := 32) rfl))) (Or.inr (hw _ (List.mem_of_getElem? (i := 34) rfl))) (by decide) (t := (.object "com/example/clearbrace/clearbrace/schema/TagClass")) (t' := .int) (by decide) (by decide))))
  rw [e123]
  exact ⟨rfl, N123h, K124, f127, F123⟩
theorem pn_5 : plainFor (⟨"com/example/clearbrace/clearbrace/schema/Tag", "equals", "(Ljava/lang/Object;)Z"⟩ : MethodName) = true := by first | (exact plainFor_of_name (show plainName "com/example/clearbrace/clearbrace/schema/Tag" = true by first | (simp [plainName, overriddenIn]; done) | decide +kernel)) | decide +kernel
theorem ef_rm_eN (m : MethodId) (x0 : Addr) : entryFrame m #[(.ref x0), .null] 3 = mkF m 0 #[.val (.ref x0), .val .null, .unset] [] := by first | (simp [entryFrame, mkF, argsToLocals, Value.category]; done) | rfl
set_option maxRecDepth 65536 in
set_option maxHeartbeats 40000000 in
theorem rm_eN (l : Launch) (Z : State) (a0 : Array Value) (hw : ∀ d ∈ tables_1, d.before a0 Z = true) (r0 : Addr) (h0 : Heap) (n0 : Nat) (Z0 : n0 ≤ h0.size)  :
    Con l Z (⟨"com/example/clearbrace/clearbrace/schema/Tag", "equals", "(Ljava/lang/Object;)Z"⟩ : MethodName) prog_76_method_6_code 3 (some .boolean) ({ frames := 0, cells := 0, slots := 0, locals := 0 } : Room) #[(.ref r0), .null] h0 (fun v h L => v = some (.int 0) ∧ Fr n0 L ∧ h = h0) := by
  refine own_body pn_5 ?_
  intro p e s m below meth c s₁ hx hby hml hown hnm hret hZ e0 X0 G go rt
  have N0 := Fr.nil n0
  rw [ef_rm_eN m r0]
  show G (s₁.setTop (mkF m 0 #[.val (.ref r0), .val .null, .unset] []))
  refine go _ _ (fun t' k' => XS.aloadN X0.here hx rfl (hb hby d5_0) rfl rfl  k') ?_
  show G (s₁.setTop (mkF m 1 #[.val (.ref r0), .val .null, .unset] [.null]))
  refine go _ _ (Stand.instanceofNull X0 hx (g := (mkF m 1 #[.val (.ref r0), .val .null, .unset] [.null])) rfl rfl (hb hby d5_1)) ?_
  show G (s₁.setTop (mkF m 4 #[.val (.ref r0), .val .null, .unset] [(.int (0 : Int32))]))
  refine go _ _ (fun t' k' => XS.ifNo X0.here hx rfl (hb hby d5_4) rfl (Free.XT.i0_ne_f (by decide)) k') ?_
  show G (s₁.setTop (mkF m 7 #[.val (.ref r0), .val .null, .unset] []))
  refine go _ _ (fun t' k' => XS.iconst X0.here hx rfl (hb hby d5_7) k') ?_
  show G (s₁.setTop (mkF m 8 #[.val (.ref r0), .val .null, .unset] [(.int (0 : Int32))]))
  refine own_retZ rt X0 hx (t := .boolean) hret (by simp) (hb hby d5_8) (by decide) (by decide) ?_
  exact ⟨rfl, N0, e0⟩
theorem ef_rm_eX (m : MethodId) (x0 : Addr) (x1 : Addr) : entryFrame m #[(.ref x0), (.ref x1)] 3 = mkF m 0 #[.val (.ref x0), .val (.ref x1), .unset] [] := by first | (simp [entryFrame, mkF, argsToLocals, Value.category]; done) | rfl
set_option maxRecDepth 65536 in
set_option maxHeartbeats 40000000 in
theorem rm_eX (l : Launch) (Z : State) (a0 : Array Value) (hw : ∀ d ∈ tables_1, d.before a0 Z = true) (r0 r1 : Addr) (KX : String) (h0 : Heap) (n0 : Nat) (Z0 : n0 ≤ h0.size) (E1 : Exa Z h0 r1 KX) (NA : ∃ c t, Z.vm.findClass KX = some c ∧ Z.vm.findClass "com/example/clearbrace/clearbrace/schema/Tag" = some t ∧ Z.vm.assignable c t = false) :
    Con l Z (⟨"com/example/clearbrace/clearbrace/schema/Tag", "equals", "(Ljava/lang/Object;)Z"⟩ : MethodName) prog_76_method_6_code 3 (some .boolean) ({ frames := 0, cells := 0, slots := 0, locals := 0 } : Room) #[(.ref r0), (.ref r1)] h0 (fun v h L => v = some (.int 0) ∧ Fr n0 L ∧ h = h0) := by
  refine own_body pn_5 ?_
  intro p e s m below meth c s₁ hx hby hml hown hnm hret hZ e0 X0 G go rt
  have N0 := Fr.nil n0
  rw [ef_rm_eX m r0 r1]
  show G (s₁.setTop (mkF m 0 #[.val (.ref r0), .val (.ref r1), .unset] []))
  refine go _ _ (fun t' k' => XS.aloadN X0.here hx rfl (hb hby d5_0) rfl rfl  k') ?_
  show G (s₁.setTop (mkF m 1 #[.val (.ref r0), .val (.ref r1), .unset] [(.ref r1)]))
  obtain ⟨T129, X129, e129, st129⟩ := instNo X0 hx hZ hown (hw _ (List.mem_of_getElem? (i := 42) rfl)) e0 E1 NA (g := (mkF m 1 #[.val (.ref r0), .val (.ref r1), .unset] [(.ref r1)])) rfl rfl (hb hby d5_1)
  refine go _ _ st129 ?_
  show G (T129.setTop (mkF m 4 #[.val (.ref r0), .val (.ref r1), .unset] [(.int (0 : Int32))]))
  refine go _ _ (fun t' k' => XS.ifNo X129.here hx rfl (hb hby d5_4) rfl (Free.XT.i0_ne_f (by decide)) k') ?_
  show G (T129.setTop (mkF m 7 #[.val (.ref r0), .val (.ref r1), .unset] []))
  refine go _ _ (fun t' k' => XS.iconst X129.here hx rfl (hb hby d5_7) k') ?_
  show G (T129.setTop (mkF m 8 #[.val (.ref r0), .val (.ref r1), .unset] [(.int (0 : Int32))]))
  refine own_retZ rt X129 hx (t := .boolean) hret (by simp) (hb hby d5_8) (by decide) (by decide) ?_
  exact ⟨rfl, N0, e129⟩
theorem ef_rm_eT (m : MethodId) (x0 : Addr) (x1 : Addr) : entryFrame m #[(.ref x0), (.ref x1)] 3 = mkF m 0 #[.val (.ref x0), .val (.ref x1), .unset] [] := by first | (simp [entryFrame, mkF, argsToLocals, Value.category]; done) | rfl
set_option maxRecDepth 65536 in
set_option maxHeartbeats 40000000 in
theorem rm_eT (l : Launch) (Z : State) (a0 : Array Value) (hw : ∀ d ∈ tables_1, d.before a0 Z = true) (r0 r1 d0 d1 : Addr) (u0 u1 : Int32) (h0 : Heap) (n0 : Nat) (Z0 : n0 ≤ h0.size) (E1 : Exa Z h0 r1 "com/example/clearbrace/clearbrace/schema/Tag") (A0 : Fld Z h0 r0 "com/example/clearbrace/clearbrace/schema/Tag" "_tagClass" "Lcom/example/clearbrace/clearbrace/schema/TagClass;" (.ref d0)) (A1 : Fld Z h0 r0 "com/example/clearbrace/clearbrace/schema/Tag" "_number" "I" (.int u0)) (B0 : Fld Z h0 r1 "com/example/clearbrace/clearbrace/schema/Tag" "_tagClass" "Lcom/example/clearbrace/clearbrace/schema/TagClass;" (.ref d1)) (B1 : Fld Z h0 r1 "com/example/clearbrace/clearbrace/schema/Tag" "_number" "I" (.int u1)) :
    Con l Z (⟨"com/example/clearbrace/clearbrace/schema/Tag", "equals", "(Ljava/lang/Object;)Z"⟩ : MethodName) prog_76_method_6_code 3 (some .boolean) ({ frames := 0, cells := 0, slots := 0, locals := 0 } : Room) #[(.ref r0), (.ref r1)] h0 (fun v h L => v = some (.int (if d1 = d0 ∧ u1 = u0 then 1 else 0)) ∧ Fr n0 L ∧ h = h0) := by
  refine own_body pn_5 ?_
  intro p e s m below meth c s₁ hx hby hml hown hnm hret hZ e0 X0 G go rt
  have N0 := Fr.nil n0
  rw [ef_rm_eT m r0 r1]
  show G (s₁.setTop (mkF m 0 #[.val (.ref r0), .val (.ref r1), .unset] []))
  refine go _ _ (fun t' k' => XS.aloadN X0.here hx rfl (hb hby d5_0) rfl rfl  k') ?_
  show G (s₁.setTop (mkF m 1 #[.val (.ref r0), .val (.ref r1), .unset] [(.ref r1)]))
  obtain ⟨T130, X130, e130, st130⟩ := instY X0 hx hZ hown (hw _ (List.mem_of_getElem? (i := 42) rfl)) e0 (Ins.self E1) (g := (mkF m 1 #[.val (.ref r0), .val (.ref r1), .unset] [(.ref r1)])) rfl rfl (hb hby d5_1)
  refine go _ _ st130 ?_
  show G (T130.setTop (mkF m 4 #[.val (.ref r0), .val (.ref r1), .unset] [(.int (1 : Int32))]))
  refine go _ _ (fun t' k' => XS.ifYes X130.here hx rfl (pc0 := 4) (pc' := 9) rfl (hb hby d5_4) rfl (Free.XT.i0_ne_t (by decide)) (by decide) (by decide) k') ?_
  show G (T130.setTop (mkF m 9 #[.val (.ref r0), .val (.ref r1), .unset] []))
  refine go _ _ (fun t' k' => XS.aloadN X130.here hx rfl (hb hby d5_9) rfl rfl  k') ?_
  show G (T130.setTop (mkF m 10 #[.val (.ref r0), .val (.ref r1), .unset] [(.ref r1)]))
  obtain ⟨T131, X131, e131, st131⟩ := castY X130 hx hZ hown (hw _ (List.mem_of_getElem? (i := 42) rfl)) e130 (Ins.self E1) (g := (mkF m 10 #[.val (.ref r0), .val (.ref r1), .unset] [(.ref r1)])) rfl rfl (hb hby d5_10)
  refine go _ _ st131 ?_
  show G (T131.setTop (mkF m 13 #[.val (.ref r0), .val (.ref r1), .unset] [(.ref r1)]))
  refine go _ _ (fun t' k' => XS.astoreN X131.here hx rfl (hb hby d5_13) rfl rfl (l' := #[.val (.ref r0), .val (.ref r1), .val (.ref r1)]) rfl k') ?_
  show G (T131.setTop (mkF m 14 #[.val (.ref r0), .val (.ref r1), .val (.ref r1)] []))
  refine go _ _ (fun t' k' => XS.aloadN X131.here hx rfl (hb hby d5_14) rfl rfl  k') ?_
  show G (T131.setTop (mkF m 15 #[.val (.ref r0), .val (.ref r1), .val (.ref r1)] [(.ref r1)]))
  obtain ⟨T132, X132, e132, st132⟩ := getF X131 hx hZ hown (host := "") (Or.inl (hw _ (List.mem_of_getElem? (i := 31) rfl))) Via.refl e131 B0 (g := (mkF m 15 #[.val (.ref r0), .val (.ref r1), .val (.ref r1)] [(.ref r1)])) rfl rfl (hb hby d5_15)
  refine go _ _ st132 ?_
  show G (T132.setTop (mkF m 18 #[.val (.ref r0), .val (.ref r1), .val (.ref r1)] [(.ref d1)]))
  refine go _ _ (fun t' k' => XS.aloadN X132.here hx rfl (hb hby d5_18) rfl rfl  k') ?_
  show G (T132.setTop (mkF m 19 #[.val (.ref r0), .val (.ref r1), .val (.ref r1)] [(.ref r0), (.ref d1)]))
  obtain ⟨T133, X133, e133, st133⟩ := getF X132 hx hZ hown (host := "") (Or.inl (hw _ (List.mem_of_getElem? (i := 31) rfl))) Via.refl e132 A0 (g := (mkF m 19 #[.val (.ref r0), .val (.ref r1), .val (.ref r1)] [(.ref r0), (.ref d1)])) rfl rfl (hb hby d5_19)
  refine go _ _ st133 ?_
  show G (T133.setTop (mkF m 22 #[.val (.ref r0), .val (.ref r1), .val (.ref r1)] [(.ref d0), (.ref d1)]))
  by_cases c134 : ((.ref d1) : Value) = (.ref d0)
  · refine go _ _ (fun t' k' => Jvm.RoadKit.acmp (g := (mkF m 22 #[.val (.ref r0), .val (.ref r1), .val (.ref r1)] [(.ref d0), (.ref d1)])) X133 hx rfl (x := (.ref d1)) (y := (.ref d0)) rfl rfl (rest := []) (pc0 := 22) (pc' := 25) (same := true) rfl (hb hby d5_22) rfl (decide_eq_true c134) (by decide) (by decide) k') ?_
    show G (T133.setTop (mkF m 25 #[.val (.ref r0), .val (.ref r1), .val (.ref r1)] []))
    refine go _ _ (fun t' k' => XS.aloadN X133.here hx rfl (hb hby d5_25) rfl rfl  k') ?_
    show G (T133.setTop (mkF m 26 #[.val (.ref r0), .val (.ref r1), .val (.ref r1)] [(.ref r1)]))
    obtain ⟨T135, X135, e135, st135⟩ := getF X133 hx hZ hown (host := "") (Or.inl (hw _ (List.mem_of_getElem? (i := 33) rfl))) Via.refl e133 B1 (g := (mkF m 26 #[.val (.ref r0), .val (.ref r1), .val (.ref r1)] [(.ref r1)])) rfl rfl (hb hby d5_26)
    refine go _ _ st135 ?_
    show G (T135.setTop (mkF m 29 #[.val (.ref r0), .val (.ref r1), .val (.ref r1)] [(.int u1)]))
    refine go _ _ (fun t' k' => XS.aloadN X135.here hx rfl (hb hby d5_29) rfl rfl  k') ?_
    show G (T135.setTop (mkF m 30 #[.val (.ref r0), .val (.ref r1), .val (.ref r1)] [(.ref r0), (.int u1)]))
    obtain ⟨T136, X136, e136, st136⟩ := getF X135 hx hZ hown (host := "") (Or.inl (hw _ (List.mem_of_getElem? (i := 33) rfl))) Via.refl e135 A1 (g := (mkF m 30 #[.val (.ref r0), .val (.ref r1), .val (.ref r1)] [(.ref r0), (.int u1)])) rfl rfl (hb hby d5_30)
    refine go _ _ st136 ?_
    show G (T136.setTop (mkF m 33 #[.val (.ref r0), .val (.ref r1), .val (.ref r1)] [(.int u0), (.int u1)]))
    by_cases c137 : u1 = u0
    · refine go _ _ (fun t' k' => XS.icmpNo X136.here hx rfl (hb hby d5_33) rfl (Free.XT.ii_ne_f c137) k') ?_
      show G (T136.setTop (mkF m 36 #[.val (.ref r0), .val (.ref r1), .val (.ref r1)] []))
      refine go _ _ (fun t' k' => XS.iconst X136.here hx rfl (hb hby d5_36) k') ?_
      show G (T136.setTop (mkF m 37 #[.val (.ref r0), .val (.ref r1), .val (.ref r1)] [(.int (1 : Int32))]))
      refine go _ _ (fun t' k' => XS.goto X136.here hx rfl (pc0 := 37) (pc' := 41) rfl (hb hby d5_37) (by decide) (by decide) k') ?_
      show G (T136.setTop (mkF m 41 #[.val (.ref r0), .val (.ref r1), .val (.ref r1)] [(.int (1 : Int32))]))
      refine own_retZ rt X136 hx (t := .boolean) hret (by simp) (hb hby d5_41) (by decide) (by decide) ?_
      exact ⟨by simp only [own_r2] at *; simp [nar, c134, c137], N0, e136⟩
    · refine go _ _ (fun t' k' => XS.icmpYes X136.here hx rfl (pc0 := 33) (pc' := 40) rfl (hb hby d5_33) rfl (Free.XT.ii_ne_t c137) (by decide) (by decide) k') ?_
      show G (T136.setTop (mkF m 40 #[.val (.ref r0), .val (.ref r1), .val (.ref r1)] []))
      refine go _ _ (fun t' k' => XS.iconst X136.here hx rfl (hb hby d5_40) k') ?_
      show G (T136.setTop (mkF m 41 #[.val (.ref r0), .val (.ref r1), .val (.ref r1)] [(.int (0 : Int32))]))
      refine own_retZ rt X136 hx (t := .boolean) hret (by simp) (hb hby d5_41) (by decide) (by decide) ?_
      exact ⟨by simp only [own_r2] at *; simp [nar, c134, c137], N0, e136⟩
  · refine go _ _ (fun t' k' => Jvm.RoadKit.acmp (g := (mkF m 22 #[.val (.ref r0), .val (.ref r1), .val (.ref r1)] [(.ref d0), (.ref d1)])) X133 hx rfl (x := (.ref d1)) (y := (.ref d0)) rfl rfl (rest := []) (pc0 := 22) (pc' := 40) (same := false) rfl (hb hby d5_22) rfl (decide_eq_false c134) (by decide) (by decide) k') ?_
    show G (T133.setTop (mkF m 40 #[.val (.ref r0), .val (.ref r1), .val (.ref r1)] []))
    refine go _ _ (fun t' k' => XS.iconst X133.here hx rfl (hb hby d5_40) k') ?_
    show G (T133.setTop (mkF m 41 #[.val (.ref r0), .val (.ref r1), .val (.ref r1)] [(.int (0 : Int32))]))
    refine own_retZ rt X133 hx (t := .boolean) hret (by simp) (hb hby d5_41) (by decide) (by decide) ?_
    exact ⟨by simp only [own_r2] at *; simp [nar, c134], N0, e133⟩
theorem pn_8 : plainFor (⟨"java/lang/Number", "<init>", "()V"⟩ : MethodName) = true := by first | (exact plainFor_of_name (show plainName "java/lang/Number" = true by first | (simp [plainName, overriddenIn]; done) | decide +kernel)) | decide +kernel
theorem ef_rm_nu (m : MethodId) (x0 : Addr) : entryFrame m #[(.ref x0)] 1 = mkF m 0 #[.val (.ref x0)] [] := by first | (simp [entryFrame, mkF, argsToLocals, Value.category]; done) | rfl
set_option maxRecDepth 65536 in
set_option maxHeartbeats 40000000 in
theorem rm_nu (l : Launch) (Z : State) (a0 : Array Value) (hw : ∀ d ∈ tables_1, d.before a0 Z = true) (r0 : Addr) (h0 : Heap) (n0 : Nat) (Z0 : n0 ≤ h0.size)  :
    Con l Z (⟨"java/lang/Number", "<init>", "()V"⟩ : MethodName) jdk_18_method_1_code 1 none ({ frames := 1, cells := 0, slots := 0, locals := 12 } : Room) #[(.ref r0)] h0 (fun v h L => v = none ∧ Fr n0 L ∧ h = h0) := by
  refine own_body pn_8 ?_
  intro p e s m below meth c s₁ hx hby hml hown hnm hret hZ e0 X0 G go rt
  have N0 := Fr.nil n0
  rw [ef_rm_nu m r0]
  show G (s₁.setTop (mkF m 0 #[.val (.ref r0)] []))
  refine go _ _ (fun t' k' => XS.aloadN X0.here hx rfl (hb hby d8_0) rfl rfl  k') ?_
  show G (s₁.setTop (mkF m 1 #[.val (.ref r0)] [(.ref r0)]))
  obtain ⟨T138, X138, e138, st138⟩ := initO X0 hx hZ hown (hw _ (List.mem_of_getElem? (i := 66) rfl)) (hw _ (List.mem_of_getElem? (i := 15) rfl)) (hw _ (List.mem_of_getElem? (i := 16) rfl)) e0 (g := (mkF m 1 #[.val (.ref r0)] [(.ref r0)])) rfl (by rw [hml]; rfl) rfl (hb hby d8_1) (by decide) (W := 0) (by show 2 * 0 + _ ≤ _; exact Nat.le_of_eq rfl) (by decide)
  refine go _ _ st138 ?_
  show G (T138.setTop (mkF m 4 #[.val (.ref r0)] []))
  refine own_retV rt X138 hx hret (hb hby d8_4) (by decide) (by decide) ?_
  exact ⟨rfl, N0, e138⟩
theorem pn_7 : plainFor (⟨"java/lang/Integer", "<init>", "(I)V"⟩ : MethodName) = true := by first | (exact plainFor_of_name (show plainName "java/lang/Integer" = true by first | (simp [plainName, overriddenIn]; done) | decide +kernel)) | decide +kernel
theorem ef_rm_ii (m : MethodId) (x0 : Addr) (x1 : Int32) : entryFrame m #[(.ref x0), (.int x1)] 2 = mkF m 0 #[.val (.ref x0), .val (.int x1)] [] := by first | (simp [entryFrame, mkF, argsToLocals, Value.category]; done) | rfl
set_option maxRecDepth 65536 in
set_option maxHeartbeats 40000000 in
theorem rm_ii (l : Launch) (Z : State) (a0 : Array Value) (hw : ∀ d ∈ tables_1, d.before a0 Z = true) (r0 : Addr) (u : Int32) (h0 : Heap) (n0 : Nat) (Z0 : n0 ≤ h0.size) (g_r0 : n0 ≤ r0) (E0 : Exa Z h0 r0 "java/lang/Integer") (F0 : Fld Z h0 r0 "java/lang/Integer" "value" "I" (.int 0)) :
    Con l Z (⟨"java/lang/Integer", "<init>", "(I)V"⟩ : MethodName) jdk_33_method_23_code 2 none ({ frames := 2, cells := 0, slots := 0, locals := 24 } : Room) #[(.ref r0), (.int u)] h0 (fun v h L => v = none ∧ Fr n0 L ∧ Keep h0 h [r0]) := by
  refine own_body pn_7 ?_
  intro p e s m below meth c s₁ hx hby hml hown hnm hret hZ e0 X0 G go rt
  have N0 := Fr.nil n0
  rw [ef_rm_ii m r0 u]
  show G (s₁.setTop (mkF m 0 #[.val (.ref r0), .val (.int u)] []))
  refine go _ _ (fun t' k' => XS.aloadN X0.here hx rfl (hb hby d7_0) rfl rfl  k') ?_
  show G (s₁.setTop (mkF m 1 #[.val (.ref r0), .val (.int u)] [(.ref r0)]))
  refine own_init go X0 hx hZ e0 rfl hown (hw _ (List.mem_of_getElem? (i := 60) rfl)) (hw _ (List.mem_of_getElem? (i := 61) rfl)) (hw _ (List.mem_of_getElem? (i := 64) rfl)) (hw _ (List.mem_of_getElem? (i := 65) rfl)) (by decide) (rm_nu l Z a0 hw r0 h0 n0 Z0) 0 (by decide) (by decide) (by decide) (by decide) (g := (mkF m 1 #[.val (.ref r0), .val (.int u)] [(.ref r0)])) rfl (by rw [hml]; rfl) r0 [] [] rfl (lenOf pd_1 rfl) rfl (by show 2 * 0 + _ ≤ _; exact Nat.le_of_eq rfl) (hb hby d7_1) ?_
  intro T139 L139 v139 X139 q139
  obtain ⟨rfl, N139, hh139⟩ := q139
  obtain ⟨lc139, X139h, N139h⟩ := own_hide X139 (Fr.app N0 N139)
  show G (T139.setTop (mkF m 4 #[.val (.ref r0), .val (.int u)] []))
  refine go _ _ (fun t' k' => XS.aloadN X139h.here hx rfl (hb hby d7_4) rfl rfl  k') ?_
  show G (T139.setTop (mkF m 5 #[.val (.ref r0), .val (.int u)] [(.ref r0)]))
  refine go _ _ (fun t' k' => XS.iloadN X139h.here hx rfl (hb hby d7_5) rfl  k') ?_
  show G (T139.setTop (mkF m 6 #[.val (.ref r0), .val (.int u)] [(.int u), (.ref r0)]))
  obtain ⟨T140, h140, X140, e140, W140, st140⟩ := putF X139h hx hZ hown (host := "") (Or.inl (hw _ (List.mem_of_getElem? (i := 67) rfl))) Via.refl hh139 F0 E0 (Or.inr ⟨(hw _ (List.mem_of_getElem? (i := 68) rfl)), rfl, hnm⟩) (hw _ (List.mem_of_getElem? (i := 55) rfl)) (ty := .int) (by decide) rfl rfl (g := (mkF m 6 #[.val (.ref r0), .val (.int u)] [(.int u), (.ref r0)])) rfl rfl (hb hby d7_6)
  have F140 := F0.same W140
  have K141 : Keep h0 h140 [r0] := (Keep.refl h0 [r0]).wr W140 (Or.inl (List.mem_of_getElem? (i := 0) rfl))
  obtain ⟨lc140, X140h, N140h⟩ := own_hide X140 (Fr.snoc X140 N139h g_r0)
  have Z142 : n0 ≤ h140.size := Nat.le_trans Z0 (Nat.le_of_eq W140.size.symm)
  refine go _ _ st140 ?_
  show G (T140.setTop (mkF m 9 #[.val (.ref r0), .val (.int u)] []))
  refine own_retV rt X140h hx hret (hb hby d7_9) (by decide) (by decide) ?_
  rw [e140]
  exact ⟨rfl, N140h, K141⟩
theorem pn_6 : plainFor (⟨"java/lang/Integer", "valueOf", "(I)Ljava/lang/Integer;"⟩ : MethodName) = true := by first | (exact plainFor_of_name (show plainName "java/lang/Integer" = true by first | (simp [plainName, overriddenIn]; done) | decide +kernel)) | decide +kernel
theorem ef_rm_vo (m : MethodId) (x0 : Int32) : entryFrame m #[(.int x0)] 1 = mkF m 0 #[.val (.int x0)] [] := by first | (simp [entryFrame, mkF, argsToLocals, Value.category]; done) | rfl
set_option maxRecDepth 65536 in
set_option maxHeartbeats 40000000 in
theorem rm_vo (l : Launch) (Z : State) (a0 : Array Value) (hw : ∀ d ∈ tables_1, d.before a0 Z = true) (u : Int32) (rc : Addr) (ic : Nat → Addr) (h0 : Heap) (n0 : Nat) (Z0 : n0 ≤ h0.size) (hu : ¬ u < 0) (Ei : Exa Z h0 (ic (ci u)) "java/lang/Integer") (Sh : Sta Z h0 "java/lang/Integer$IntegerCache" "high" "I" (.int 127)) (Sc : Sta Z h0 "java/lang/Integer$IntegerCache" "cache" "[Ljava/lang/Integer;" (.ref rc)) (Ac : Ary Z h0 rc (.object "java/lang/Integer") 256 (fun i => .ref (ic i))) :
    Con l Z (⟨"java/lang/Integer", "valueOf", "(I)Ljava/lang/Integer;"⟩ : MethodName) jdk_33_method_22_code 1 (some (.object "java/lang/Integer")) ({ frames := 3, cells := 1, slots := 1, locals := 38 } : Room) #[(.int u)] h0 (fun v h L => ∃ r : Addr, v = some (.ref r) ∧ Fr n0 L ∧ Keep h0 h [] ∧ Exa Z h r "java/lang/Integer") := by
  refine own_body pn_6 ?_
  intro p e s m below meth c s₁ hx hby hml hown hnm hret hZ e0 X0 G go rt
  have N0 := Fr.nil n0
  rw [ef_rm_vo m u]
  show G (s₁.setTop (mkF m 0 #[.val (.int u)] []))
  refine go _ _ (fun t' k' => XS.iloadN X0.here hx rfl (hb hby d6_0) rfl  k') ?_
  show G (s₁.setTop (mkF m 1 #[.val (.int u)] [(.int u)]))
  refine go _ _ (fun t' k' => XS.bipush X0.here hx rfl (hb hby d6_1) k') ?_
  show G (s₁.setTop (mkF m 3 #[.val (.int u)] [(.int (-128 : Int32)), (.int u)]))
  refine go _ _ (fun t' k' => XS.icmpNo X0.here hx rfl (hb hby d6_3) rfl (Free.XT.ii_lt_f (own_m128 hu)) k') ?_
  show G (s₁.setTop (mkF m 6 #[.val (.int u)] []))
  refine go _ _ (fun t' k' => XS.iloadN X0.here hx rfl (hb hby d6_6) rfl  k') ?_
  show G (s₁.setTop (mkF m 7 #[.val (.int u)] [(.int u)]))
  obtain ⟨T143, X143, e143, st143⟩ := getS X0 hx hZ hown (host := "") (hw _ (List.mem_of_getElem? (i := 52) rfl)) Via.refl e0 Sh (g := (mkF m 7 #[.val (.int u)] [(.int u)])) rfl (hb hby d6_7)
  refine go _ _ st143 ?_
  show G (T143.setTop (mkF m 10 #[.val (.int u)] [(.int (127 : Int32)), (.int u)]))
  by_cases c144 : (127 : Int32) < u
  · refine go _ _ (fun t' k' => XS.icmpYes X143.here hx rfl (pc0 := 10) (pc' := 23) rfl (hb hby d6_10) rfl (Free.XT.ii_gt_t c144) (by decide) (by decide) k') ?_
    show G (T143.setTop (mkF m 23 #[.val (.int u)] []))
    obtain ⟨T145, h145, X145, e145, E145, A145, D145, -, st145⟩ := newO X143 hx hZ hown (hw _ (List.mem_of_getElem? (i := 54) rfl)) (hw _ (List.mem_of_getElem? (i := 55) rfl)) (hw _ (List.mem_of_getElem? (i := 50) rfl)) e143 (g := (mkF m 23 #[.val (.int u)] [])) rfl (hb hby d6_23) (by decide) (by decide)
    obtain ⟨b145, g145⟩ : ∃ z, z = h0.size := ⟨_, rfl⟩
    rw [← g145] at A145 D145 st145
    have ne146 : (ic (ci u)) ≠ b145 := Nat.ne_of_lt (by rw [g145]; exact Ei.lt)
    have ne147 : rc ≠ b145 := Nat.ne_of_lt (by rw [g145]; exact Ac.lt)
    have g_b145 : n0 ≤ b145 := Nat.le_trans Z0 (Nat.le_of_eq g145.symm)
    have sz_b145 : h0.size ≤ b145 := Nat.le_of_eq g145.symm
    have Z148 : n0 ≤ h145.size := Nat.le_trans Z0 E145.1
    have K149 : Keep h0 h145 [] := (Keep.refl h0 []).ext E145
    have F150 : Fld Z h145 b145 "java/lang/Integer" "value" "I" (.int (0 : Int32)) := D145 (Or.inr (hw _ (List.mem_of_getElem? (i := 68) rfl))) (ty := .int) (by decide)
    refine go _ _ st145 ?_
    show G (T145.setTop (mkF m 26 #[.val (.int u)] [(.ref b145)]))
    refine go _ _ (fun t' k' => XS.dup X145.here hx rfl (hb hby d6_26) rfl rfl k') ?_
    show G (T145.setTop (mkF m 27 #[.val (.int u)] [(.ref b145), (.ref b145)]))
    refine go _ _ (fun t' k' => XS.iloadN X145.here hx rfl (hb hby d6_27) rfl  k') ?_
    show G (T145.setTop (mkF m 28 #[.val (.int u)] [(.int u), (.ref b145), (.ref b145)]))
    refine own_init go X145 hx hZ e145 rfl hown (hw _ (List.mem_of_getElem? (i := 56) rfl)) (hw _ (List.mem_of_getElem? (i := 57) rfl)) (hw _ (List.mem_of_getElem? (i := 50) rfl)) (hw _ (List.mem_of_getElem? (i := 59) rfl)) (by decide) (rm_ii l Z a0 hw b145 u h145 n0 Z148 g_b145 A145 F150) 1 (by decide) (by decide) (by decide) (by decide) (g := (mkF m 28 #[.val (.int u)] [(.int u), (.ref b145), (.ref b145)])) rfl (by rw [hml]; rfl) b145 [(.int u)] [(.ref b145)] rfl (lenOf pd_2 rfl) rfl (by show 2 * 0 + _ ≤ _; exact Nat.le_of_eq rfl) (hb hby d6_28) ?_
    intro T151 L151 v151 X151 q151
    obtain ⟨rfl, N151, K151⟩ := q151
    have ns152 : ∀ w ∈ [b145], ∃ c : Cell, h145[w]? = some c ∧ c.vm.isStatics = false := (allS (own_exa_ns A145) all0)
    obtain ⟨lc151, X151h, N151h⟩ := own_hide X151 (Fr.app N0 N151)
    have K153 : Keep h0 T151.heap [] := K149.trans K151 (allS (Or.inr sz_b145) all0)
    have Z154 : n0 ≤ T151.heap.size := Nat.le_trans Z148 K151.1
    show G (T151.setTop (mkF m 31 #[.val (.int u)] [(.ref b145)]))
    refine own_retA rt X151h hx hret rfl rfl (hb hby d6_31) (by decide) (by decide) ?_
    have f155 := (A145.keep K151)
    exact ⟨_, rfl, N151h, K153, f155⟩
  · refine go _ _ (fun t' k' => XS.icmpNo X143.here hx rfl (hb hby d6_10) rfl (Free.XT.ii_gt_f c144) k') ?_
    show G (T143.setTop (mkF m 13 #[.val (.int u)] []))
    obtain ⟨T156, X156, e156, st156⟩ := getS X143 hx hZ hown (host := "") (hw _ (List.mem_of_getElem? (i := 96) rfl)) Via.refl e143 Sc (g := (mkF m 13 #[.val (.int u)] [])) rfl (hb hby d6_13)
    refine go _ _ st156 ?_
    show G (T156.setTop (mkF m 16 #[.val (.int u)] [(.ref rc)]))
    refine go _ _ (fun t' k' => XS.iloadN X156.here hx rfl (hb hby d6_16) rfl  k') ?_
    show G (T156.setTop (mkF m 17 #[.val (.int u)] [(.int u), (.ref rc)]))
    refine go _ _ (fun t' k' => XS.sipush X156.here hx rfl (hb hby d6_17) k') ?_
    show G (T156.setTop (mkF m 20 #[.val (.int u)] [(.int (128 : Int32)), (.int u), (.ref rc)]))
    refine go _ _ (fun t' k' => XS.iadd X156.here hx rfl (hb hby d6_20) rfl k') ?_
    show G (T156.setTop (mkF m 21 #[.val (.int u)] [(.int (u + (128 : Int32))), (.ref rc)]))
    refine own_aaload go X156 hx hZ e156 (ci u) (own_ci2 u hu c144) (own_ci u hu) (g := (mkF m 21 #[.val (.int u)] [(.int (u + (128 : Int32))), (.ref rc)])) rfl Ac rfl rfl (hb hby d6_21) ?_
    show G (T156.setTop (mkF m 22 #[.val (.int u)] [(.ref (ic (ci u)))]))
    refine own_retA rt X156 hx hret rfl rfl (hb hby d6_22) (by decide) (by decide) ?_
    rw [e156]
    exact ⟨_, rfl, N0, Keep.refl h0 [], Ei⟩
theorem pn_13 : plainFor (⟨"java/lang/StringUTF16", "coderFromArrayLen", "([BI)B"⟩ : MethodName) = true := by first | (exact plainFor_of_name (show plainName "java/lang/StringUTF16" = true by first | (simp [plainName, overriddenIn]; done) | decide +kernel)) | decide +kernel
theorem ef_rm_co (m : MethodId) (x0 : Addr) (x1 : Int32) : entryFrame m #[(.ref x0), (.int x1)] 2 = mkF m 0 #[.val (.ref x0), .val (.int x1)] [] := by first | (simp [entryFrame, mkF, argsToLocals, Value.category]; done) | rfl
set_option maxRecDepth 65536 in
set_option maxHeartbeats 40000000 in
theorem rm_co (l : Launch) (Z : State) (a0 : Array Value) (hw : ∀ d ∈ tables_1, d.before a0 Z = true) (rb : Addr) (f : Nat → Value) (h0 : Heap) (n0 : Nat) (Z0 : n0 ≤ h0.size) (Ab : Ary Z h0 rb .byte 1 f) :
    Con l Z (⟨"java/lang/StringUTF16", "coderFromArrayLen", "([BI)B"⟩ : MethodName) jdk_52_method_15_code 2 (some .byte) ({ frames := 0, cells := 0, slots := 0, locals := 0 } : Room) #[(.ref rb), (.int (1 : Int32))] h0 (fun v h L => v = some (.int 0) ∧ Fr n0 L ∧ h = h0) := by
  refine own_body pn_13 ?_
  intro p e s m below meth c s₁ hx hby hml hown hnm hret hZ e0 X0 G go rt
  have N0 := Fr.nil n0
  rw [ef_rm_co m rb (1 : Int32)]
  show G (s₁.setTop (mkF m 0 #[.val (.ref rb), .val (.int (1 : Int32))] []))
  refine go _ _ (fun t' k' => XS.iloadN X0.here hx rfl (hb hby d13_0) rfl  k') ?_
  show G (s₁.setTop (mkF m 1 #[.val (.ref rb), .val (.int (1 : Int32))] [(.int (1 : Int32))]))
  refine go _ _ (fun t' k' => XS.aloadN X0.here hx rfl (hb hby d13_1) rfl rfl  k') ?_
  show G (s₁.setTop (mkF m 2 #[.val (.ref rb), .val (.int (1 : Int32))] [(.ref rb), (.int (1 : Int32))]))
  refine own_arrlen go X0 hx hZ e0 (g := (mkF m 2 #[.val (.ref rb), .val (.int (1 : Int32))] [(.ref rb), (.int (1 : Int32))])) rfl Ab rfl (hb hby d13_2) ?_
  show G (s₁.setTop (mkF m 3 #[.val (.ref rb), .val (.int (1 : Int32))] [(.int (1 : Int32)), (.int (1 : Int32))]))
  refine go _ _ (fun t' k' => XS.isub X0.here hx rfl (hb hby d13_3) rfl k') ?_
  show G (s₁.setTop (mkF m 4 #[.val (.ref rb), .val (.int (1 : Int32))] [(.int ((1 : Int32) - (1 : Int32)))]))
  refine go _ _ (fun t' k' => XS.bipush X0.here hx rfl (hb hby d13_4) k') ?_
  show G (s₁.setTop (mkF m 6 #[.val (.ref rb), .val (.int (1 : Int32))] [(.int (31 : Int32)), (.int ((1 : Int32) - (1 : Int32)))]))
  refine go _ _ (fun t' k' => XS.iushr X0.here hx rfl (hb hby d13_6) rfl k') ?_
  show G (s₁.setTop (mkF m 7 #[.val (.ref rb), .val (.int (1 : Int32))] [(.int ((((1 : Int32) - (1 : Int32)).toUInt32 >>> ((31 : Int32) &&& 31).toUInt32).toInt32))]))
  refine go _ _ (fun t' k' => XS.i2b X0.here hx rfl (hb hby d13_7) rfl k') ?_
  show G (s₁.setTop (mkF m 8 #[.val (.ref rb), .val (.int (1 : Int32))] [(.int (((((1 : Int32) - (1 : Int32)).toUInt32 >>> ((31 : Int32) &&& 31).toUInt32).toInt32).toInt8.toInt32))]))
  refine own_retZ rt X0 hx (t := .byte) hret (by simp) (hb hby d13_8) (by decide) (by decide) ?_
  exact ⟨rfl, N0, e0⟩
theorem pn_12 : plainFor (⟨"java/lang/StringUTF16", "compress", "([CI[BII)I"⟩ : MethodName) = true := by first | (exact plainFor_of_name (show plainName "java/lang/StringUTF16" = true by first | (simp [plainName, overriddenIn]; done) | decide +kernel)) | decide +kernel
theorem ef_rm_c5 (m : MethodId) (x0 : Addr) (x1 : Int32) (x2 : Addr) (x3 : Int32) (x4 : Int32) : entryFrame m #[(.ref x0), (.int x1), (.ref x2), (.int x3), (.int x4)] 7 = mkF m 0 #[.val (.ref x0), .val (.int x1), .val (.ref x2), .val (.int x3), .val (.int x4), .unset, .unset] [] := by first | (simp [entryFrame, mkF, argsToLocals, Value.category]; done) | rfl
set_option maxRecDepth 65536 in
set_option maxHeartbeats 40000000 in
theorem rm_c5 (l : Launch) (Z : State) (a0 : Array Value) (hw : ∀ d ∈ tables_1, d.before a0 Z = true) (rv rb : Addr) (ch : Int32) (f : Nat → Value) (h0 : Heap) (n0 : Nat) (Z0 : n0 ≤ h0.size) (g_rb : n0 ≤ rb) (Av : Ary Z h0 rv .char 1 (fun _ => .int ch)) (hch : ¬ 255 < ch) (Ab : Ary Z h0 rb .byte 1 f) :
    Con l Z (⟨"java/lang/StringUTF16", "compress", "([CI[BII)I"⟩ : MethodName) jdk_52_method_21_code 7 (some .int) ({ frames := 0, cells := 0, slots := 0, locals := 0 } : Room) #[(.ref rv), (.int (0 : Int32)), (.ref rb), (.int (0 : Int32)), (.int (1 : Int32))] h0 (fun v h L => v = some (.int 1) ∧ Fr n0 L ∧ Keep h0 h [rb] ∧ ∃ f2, Ary Z h rb .byte 1 f2) := by
  refine own_body pn_12 ?_
  intro p e s m below meth c s₁ hx hby hml hown hnm hret hZ e0 X0 G go rt
  have N0 := Fr.nil n0
  rw [ef_rm_c5 m rv (0 : Int32) rb (0 : Int32) (1 : Int32)]
  show G (s₁.setTop (mkF m 0 #[.val (.ref rv), .val (.int (0 : Int32)), .val (.ref rb), .val (.int (0 : Int32)), .val (.int (1 : Int32)), .unset, .unset] []))
  refine go _ _ (fun t' k' => XS.iconst X0.here hx rfl (hb hby d12_0) k') ?_
  show G (s₁.setTop (mkF m 1 #[.val (.ref rv), .val (.int (0 : Int32)), .val (.ref rb), .val (.int (0 : Int32)), .val (.int (1 : Int32)), .unset, .unset] [(.int (0 : Int32))]))
  refine go _ _ (fun t' k' => XS.istore X0.here hx rfl (hb hby d12_1) rfl (l' := #[.val (.ref rv), .val (.int (0 : Int32)), .val (.ref rb), .val (.int (0 : Int32)), .val (.int (1 : Int32)), .val (.int (0 : Int32)), .unset]) rfl k') ?_
  show G (s₁.setTop (mkF m 3 #[.val (.ref rv), .val (.int (0 : Int32)), .val (.ref rb), .val (.int (0 : Int32)), .val (.int (1 : Int32)), .val (.int (0 : Int32)), .unset] []))
  refine go _ _ (fun t' k' => XS.iload X0.here hx rfl (hb hby d12_3) rfl  k') ?_
  show G (s₁.setTop (mkF m 5 #[.val (.ref rv), .val (.int (0 : Int32)), .val (.ref rb), .val (.int (0 : Int32)), .val (.int (1 : Int32)), .val (.int (0 : Int32)), .unset] [(.int (0 : Int32))]))
  refine go _ _ (fun t' k' => XS.iload X0.here hx rfl (hb hby d12_5) rfl  k') ?_
  show G (s₁.setTop (mkF m 7 #[.val (.ref rv), .val (.int (0 : Int32)), .val (.ref rb), .val (.int (0 : Int32)), .val (.int (1 : Int32)), .val (.int (0 : Int32)), .unset] [(.int (1 : Int32)), (.int (0 : Int32))]))
  refine go _ _ (fun t' k' => XS.icmpNo X0.here hx rfl (hb hby d12_7) rfl (Free.XT.ii_ge_f (by decide)) k') ?_
  show G (s₁.setTop (mkF m 10 #[.val (.ref rv), .val (.int (0 : Int32)), .val (.ref rb), .val (.int (0 : Int32)), .val (.int (1 : Int32)), .val (.int (0 : Int32)), .unset] []))
  refine go _ _ (fun t' k' => XS.aloadN X0.here hx rfl (hb hby d12_10) rfl rfl  k') ?_
  show G (s₁.setTop (mkF m 11 #[.val (.ref rv), .val (.int (0 : Int32)), .val (.ref rb), .val (.int (0 : Int32)), .val (.int (1 : Int32)), .val (.int (0 : Int32)), .unset] [(.ref rv)]))
  refine go _ _ (fun t' k' => XS.iloadN X0.here hx rfl (hb hby d12_11) rfl  k') ?_
  show G (s₁.setTop (mkF m 12 #[.val (.ref rv), .val (.int (0 : Int32)), .val (.ref rb), .val (.int (0 : Int32)), .val (.int (1 : Int32)), .val (.int (0 : Int32)), .unset] [(.int (0 : Int32)), (.ref rv)]))
  refine own_caload go X0 hx hZ e0 0 rfl (by decide) (g := (mkF m 12 #[.val (.ref rv), .val (.int (0 : Int32)), .val (.ref rb), .val (.int (0 : Int32)), .val (.int (1 : Int32)), .val (.int (0 : Int32)), .unset] [(.int (0 : Int32)), (.ref rv)])) rfl Av rfl (hb hby d12_12) ?_
  show G (s₁.setTop (mkF m 13 #[.val (.ref rv), .val (.int (0 : Int32)), .val (.ref rb), .val (.int (0 : Int32)), .val (.int (1 : Int32)), .val (.int (0 : Int32)), .unset] [(.int ch)]))
  refine go _ _ (fun t' k' => XS.istore X0.here hx rfl (hb hby d12_13) rfl (l' := #[.val (.ref rv), .val (.int (0 : Int32)), .val (.ref rb), .val (.int (0 : Int32)), .val (.int (1 : Int32)), .val (.int (0 : Int32)), .val (.int ch)]) rfl k') ?_
  show G (s₁.setTop (mkF m 15 #[.val (.ref rv), .val (.int (0 : Int32)), .val (.ref rb), .val (.int (0 : Int32)), .val (.int (1 : Int32)), .val (.int (0 : Int32)), .val (.int ch)] []))
  refine go _ _ (fun t' k' => XS.iload X0.here hx rfl (hb hby d12_15) rfl  k') ?_
  show G (s₁.setTop (mkF m 17 #[.val (.ref rv), .val (.int (0 : Int32)), .val (.ref rb), .val (.int (0 : Int32)), .val (.int (1 : Int32)), .val (.int (0 : Int32)), .val (.int ch)] [(.int ch)]))
  refine go _ _ (fun t' k' => XS.sipush X0.here hx rfl (hb hby d12_17) k') ?_
  show G (s₁.setTop (mkF m 20 #[.val (.ref rv), .val (.int (0 : Int32)), .val (.ref rb), .val (.int (0 : Int32)), .val (.int (1 : Int32)), .val (.int (0 : Int32)), .val (.int ch)] [(.int (255 : Int32)), (.int ch)]))
  refine go _ _ (fun t' k' => XS.icmpYes X0.here hx rfl (pc0 := 20) (pc' := 26) rfl (hb hby d12_20) rfl (Free.XT.ii_le_t hch) (by decide) (by decide) k') ?_
  show G (s₁.setTop (mkF m 26 #[.val (.ref rv), .val (.int (0 : Int32)), .val (.ref rb), .val (.int (0 : Int32)), .val (.int (1 : Int32)), .val (.int (0 : Int32)), .val (.int ch)] []))
  refine go _ _ (fun t' k' => XS.aloadN X0.here hx rfl (hb hby d12_26) rfl rfl  k') ?_
  show G (s₁.setTop (mkF m 27 #[.val (.ref rv), .val (.int (0 : Int32)), .val (.ref rb), .val (.int (0 : Int32)), .val (.int (1 : Int32)), .val (.int (0 : Int32)), .val (.int ch)] [(.ref rb)]))
  refine go _ _ (fun t' k' => XS.iloadN X0.here hx rfl (hb hby d12_27) rfl  k') ?_
  show G (s₁.setTop (mkF m 28 #[.val (.ref rv), .val (.int (0 : Int32)), .val (.ref rb), .val (.int (0 : Int32)), .val (.int (1 : Int32)), .val (.int (0 : Int32)), .val (.int ch)] [(.int (0 : Int32)), (.ref rb)]))
  refine go _ _ (fun t' k' => XS.iload X0.here hx rfl (hb hby d12_28) rfl  k') ?_
  show G (s₁.setTop (mkF m 30 #[.val (.ref rv), .val (.int (0 : Int32)), .val (.ref rb), .val (.int (0 : Int32)), .val (.int (1 : Int32)), .val (.int (0 : Int32)), .val (.int ch)] [(.int ch), (.int (0 : Int32)), (.ref rb)]))
  refine go _ _ (fun t' k' => XS.i2b X0.here hx rfl (hb hby d12_30) rfl k') ?_
  show G (s₁.setTop (mkF m 31 #[.val (.ref rv), .val (.int (0 : Int32)), .val (.ref rb), .val (.int (0 : Int32)), .val (.int (1 : Int32)), .val (.int (0 : Int32)), .val (.int ch)] [(.int (ch.toInt8.toInt32)), (.int (0 : Int32)), (.ref rb)]))
  refine own_bastore go X0 hx hZ e0 0 rfl (by decide) (g := (mkF m 31 #[.val (.ref rv), .val (.int (0 : Int32)), .val (.ref rb), .val (.int (0 : Int32)), .val (.int (1 : Int32)), .val (.int (0 : Int32)), .val (.int ch)] [(.int (ch.toInt8.toInt32)), (.int (0 : Int32)), (.ref rb)])) rfl Ab rfl (hb hby d12_31) ?_
  intro T157 h157 X157 e157 W157 A157
  have K158 : Keep h0 h157 [rb] := (Keep.refl h0 [rb]).wr W157 (Or.inl (List.mem_of_getElem? (i := 0) rfl))
  obtain ⟨lc157, X157h, N157h⟩ := own_hide X157 (Fr.snoc X157 N0 g_rb)
  have Z159 : n0 ≤ h157.size := Nat.le_trans Z0 (Nat.le_of_eq W157.size.symm)
  show G (T157.setTop (mkF m 32 #[.val (.ref rv), .val (.int (0 : Int32)), .val (.ref rb), .val (.int (0 : Int32)), .val (.int (1 : Int32)), .val (.int (0 : Int32)), .val (.int ch)] []))
  refine go _ _ (fun t' k' => XS.iinc X157h.here hx rfl (hb hby d12_32) rfl (l' := #[.val (.ref rv), .val (.int ((0 : Int32) + (1 : Int32))), .val (.ref rb), .val (.int (0 : Int32)), .val (.int (1 : Int32)), .val (.int (0 : Int32)), .val (.int ch)]) rfl k') ?_
  show G (T157.setTop (mkF m 35 #[.val (.ref rv), .val (.int ((0 : Int32) + (1 : Int32))), .val (.ref rb), .val (.int (0 : Int32)), .val (.int (1 : Int32)), .val (.int (0 : Int32)), .val (.int ch)] []))
  refine go _ _ (fun t' k' => XS.iinc X157h.here hx rfl (hb hby d12_35) rfl (l' := #[.val (.ref rv), .val (.int ((0 : Int32) + (1 : Int32))), .val (.ref rb), .val (.int ((0 : Int32) + (1 : Int32))), .val (.int (1 : Int32)), .val (.int (0 : Int32)), .val (.int ch)]) rfl k') ?_
  show G (T157.setTop (mkF m 38 #[.val (.ref rv), .val (.int ((0 : Int32) + (1 : Int32))), .val (.ref rb), .val (.int ((0 : Int32) + (1 : Int32))), .val (.int (1 : Int32)), .val (.int (0 : Int32)), .val (.int ch)] []))
  refine go _ _ (fun t' k' => XS.iinc X157h.here hx rfl (hb hby d12_38) rfl (l' := #[.val (.ref rv), .val (.int ((0 : Int32) + (1 : Int32))), .val (.ref rb), .val (.int ((0 : Int32) + (1 : Int32))), .val (.int (1 : Int32)), .val (.int ((0 : Int32) + (1 : Int32))), .val (.int ch)]) rfl k') ?_
  show G (T157.setTop (mkF m 41 #[.val (.ref rv), .val (.int ((0 : Int32) + (1 : Int32))), .val (.ref rb), .val (.int ((0 : Int32) + (1 : Int32))), .val (.int (1 : Int32)), .val (.int ((0 : Int32) + (1 : Int32))), .val (.int ch)] []))
  show G (T157.setTop (mkF m 41 #[.val (.ref rv), .val (.int (1 : Int32)), .val (.ref rb), .val (.int (1 : Int32)), .val (.int (1 : Int32)), .val (.int (1 : Int32)), .val (.int ch)] []))
  refine go _ _ (fun t' k' => XS.goto X157h.here hx rfl (pc0 := 41) (pc' := 3) rfl (hb hby d12_41) (by decide) (by decide) k') ?_
  show G (T157.setTop (mkF m 3 #[.val (.ref rv), .val (.int (1 : Int32)), .val (.ref rb), .val (.int (1 : Int32)), .val (.int (1 : Int32)), .val (.int (1 : Int32)), .val (.int ch)] []))
  refine go _ _ (fun t' k' => XS.iload X157h.here hx rfl (hb hby d12_3) rfl  k') ?_
  show G (T157.setTop (mkF m 5 #[.val (.ref rv), .val (.int (1 : Int32)), .val (.ref rb), .val (.int (1 : Int32)), .val (.int (1 : Int32)), .val (.int (1 : Int32)), .val (.int ch)] [(.int (1 : Int32))]))
  refine go _ _ (fun t' k' => XS.iload X157h.here hx rfl (hb hby d12_5) rfl  k') ?_
  show G (T157.setTop (mkF m 7 #[.val (.ref rv), .val (.int (1 : Int32)), .val (.ref rb), .val (.int (1 : Int32)), .val (.int (1 : Int32)), .val (.int (1 : Int32)), .val (.int ch)] [(.int (1 : Int32)), (.int (1 : Int32))]))
  refine go _ _ (fun t' k' => XS.icmpYes X157h.here hx rfl (pc0 := 7) (pc' := 44) rfl (hb hby d12_7) rfl (Free.XT.ii_ge_t (by decide)) (by decide) (by decide) k') ?_
  show G (T157.setTop (mkF m 44 #[.val (.ref rv), .val (.int (1 : Int32)), .val (.ref rb), .val (.int (1 : Int32)), .val (.int (1 : Int32)), .val (.int (1 : Int32)), .val (.int ch)] []))
  refine go _ _ (fun t' k' => XS.iload X157h.here hx rfl (hb hby d12_44) rfl  k') ?_
  show G (T157.setTop (mkF m 46 #[.val (.ref rv), .val (.int (1 : Int32)), .val (.ref rb), .val (.int (1 : Int32)), .val (.int (1 : Int32)), .val (.int (1 : Int32)), .val (.int ch)] [(.int (1 : Int32))]))
  refine own_retI rt X157h hx hret (hb hby d12_46) (by decide) (by decide) ?_
  rw [e157]
  exact ⟨rfl, N157h, K158, _, A157⟩
theorem pn_11 : plainFor (⟨"java/lang/StringUTF16", "compress", "([CII)[B"⟩ : MethodName) = true := by first | (exact plainFor_of_name (show plainName "java/lang/StringUTF16" = true by first | (simp [plainName, overriddenIn]; done) | decide +kernel)) | decide +kernel
theorem ef_rm_c3 (m : MethodId) (x0 : Addr) (x1 : Int32) (x2 : Int32) : entryFrame m #[(.ref x0), (.int x1), (.int x2)] 6 = mkF m 0 #[.val (.ref x0), .val (.int x1), .val (.int x2), .unset, .unset, .unset] [] := by first | (simp [entryFrame, mkF, argsToLocals, Value.category]; done) | rfl
set_option maxRecDepth 65536 in
set_option maxHeartbeats 40000000 in
theorem rm_c3 (l : Launch) (Z : State) (a0 : Array Value) (hw : ∀ d ∈ tables_1, d.before a0 Z = true) (rv : Addr) (ch : Int32) (h0 : Heap) (n0 : Nat) (Z0 : n0 ≤ h0.size) (Av : Ary Z h0 rv .char 1 (fun _ => .int ch)) (hch : ¬ 255 < ch) :
    Con l Z (⟨"java/lang/StringUTF16", "compress", "([CII)[B"⟩ : MethodName) jdk_52_method_16_code 6 (some (.array .byte)) ({ frames := 1, cells := 1, slots := 1, locals := 18 } : Room) #[(.ref rv), (.int (0 : Int32)), (.int (1 : Int32))] h0 (fun v h L => ∃ rb : Addr, v = some (.ref rb) ∧ Fr n0 L ∧ Keep h0 h [] ∧ ∃ f2, Ary Z h rb .byte 1 f2) := by
  refine own_body pn_11 ?_
  intro p e s m below meth c s₁ hx hby hml hown hnm hret hZ e0 X0 G go rt
  have N0 := Fr.nil n0
  rw [ef_rm_c3 m rv (0 : Int32) (1 : Int32)]
  show G (s₁.setTop (mkF m 0 #[.val (.ref rv), .val (.int (0 : Int32)), .val (.int (1 : Int32)), .unset, .unset, .unset] []))
  refine go _ _ (fun t' k' => XS.iloadN X0.here hx rfl (hb hby d11_0) rfl  k') ?_
  show G (s₁.setTop (mkF m 1 #[.val (.ref rv), .val (.int (0 : Int32)), .val (.int (1 : Int32)), .unset, .unset, .unset] [(.int (1 : Int32))]))
  refine own_newarr go X0 hx hZ e0 (g := (mkF m 1 #[.val (.ref rv), .val (.int (0 : Int32)), .val (.int (1 : Int32)), .unset, .unset, .unset] [(.int (1 : Int32))])) rfl (hw _ (List.mem_of_getElem? (i := 20) rfl)) 1 rfl (hb hby d11_1) rfl 1 (by decide) (by decide) (by decide) (by decide) ?_
  intro T160 h160 b160 X160 e160 E160 g160 A160
  have ne161 : rv ≠ b160 := Nat.ne_of_lt (by rw [g160]; exact Av.lt)
  have g_b160 : n0 ≤ b160 := Nat.le_trans Z0 (Nat.le_of_eq g160.symm)
  have sz_b160 : h0.size ≤ b160 := Nat.le_of_eq g160.symm
  have Z162 : n0 ≤ h160.size := Nat.le_trans Z0 E160.1
  have K163 : Keep h0 h160 [] := (Keep.refl h0 []).ext E160
  show G (T160.setTop (mkF m 3 #[.val (.ref rv), .val (.int (0 : Int32)), .val (.int (1 : Int32)), .unset, .unset, .unset] [(.ref b160)]))
  refine go _ _ (fun t' k' => XS.astoreN X160.here hx rfl (hb hby d11_3) rfl rfl (l' := #[.val (.ref rv), .val (.int (0 : Int32)), .val (.int (1 : Int32)), .val (.ref b160), .unset, .unset]) rfl k') ?_
  show G (T160.setTop (mkF m 4 #[.val (.ref rv), .val (.int (0 : Int32)), .val (.int (1 : Int32)), .val (.ref b160), .unset, .unset] []))
  refine go _ _ (fun t' k' => XS.aloadN X160.here hx rfl (hb hby d11_4) rfl rfl  k') ?_
  show G (T160.setTop (mkF m 5 #[.val (.ref rv), .val (.int (0 : Int32)), .val (.int (1 : Int32)), .val (.ref b160), .unset, .unset] [(.ref rv)]))
  refine go _ _ (fun t' k' => XS.iloadN X160.here hx rfl (hb hby d11_5) rfl  k') ?_
  show G (T160.setTop (mkF m 6 #[.val (.ref rv), .val (.int (0 : Int32)), .val (.int (1 : Int32)), .val (.ref b160), .unset, .unset] [(.int (0 : Int32)), (.ref rv)]))
  refine go _ _ (fun t' k' => XS.aloadN X160.here hx rfl (hb hby d11_6) rfl rfl  k') ?_
  show G (T160.setTop (mkF m 7 #[.val (.ref rv), .val (.int (0 : Int32)), .val (.int (1 : Int32)), .val (.ref b160), .unset, .unset] [(.ref b160), (.int (0 : Int32)), (.ref rv)]))
  refine go _ _ (fun t' k' => XS.iconst X160.here hx rfl (hb hby d11_7) k') ?_
  show G (T160.setTop (mkF m 8 #[.val (.ref rv), .val (.int (0 : Int32)), .val (.int (1 : Int32)), .val (.ref b160), .unset, .unset] [(.int (0 : Int32)), (.ref b160), (.int (0 : Int32)), (.ref rv)]))
  refine go _ _ (fun t' k' => XS.iloadN X160.here hx rfl (hb hby d11_8) rfl  k') ?_
  show G (T160.setTop (mkF m 9 #[.val (.ref rv), .val (.int (0 : Int32)), .val (.int (1 : Int32)), .val (.ref b160), .unset, .unset] [(.int (1 : Int32)), (.int (0 : Int32)), (.ref b160), (.int (0 : Int32)), (.ref rv)]))
  have f164 := (Av.ext E160)
  refine own_static go X160 hx hZ e160 hown (hw _ (List.mem_of_getElem? (i := 87) rfl)) (hw _ (List.mem_of_getElem? (i := 88) rfl)) (hw _ (List.mem_of_getElem? (i := 85) rfl)) (hw _ (List.mem_of_getElem? (i := 89) rfl)) (by decide) (rm_c5 l Z a0 hw rv b160 ch (fun _ => defaultValue .byte) h160 n0 Z162 g_b160 f164 hch A160) 0 (by decide) (by decide) (by decide) (by decide) (g := (mkF m 9 #[.val (.ref rv), .val (.int (0 : Int32)), .val (.int (1 : Int32)), .val (.ref b160), .unset, .unset] [(.int (1 : Int32)), (.int (0 : Int32)), (.ref b160), (.int (0 : Int32)), (.ref rv)])) rfl (by rw [hml]; rfl) [(.ref rv), (.int (0 : Int32)), (.ref b160), (.int (0 : Int32)), (.int (1 : Int32))] [] rfl (lenOf pd_3 rfl) rfl (by show 2 * 0 + _ ≤ _; exact Nat.le_of_eq rfl) (hb hby d11_9) ?_
  intro T165 L165 v165 X165 q165
  obtain ⟨rfl, N165, K165, f165, Ab165⟩ := q165
  obtain ⟨lc165, X165h, N165h⟩ := own_hide X165 (Fr.app N0 N165)
  have K166 : Keep h0 T165.heap [] := K163.trans K165 (allS (Or.inr sz_b160) all0)
  have Z167 : n0 ≤ T165.heap.size := Nat.le_trans Z162 K165.1
  show G (T165.setTop (mkF m 12 #[.val (.ref rv), .val (.int (0 : Int32)), .val (.int (1 : Int32)), .val (.ref b160), .unset, .unset] [(.int (1 : Int32))]))
  refine go _ _ (fun t' k' => XS.istore X165h.here hx rfl (hb hby d11_12) rfl (l' := #[.val (.ref rv), .val (.int (0 : Int32)), .val (.int (1 : Int32)), .val (.ref b160), .val (.int (1 : Int32)), .unset]) rfl k') ?_
  show G (T165.setTop (mkF m 14 #[.val (.ref rv), .val (.int (0 : Int32)), .val (.int (1 : Int32)), .val (.ref b160), .val (.int (1 : Int32)), .unset] []))
  refine go _ _ (fun t' k' => XS.iload X165h.here hx rfl (hb hby d11_14) rfl  k') ?_
  show G (T165.setTop (mkF m 16 #[.val (.ref rv), .val (.int (0 : Int32)), .val (.int (1 : Int32)), .val (.ref b160), .val (.int (1 : Int32)), .unset] [(.int (1 : Int32))]))
  refine go _ _ (fun t' k' => XS.iloadN X165h.here hx rfl (hb hby d11_16) rfl  k') ?_
  show G (T165.setTop (mkF m 17 #[.val (.ref rv), .val (.int (0 : Int32)), .val (.int (1 : Int32)), .val (.ref b160), .val (.int (1 : Int32)), .unset] [(.int (1 : Int32)), (.int (1 : Int32))]))
  refine go _ _ (fun t' k' => XS.icmpYes X165h.here hx rfl (pc0 := 17) (pc' := 57) rfl (hb hby d11_17) rfl (Free.XT.ii_eq_t (by decide)) (by decide) (by decide) k') ?_
  show G (T165.setTop (mkF m 57 #[.val (.ref rv), .val (.int (0 : Int32)), .val (.int (1 : Int32)), .val (.ref b160), .val (.int (1 : Int32)), .unset] []))
  refine go _ _ (fun t' k' => XS.aloadN X165h.here hx rfl (hb hby d11_57) rfl rfl  k') ?_
  show G (T165.setTop (mkF m 58 #[.val (.ref rv), .val (.int (0 : Int32)), .val (.int (1 : Int32)), .val (.ref b160), .val (.int (1 : Int32)), .unset] [(.ref b160)]))
  refine own_retA rt X165h hx hret rfl rfl (hb hby d11_58) (by decide) (by decide) ?_
  exact ⟨_, rfl, N165h, K166, _, Ab165⟩
theorem pn_10 : plainFor (⟨"java/lang/String", "<init>", "([CIILjava/lang/Void;)V"⟩ : MethodName) = true := by first | (exact plainFor_of_name (show plainName "java/lang/String" = true by first | (simp [plainName, overriddenIn]; done) | decide +kernel)) | decide +kernel
theorem ef_rm_s4 (m : MethodId) (x0 : Addr) (x1 : Addr) (x2 : Int32) (x3 : Int32) : entryFrame m #[(.ref x0), (.ref x1), (.int x2), (.int x3), .null] 6 = mkF m 0 #[.val (.ref x0), .val (.ref x1), .val (.int x2), .val (.int x3), .val .null, .unset] [] := by first | (simp [entryFrame, mkF, argsToLocals, Value.category]; done) | rfl
set_option maxRecDepth 65536 in
set_option maxHeartbeats 40000000 in
theorem rm_s4 (l : Launch) (Z : State) (a0 : Array Value) (hw : ∀ d ∈ tables_1, d.before a0 Z = true) (r0 rv : Addr) (ch cs : Int32) (h0 : Heap) (n0 : Nat) (Z0 : n0 ≤ h0.size) (g_r0 : n0 ≤ r0) (hcs : ¬ cs = 0) (nv : rv ≠ r0) (Scs : Sta Z h0 "java/lang/String" "COMPACT_STRINGS" "Z" (.int cs)) (E0 : Exa Z h0 r0 "java/lang/String") (F0 : Fld Z h0 r0 "java/lang/String" "value" "[B" (.null)) (F1 : Fld Z h0 r0 "java/lang/String" "coder" "B" (.int 0)) (Av : Ary Z h0 rv .char 1 (fun _ => .int ch)) (hch : ¬ 255 < ch) :
    Con l Z (⟨"java/lang/String", "<init>", "([CIILjava/lang/Void;)V"⟩ : MethodName) jdk_42_method_149_code 6 none ({ frames := 2, cells := 1, slots := 1, locals := 35 } : Room) #[(.ref r0), (.ref rv), (.int (0 : Int32)), (.int (1 : Int32)), .null] h0 (fun v h L => v = none ∧ Fr n0 L ∧ Keep h0 h [r0]) := by
  refine own_body pn_10 ?_
  intro p e s m below meth c s₁ hx hby hml hown hnm hret hZ e0 X0 G go rt
  have N0 := Fr.nil n0
  rw [ef_rm_s4 m r0 rv (0 : Int32) (1 : Int32)]
  show G (s₁.setTop (mkF m 0 #[.val (.ref r0), .val (.ref rv), .val (.int (0 : Int32)), .val (.int (1 : Int32)), .val .null, .unset] []))
  refine go _ _ (fun t' k' => XS.aloadN X0.here hx rfl (hb hby d10_0) rfl rfl  k') ?_
  show G (s₁.setTop (mkF m 1 #[.val (.ref r0), .val (.ref rv), .val (.int (0 : Int32)), .val (.int (1 : Int32)), .val .null, .unset] [(.ref r0)]))
  obtain ⟨T168, X168, e168, st168⟩ := initO X0 hx hZ hown (hw _ (List.mem_of_getElem? (i := 81) rfl)) (hw _ (List.mem_of_getElem? (i := 15) rfl)) (hw _ (List.mem_of_getElem? (i := 16) rfl)) e0 (g := (mkF m 1 #[.val (.ref r0), .val (.ref rv), .val (.int (0 : Int32)), .val (.int (1 : Int32)), .val .null, .unset] [(.ref r0)])) rfl (by rw [hml]; rfl) rfl (hb hby d10_1) (by decide) (W := 0) (by show 2 * 0 + _ ≤ _; exact Nat.le_of_eq rfl) (by decide)
  refine go _ _ st168 ?_
  show G (T168.setTop (mkF m 4 #[.val (.ref r0), .val (.ref rv), .val (.int (0 : Int32)), .val (.int (1 : Int32)), .val .null, .unset] []))
  refine go _ _ (fun t' k' => XS.iloadN X168.here hx rfl (hb hby d10_4) rfl  k') ?_
  show G (T168.setTop (mkF m 5 #[.val (.ref r0), .val (.ref rv), .val (.int (0 : Int32)), .val (.int (1 : Int32)), .val .null, .unset] [(.int (1 : Int32))]))
  refine go _ _ (fun t' k' => XS.ifYes X168.here hx rfl (pc0 := 5) (pc' := 27) rfl (hb hby d10_5) rfl (Free.XT.i0_ne_t (by decide)) (by decide) (by decide) k') ?_
  show G (T168.setTop (mkF m 27 #[.val (.ref r0), .val (.ref rv), .val (.int (0 : Int32)), .val (.int (1 : Int32)), .val .null, .unset] []))
  obtain ⟨T169, X169, e169, st169⟩ := getS X168 hx hZ hown (host := "") (hw _ (List.mem_of_getElem? (i := 82) rfl)) Via.refl e168 Scs (g := (mkF m 27 #[.val (.ref r0), .val (.ref rv), .val (.int (0 : Int32)), .val (.int (1 : Int32)), .val .null, .unset] [])) rfl (hb hby d10_27)
  refine go _ _ st169 ?_
  show G (T169.setTop (mkF m 30 #[.val (.ref r0), .val (.ref rv), .val (.int (0 : Int32)), .val (.int (1 : Int32)), .val .null, .unset] [(.int cs)]))
  refine go _ _ (fun t' k' => XS.ifNo X169.here hx rfl (hb hby d10_30) rfl (Free.XT.i0_eq_f hcs) k') ?_
  show G (T169.setTop (mkF m 33 #[.val (.ref r0), .val (.ref rv), .val (.int (0 : Int32)), .val (.int (1 : Int32)), .val .null, .unset] []))
  refine go _ _ (fun t' k' => XS.aloadN X169.here hx rfl (hb hby d10_33) rfl rfl  k') ?_
  show G (T169.setTop (mkF m 34 #[.val (.ref r0), .val (.ref rv), .val (.int (0 : Int32)), .val (.int (1 : Int32)), .val .null, .unset] [(.ref rv)]))
  refine go _ _ (fun t' k' => XS.iloadN X169.here hx rfl (hb hby d10_34) rfl  k') ?_
  show G (T169.setTop (mkF m 35 #[.val (.ref r0), .val (.ref rv), .val (.int (0 : Int32)), .val (.int (1 : Int32)), .val .null, .unset] [(.int (0 : Int32)), (.ref rv)]))
  refine go _ _ (fun t' k' => XS.iloadN X169.here hx rfl (hb hby d10_35) rfl  k') ?_
  show G (T169.setTop (mkF m 36 #[.val (.ref r0), .val (.ref rv), .val (.int (0 : Int32)), .val (.int (1 : Int32)), .val .null, .unset] [(.int (1 : Int32)), (.int (0 : Int32)), (.ref rv)]))
  refine own_static go X169 hx hZ e169 hown (hw _ (List.mem_of_getElem? (i := 83) rfl)) (hw _ (List.mem_of_getElem? (i := 84) rfl)) (hw _ (List.mem_of_getElem? (i := 85) rfl)) (hw _ (List.mem_of_getElem? (i := 86) rfl)) (by decide) (rm_c3 l Z a0 hw rv ch h0 n0 Z0 Av hch) 0 (by decide) (by decide) (by decide) (by decide) (g := (mkF m 36 #[.val (.ref r0), .val (.ref rv), .val (.int (0 : Int32)), .val (.int (1 : Int32)), .val .null, .unset] [(.int (1 : Int32)), (.int (0 : Int32)), (.ref rv)])) rfl (by rw [hml]; rfl) [(.ref rv), (.int (0 : Int32)), (.int (1 : Int32))] [] rfl (lenOf pd_4 rfl) rfl (by show 2 * 0 + _ ≤ _; exact Nat.le_of_eq rfl) (hb hby d10_36) ?_
  intro T170 L170 v170 X170 q170
  obtain ⟨rb170, rfl, N170, K170, f170, Ab170⟩ := q170
  have ns171 : ∀ w ∈ [], ∃ c : Cell, h0[w]? = some c ∧ c.vm.isStatics = false := all0
  obtain ⟨lc170, X170h, N170h⟩ := own_hide X170 (Fr.app N0 N170)
  have K172 : Keep h0 T170.heap [r0] := (Keep.refl h0 [r0]).trans K170 all0
  have Z173 : n0 ≤ T170.heap.size := Nat.le_trans Z0 K170.1
  have f174 := (E0.keep K170)
  have ne_rb170 : rb170 ≠ r0 := fun z => by subst z; exact absurd rfl (Exa.neAry f174 Ab170 (hw _ (List.mem_of_getElem? (i := 19) rfl)))
  show G (T170.setTop (mkF m 39 #[.val (.ref r0), .val (.ref rv), .val (.int (0 : Int32)), .val (.int (1 : Int32)), .val .null, .unset] [(.ref rb170)]))
  refine go _ _ (fun t' k' => XS.astore X170h.here hx rfl (hb hby d10_39) rfl rfl (l' := #[.val (.ref r0), .val (.ref rv), .val (.int (0 : Int32)), .val (.int (1 : Int32)), .val .null, .val (.ref rb170)]) rfl k') ?_
  show G (T170.setTop (mkF m 41 #[.val (.ref r0), .val (.ref rv), .val (.int (0 : Int32)), .val (.int (1 : Int32)), .val .null, .val (.ref rb170)] []))
  refine go _ _ (fun t' k' => XS.aloadN X170h.here hx rfl (hb hby d10_41) rfl rfl  k') ?_
  show G (T170.setTop (mkF m 42 #[.val (.ref r0), .val (.ref rv), .val (.int (0 : Int32)), .val (.int (1 : Int32)), .val .null, .val (.ref rb170)] [(.ref r0)]))
  refine go _ _ (fun t' k' => XS.aload X170h.here hx rfl (hb hby d10_42) rfl rfl  k') ?_
  show G (T170.setTop (mkF m 44 #[.val (.ref r0), .val (.ref rv), .val (.int (0 : Int32)), .val (.int (1 : Int32)), .val .null, .val (.ref rb170)] [(.ref rb170), (.ref r0)]))
  refine go _ _ (fun t' k' => XS.iloadN X170h.here hx rfl (hb hby d10_44) rfl  k') ?_
  show G (T170.setTop (mkF m 45 #[.val (.ref r0), .val (.ref rv), .val (.int (0 : Int32)), .val (.int (1 : Int32)), .val .null, .val (.ref rb170)] [(.int (1 : Int32)), (.ref rb170), (.ref r0)]))
  refine own_static go X170h hx hZ rfl hown (hw _ (List.mem_of_getElem? (i := 90) rfl)) (hw _ (List.mem_of_getElem? (i := 91) rfl)) (hw _ (List.mem_of_getElem? (i := 85) rfl)) (hw _ (List.mem_of_getElem? (i := 92) rfl)) (by decide) (rm_co l Z a0 hw rb170 f170 T170.heap n0 Z173 Ab170) 1 (by decide) (by decide) (by decide) (by decide) (g := (mkF m 45 #[.val (.ref r0), .val (.ref rv), .val (.int (0 : Int32)), .val (.int (1 : Int32)), .val .null, .val (.ref rb170)] [(.int (1 : Int32)), (.ref rb170), (.ref r0)])) rfl (by rw [hml]; rfl) [(.ref rb170), (.int (1 : Int32))] [(.ref r0)] rfl (lenOf pd_5 rfl) rfl (by show 2 * 0 + _ ≤ _; exact Nat.le_of_eq rfl) (hb hby d10_45) ?_
  intro T175 L175 v175 X175 q175
  obtain ⟨rfl, N175, hh175⟩ := q175
  obtain ⟨lc175, X175h, N175h⟩ := own_hide X175 (Fr.app N170h N175)
  show G (T175.setTop (mkF m 48 #[.val (.ref r0), .val (.ref rv), .val (.int (0 : Int32)), .val (.int (1 : Int32)), .val .null, .val (.ref rb170)] [(.int (0 : Int32)), (.ref r0)]))
  have f176 := (F1.keep K170 nin0)
  obtain ⟨T177, h177, X177, e177, W177, st177⟩ := putFN X175h hx hZ hown (hw _ (List.mem_of_getElem? (i := 93) rfl)) Via.refl hh175 f176 f174 (Or.inr ⟨(hw _ (List.mem_of_getElem? (i := 22) rfl)), rfl, hnm⟩) (hw _ (List.mem_of_getElem? (i := 19) rfl)) (ty := .byte) (v' := (.int (0 : Int32))) (by decide) rfl rfl (g := (mkF m 48 #[.val (.ref r0), .val (.ref rv), .val (.int (0 : Int32)), .val (.int (1 : Int32)), .val .null, .val (.ref rb170)] [(.int (0 : Int32)), (.ref r0)])) rfl rfl (hb hby d10_48)
  have F177 := f176.same W177
  have K178 : Keep h0 h177 [r0] := K172.wr W177 (Or.inl (List.mem_of_getElem? (i := 0) rfl))
  obtain ⟨lc177, X177h, N177h⟩ := own_hide X177 (Fr.snoc X177 N175h g_r0)
  have Z179 : n0 ≤ h177.size := Nat.le_trans Z173 (Nat.le_of_eq W177.size.symm)
  refine go _ _ st177 ?_
  show G (T177.setTop (mkF m 51 #[.val (.ref r0), .val (.ref rv), .val (.int (0 : Int32)), .val (.int (1 : Int32)), .val .null, .val (.ref rb170)] []))
  refine go _ _ (fun t' k' => XS.aloadN X177h.here hx rfl (hb hby d10_51) rfl rfl  k') ?_
  show G (T177.setTop (mkF m 52 #[.val (.ref r0), .val (.ref rv), .val (.int (0 : Int32)), .val (.int (1 : Int32)), .val .null, .val (.ref rb170)] [(.ref r0)]))
  refine go _ _ (fun t' k' => XS.aload X177h.here hx rfl (hb hby d10_52) rfl rfl  k') ?_
  show G (T177.setTop (mkF m 54 #[.val (.ref r0), .val (.ref rv), .val (.int (0 : Int32)), .val (.int (1 : Int32)), .val .null, .val (.ref rb170)] [(.ref rb170), (.ref r0)]))
  have f180 := ((F0.keep K170 nin0).other W177 (Or.inr (slot_ne (Or.inr (hw _ (List.mem_of_getElem? (i := 21) rfl))) (Or.inr (hw _ (List.mem_of_getElem? (i := 22) rfl))) (by decide) (t := (.array .byte)) (t' := .byte) (by decide) (by decide))))
  have f181 := (f174.wr W177)
  obtain ⟨T182, h182, X182, e182, W182, st182⟩ := putF X177h hx hZ hown (host := "") (Or.inl (hw _ (List.mem_of_getElem? (i := 94) rfl))) Via.refl e177 f180 f181 (Or.inr ⟨(hw _ (List.mem_of_getElem? (i := 21) rfl)), rfl, hnm⟩) (hw _ (List.mem_of_getElem? (i := 19) rfl)) (ty := (.array .byte)) (by decide) rfl rfl (g := (mkF m 54 #[.val (.ref r0), .val (.ref rv), .val (.int (0 : Int32)), .val (.int (1 : Int32)), .val .null, .val (.ref rb170)] [(.ref rb170), (.ref r0)])) rfl rfl (hb hby d10_54)
  have F182 := f180.same W182
  have K183 : Keep h0 h182 [r0] := K178.wr W182 (Or.inl (List.mem_of_getElem? (i := 0) rfl))
  obtain ⟨lc182, X182h, N182h⟩ := own_hide X182 (Fr.snoc X182 N177h g_r0)
  have Z184 : n0 ≤ h182.size := Nat.le_trans Z179 (Nat.le_of_eq W182.size.symm)
  refine go _ _ st182 ?_
  show G (T182.setTop (mkF m 57 #[.val (.ref r0), .val (.ref rv), .val (.int (0 : Int32)), .val (.int (1 : Int32)), .val .null, .val (.ref rb170)] []))
  refine own_retV rt X182h hx hret (hb hby d10_57) (by decide) (by decide) ?_
  rw [e182]
  exact ⟨rfl, N182h, K183⟩
theorem pn_9 : plainFor (⟨"java/lang/String", "<init>", "([C)V"⟩ : MethodName) = true := by first | (exact plainFor_of_name (show plainName "java/lang/String" = true by first | (simp [plainName, overriddenIn]; done) | decide +kernel)) | decide +kernel
theorem ef_rm_s1 (m : MethodId) (x0 : Addr) (x1 : Addr) : entryFrame m #[(.ref x0), (.ref x1)] 2 = mkF m 0 #[.val (.ref x0), .val (.ref x1)] [] := by first | (simp [entryFrame, mkF, argsToLocals, Value.category]; done) | rfl
set_option maxRecDepth 65536 in
set_option maxHeartbeats 40000000 in
theorem rm_s1 (l : Launch) (Z : State) (a0 : Array Value) (hw : ∀ d ∈ tables_1, d.before a0 Z = true) (r0 rv : Addr) (ch cs : Int32) (h0 : Heap) (n0 : Nat) (Z0 : n0 ≤ h0.size) (g_r0 : n0 ≤ r0) (hcs : ¬ cs = 0) (nv : rv ≠ r0) (Scs : Sta Z h0 "java/lang/String" "COMPACT_STRINGS" "Z" (.int cs)) (E0 : Exa Z h0 r0 "java/lang/String") (F0 : Fld Z h0 r0 "java/lang/String" "value" "[B" (.null)) (F1 : Fld Z h0 r0 "java/lang/String" "coder" "B" (.int 0)) (Av : Ary Z h0 rv .char 1 (fun _ => .int ch)) (hch : ¬ 255 < ch) :
    Con l Z (⟨"java/lang/String", "<init>", "([C)V"⟩ : MethodName) jdk_42_method_3_code 2 none ({ frames := 3, cells := 1, slots := 1, locals := 52 } : Room) #[(.ref r0), (.ref rv)] h0 (fun v h L => v = none ∧ Fr n0 L ∧ Keep h0 h [r0]) := by
  refine own_body pn_9 ?_
  intro p e s m below meth c s₁ hx hby hml hown hnm hret hZ e0 X0 G go rt
  have N0 := Fr.nil n0
  rw [ef_rm_s1 m r0 rv]
  show G (s₁.setTop (mkF m 0 #[.val (.ref r0), .val (.ref rv)] []))
  refine go _ _ (fun t' k' => XS.aloadN X0.here hx rfl (hb hby d9_0) rfl rfl  k') ?_
  show G (s₁.setTop (mkF m 1 #[.val (.ref r0), .val (.ref rv)] [(.ref r0)]))
  refine go _ _ (fun t' k' => XS.aloadN X0.here hx rfl (hb hby d9_1) rfl rfl  k') ?_
  show G (s₁.setTop (mkF m 2 #[.val (.ref r0), .val (.ref rv)] [(.ref rv), (.ref r0)]))
  refine go _ _ (fun t' k' => XS.iconst X0.here hx rfl (hb hby d9_2) k') ?_
  show G (s₁.setTop (mkF m 3 #[.val (.ref r0), .val (.ref rv)] [(.int (0 : Int32)), (.ref rv), (.ref r0)]))
  refine go _ _ (fun t' k' => XS.aloadN X0.here hx rfl (hb hby d9_3) rfl rfl  k') ?_
  show G (s₁.setTop (mkF m 4 #[.val (.ref r0), .val (.ref rv)] [(.ref rv), (.int (0 : Int32)), (.ref rv), (.ref r0)]))
  refine own_arrlen go X0 hx hZ e0 (g := (mkF m 4 #[.val (.ref r0), .val (.ref rv)] [(.ref rv), (.int (0 : Int32)), (.ref rv), (.ref r0)])) rfl Av rfl (hb hby d9_4) ?_
  show G (s₁.setTop (mkF m 5 #[.val (.ref r0), .val (.ref rv)] [(.int (1 : Int32)), (.int (0 : Int32)), (.ref rv), (.ref r0)]))
  refine go _ _ (fun t' k' => XS.aconstNull X0.here hx rfl (hb hby d9_5) k') ?_
  show G (s₁.setTop (mkF m 6 #[.val (.ref r0), .val (.ref rv)] [.null, (.int (1 : Int32)), (.int (0 : Int32)), (.ref rv), (.ref r0)]))
  refine own_init go X0 hx hZ e0 rfl hown (hw _ (List.mem_of_getElem? (i := 77) rfl)) (hw _ (List.mem_of_getElem? (i := 78) rfl)) (hw _ (List.mem_of_getElem? (i := 18) rfl)) (hw _ (List.mem_of_getElem? (i := 80) rfl)) (by decide) (rm_s4 l Z a0 hw r0 rv ch cs h0 n0 Z0 g_r0 hcs nv Scs E0 F0 F1 Av hch) 0 (by decide) (by decide) (by decide) (by decide) (g := (mkF m 6 #[.val (.ref r0), .val (.ref rv)] [.null, (.int (1 : Int32)), (.int (0 : Int32)), (.ref rv), (.ref r0)])) rfl (by rw [hml]; rfl) r0 [(.ref rv), (.int (0 : Int32)), (.int (1 : Int32)), .null] [] rfl (lenOf pd_6 rfl) rfl (by show 2 * 0 + _ ≤ _; exact Nat.le_of_eq rfl) (hb hby d9_6) ?_
  intro T185 L185 v185 X185 q185
  obtain ⟨rfl, N185, K185⟩ := q185
  have ns186 : ∀ w ∈ [r0], ∃ c : Cell, h0[w]? = some c ∧ c.vm.isStatics = false := (allS (own_exa_ns E0) all0)
  obtain ⟨lc185, X185h, N185h⟩ := own_hide X185 (Fr.app N0 N185)
  have K187 : Keep h0 T185.heap [r0] := (Keep.refl h0 [r0]).trans K185 (allS (Or.inl (List.mem_of_getElem? (i := 0) rfl)) all0)
  have Z188 : n0 ≤ T185.heap.size := Nat.le_trans Z0 K185.1
  show G (T185.setTop (mkF m 9 #[.val (.ref r0), .val (.ref rv)] []))
  refine own_retV rt X185h hx hret (hb hby d9_9) (by decide) (by decide) ?_
  exact ⟨rfl, N185h, K187⟩
theorem pn_0 : plainFor x = true := by first | (exact plainFor_of_name (show plainName "com/example/clearbrace/clearbrace/schema/TagEqualsPinLaw" = true by first | (simp [plainName, overriddenIn]; done) | decide +kernel)) | decide +kernel
theorem ef_rm0 (m : MethodId) (x0 : Int32) (x1 : Int32) (x2 : Int32) (x3 : Int32) (x4 : Int32) : entryFrame m #[(.int x0), (.int x1), (.int x2), (.int x3), (.int x4)] maxLocals = mkF m 0 #[.val (.int x0), .val (.int x1), .val (.int x2), .val (.int x3), .val (.int x4), .unset, .unset, .unset, .unset, .unset, .unset, .unset, .unset, .unset, .unset] [] := by first | (simp [entryFrame, mkF, argsToLocals, Value.category, maxLocals]; done) | rfl
set_option maxRecDepth 65536 in
set_option maxHeartbeats 40000000 in
theorem rm0 (l : Launch) (Z : State) (a0 : Array Value) (hw : ∀ d ∈ tables_1, d.before a0 Z = true) (u0 u1 u2 u3 u4 : Int32) (h0 : Heap) (n0 : Nat) (Z0 : n0 ≤ h0.size) (x0 x1 x2 x3 rc : Addr) (ic : Nat → Addr) (cs : Int32) (S0 : Sta Z h0 "com/example/clearbrace/clearbrace/schema/TagClass" "UNIVERSAL" "Lcom/example/clearbrace/clearbrace/schema/TagClass;" (.ref x0)) (S1 : Sta Z h0 "com/example/clearbrace/clearbrace/schema/TagClass" "APPLICATION" "Lcom/example/clearbrace/clearbrace/schema/TagClass;" (.ref x1)) (S2 : Sta Z h0 "com/example/clearbrace/clearbrace/schema/TagClass" "CONTEXT_SPECIFIC" "Lcom/example/clearbrace/clearbrace/schema/TagClass;" (.ref x2)) (S3 : Sta Z h0 "com/example/clearbrace/clearbrace/schema/TagClass" "PRIVATE" "Lcom/example/clearbrace/clearbrace/schema/TagClass;" (.ref x3)) (Ex0 : Exa Z h0 x0 "com/example/clearbrace/clearbrace/schema/TagClass") (Ex1 : Exa Z h0 x1 "com/example/clearbrace/clearbrace/schema/TagClass") (Ex2 : Exa Z h0 x2 "com/example/clearbrace/clearbrace/schema/TagClass") (Ex3 : Exa Z h0 x3 "com/example/clearbrace/clearbrace/schema/TagClass") (nx01 : x0 ≠ x1) (nx02 : x0 ≠ x2) (nx03 : x0 ≠ x3) (nx12 : x1 ≠ x2) (nx13 : x1 ≠ x3) (nx23 : x2 ≠ x3) (Sh : Sta Z h0 "java/lang/Integer$IntegerCache" "high" "I" (.int 127)) (Sc : Sta Z h0 "java/lang/Integer$IntegerCache" "cache" "[Ljava/lang/Integer;" (.ref rc)) (Ac : Ary Z h0 rc (.object "java/lang/Integer") 256 (fun i => .ref (ic i))) (Ei : ∀ i, i < 256 → Exa Z h0 (ic i) "java/lang/Integer") (Scs : Sta Z h0 "java/lang/String" "COMPACT_STRINGS" "Z" (.int cs)) (hcs : ¬ cs = 0) :
    ConW l Z x code maxLocals ret room_1 #[(.int u0), (.int u1), (.int u2), (.int u3), (.int u4)] h0 (fun v h L => v = some (.int 1) ∧ Fr n0 L) := by
  refine own_bodyW pn_0 ?_
  intro p e s m below meth c s₁ hx hby hml hown hnm hret hZ e0 X0 G go kS rb Zk0
  have rt := own_rt rb
  have N0 := Fr.nil n0
  rw [ef_rm0 m u0 u1 u2 u3 u4]
  show G (s₁.setTop (mkF m 0 #[.val (.int u0), .val (.int u1), .val (.int u2), .val (.int u3), .val (.int u4), .unset, .unset, .unset, .unset, .unset, .unset, .unset, .unset, .unset, .unset] []))
  refine go _ _ (fun t' k' => XS.iloadN X0.here hx rfl (hb hby at_0) rfl  k') ?_
  show G (s₁.setTop (mkF m 1 #[.val (.int u0), .val (.int u1), .val (.int u2), .val (.int u3), .val (.int u4), .unset, .unset, .unset, .unset, .unset, .unset, .unset, .unset, .unset, .unset] [(.int u0)]))
  refine go _ _ (fun t' k' => XS.iconst X0.here hx rfl (hb hby at_1) k') ?_
  show G (s₁.setTop (mkF m 2 #[.val (.int u0), .val (.int u1), .val (.int u2), .val (.int u3), .val (.int u4), .unset, .unset, .unset, .unset, .unset, .unset, .unset, .unset, .unset, .unset] [(.int (3 : Int32)), (.int u0)]))
  refine go _ _ (fun t' k' => XS.iand X0.here hx rfl (hb hby at_2) rfl k') ?_
  show G (s₁.setTop (mkF m 3 #[.val (.int u0), .val (.int u1), .val (.int u2), .val (.int u3), .val (.int u4), .unset, .unset, .unset, .unset, .unset, .unset, .unset, .unset, .unset, .unset] [(.int (u0 &&& (3 : Int32)))]))
  refine go _ _ (fun t' k' => XS.istore X0.here hx rfl (hb hby at_3) rfl (l' := #[.val (.int u0), .val (.int u1), .val (.int u2), .val (.int u3), .val (.int u4), .val (.int (u0 &&& (3 : Int32))), .unset, .unset, .unset, .unset, .unset, .unset, .unset, .unset, .unset]) rfl k') ?_
  show G (s₁.setTop (mkF m 5 #[.val (.int u0), .val (.int u1), .val (.int u2), .val (.int u3), .val (.int u4), .val (.int (u0 &&& (3 : Int32))), .unset, .unset, .unset, .unset, .unset, .unset, .unset, .unset, .unset] []))
  obtain ⟨k1, hk1⟩ : ∃ z, z = (u0 &&& (3 : Int32)) := ⟨_, rfl⟩
  rw [← hk1]
  show G (s₁.setTop (mkF m 5 #[.val (.int u0), .val (.int u1), .val (.int u2), .val (.int u3), .val (.int u4), .val (.int k1), .unset, .unset, .unset, .unset, .unset, .unset, .unset, .unset, .unset] []))
  refine go _ _ (fun t' k' => XS.iloadN X0.here hx rfl (hb hby at_5) rfl  k') ?_
  show G (s₁.setTop (mkF m 6 #[.val (.int u0), .val (.int u1), .val (.int u2), .val (.int u3), .val (.int u4), .val (.int k1), .unset, .unset, .unset, .unset, .unset, .unset, .unset, .unset, .unset] [(.int u1)]))
  refine go _ _ (fun t' k' => X0.ldcInt hx hown (mvT hZ (hw _ (List.mem_of_getElem? (i := 0) rfl))) (g := (mkF m 6 #[.val (.int u0), .val (.int u1), .val (.int u2), .val (.int u3), .val (.int u4), .val (.int k1), .unset, .unset, .unset, .unset, .unset, .unset, .unset, .unset, .unset] [(.int u1)])) rfl (hb hby at_6) _ k') ?_
  show G (s₁.setTop (mkF m 8 #[.val (.int u0), .val (.int u1), .val (.int u2), .val (.int u3), .val (.int u4), .val (.int k1), .unset, .unset, .unset, .unset, .unset, .unset, .unset, .unset, .unset] [(.int (2147483647 : Int32)), (.int u1)]))
  refine go _ _ (fun t' k' => XS.iand X0.here hx rfl (hb hby at_8) rfl k') ?_
  show G (s₁.setTop (mkF m 9 #[.val (.int u0), .val (.int u1), .val (.int u2), .val (.int u3), .val (.int u4), .val (.int k1), .unset, .unset, .unset, .unset, .unset, .unset, .unset, .unset, .unset] [(.int (u1 &&& (2147483647 : Int32)))]))
  refine go _ _ (fun t' k' => XS.istore X0.here hx rfl (hb hby at_9) rfl (l' := #[.val (.int u0), .val (.int u1), .val (.int u2), .val (.int u3), .val (.int u4), .val (.int k1), .val (.int (u1 &&& (2147483647 : Int32))), .unset, .unset, .unset, .unset, .unset, .unset, .unset, .unset]) rfl k') ?_
  show G (s₁.setTop (mkF m 11 #[.val (.int u0), .val (.int u1), .val (.int u2), .val (.int u3), .val (.int u4), .val (.int k1), .val (.int (u1 &&& (2147483647 : Int32))), .unset, .unset, .unset, .unset, .unset, .unset, .unset, .unset] []))
  obtain ⟨av, hav0⟩ : ∃ z, z = (u1 &&& (2147483647 : Int32)) := ⟨_, rfl⟩
  rw [← hav0]
  show G (s₁.setTop (mkF m 11 #[.val (.int u0), .val (.int u1), .val (.int u2), .val (.int u3), .val (.int u4), .val (.int k1), .val (.int av), .unset, .unset, .unset, .unset, .unset, .unset, .unset, .unset] []))
  have hk1c : k4 k1 := hk1 ▸ own_and3 _
  have hav : ¬ av < 0 := hav0 ▸ own_and31 _
  have Ei1 := Ei (ci av) (own_ci av hav)
  have jk : ∀ (T : State) (locs : List Loc), Stand p l e room_1 s m #[(.int u0), (.int u1), (.int u2), (.int u3), (.int u4)] below meth c T locs 0 0 → T.heap = h0 → Fr n0 locs → ∀ (k2 : Int32), (k4 k2) → G (T.setTop (mkF m 26 #[.val (.int u0), .val (.int u1), .val (.int u2), .val (.int u3), .val (.int u4), .val (.int k1), .val (.int av), .unset, .unset, .unset, .unset, .unset, .unset, .unset, .unset] [(.int k2)])) := by
    intro T189 locs189 X189 e189 N189j k2 hk2
    show G (T189.setTop (mkF m 26 #[.val (.int u0), .val (.int u1), .val (.int u2), .val (.int u3), .val (.int u4), .val (.int k1), .val (.int av), .unset, .unset, .unset, .unset, .unset, .unset, .unset, .unset] [(.int k2)]))
    refine go _ _ (fun t' k' => XS.istore X189.here hx rfl (hb hby at_26) rfl (l' := #[.val (.int u0), .val (.int u1), .val (.int u2), .val (.int u3), .val (.int u4), .val (.int k1), .val (.int av), .val (.int k2), .unset, .unset, .unset, .unset, .unset, .unset, .unset]) rfl k') ?_
    show G (T189.setTop (mkF m 28 #[.val (.int u0), .val (.int u1), .val (.int u2), .val (.int u3), .val (.int u4), .val (.int k1), .val (.int av), .val (.int k2), .unset, .unset, .unset, .unset, .unset, .unset, .unset] []))
    have jb : ∀ (T : State) (locs : List Loc), Stand p l e room_1 s m #[(.int u0), (.int u1), (.int u2), (.int u3), (.int u4)] below meth c T locs 0 0 → T.heap = h0 → Fr n0 locs → ∀ (bv : Int32), (¬ bv < 0) → G (T.setTop (mkF m 44 #[.val (.int u0), .val (.int u1), .val (.int u2), .val (.int u3), .val (.int u4), .val (.int k1), .val (.int av), .val (.int k2), .unset, .unset, .unset, .unset, .unset, .unset, .unset] [(.int bv)])) := by
      intro T190 locs190 X190 e190 N190j bv hbv
      show G (T190.setTop (mkF m 44 #[.val (.int u0), .val (.int u1), .val (.int u2), .val (.int u3), .val (.int u4), .val (.int k1), .val (.int av), .val (.int k2), .unset, .unset, .unset, .unset, .unset, .unset, .unset] [(.int bv)]))
      refine go _ _ (fun t' k' => XS.istore X190.here hx rfl (hb hby at_44) rfl (l' := #[.val (.int u0), .val (.int u1), .val (.int u2), .val (.int u3), .val (.int u4), .val (.int k1), .val (.int av), .val (.int k2), .val (.int bv), .unset, .unset, .unset, .unset, .unset, .unset]) rfl k') ?_
      show G (T190.setTop (mkF m 46 #[.val (.int u0), .val (.int u1), .val (.int u2), .val (.int u3), .val (.int u4), .val (.int k1), .val (.int av), .val (.int k2), .val (.int bv), .unset, .unset, .unset, .unset, .unset, .unset] []))
      obtain ⟨T191, h191, X191, e191, E191, A191, D191, -, st191⟩ := newO X190 hx hZ hown (hw _ (List.mem_of_getElem? (i := 1) rfl)) (hw _ (List.mem_of_getElem? (i := 2) rfl)) (hw _ (List.mem_of_getElem? (i := 3) rfl)) e190 (g := (mkF m 46 #[.val (.int u0), .val (.int u1), .val (.int u2), .val (.int u3), .val (.int u4), .val (.int k1), .val (.int av), .val (.int k2), .val (.int bv), .unset, .unset, .unset, .unset, .unset, .unset] [])) rfl (hb hby at_46) (by decide) (by decide)
      obtain ⟨b191, g191⟩ : ∃ z, z = h0.size := ⟨_, rfl⟩
      rw [← g191] at A191 D191 st191
      have ne192 : (ic (ci av)) ≠ b191 := Nat.ne_of_lt (by rw [g191]; exact Ei1.lt)
      have ne193 : rc ≠ b191 := Nat.ne_of_lt (by rw [g191]; exact Ac.lt)
      have ne194 : x0 ≠ b191 := Nat.ne_of_lt (by rw [g191]; exact Ex0.lt)
      have ne195 : x1 ≠ b191 := Nat.ne_of_lt (by rw [g191]; exact Ex1.lt)
      have ne196 : x2 ≠ b191 := Nat.ne_of_lt (by rw [g191]; exact Ex2.lt)
      have ne197 : x3 ≠ b191 := Nat.ne_of_lt (by rw [g191]; exact Ex3.lt)
      have g_b191 : n0 ≤ b191 := Nat.le_trans Z0 (Nat.le_of_eq g191.symm)
      have Z198 : n0 ≤ h191.size := Nat.le_trans Z0 E191.1
      have Y199 : kS ≤ h191.size := Nat.le_trans Zk0 E191.1
      have F200 : Fld Z h191 b191 "com/example/clearbrace/clearbrace/schema/Tag" "_tagClass" "Lcom/example/clearbrace/clearbrace/schema/TagClass;" .null := D191 (Or.inr (hw _ (List.mem_of_getElem? (i := 32) rfl))) (ty := (.object "com/example/clearbrace/clearbrace/schema/TagClass")) (by decide)
      have F201 : Fld Z h191 b191 "com/example/clearbrace/clearbrace/schema/Tag" "_number" "I" (.int (0 : Int32)) := D191 (Or.inr (hw _ (List.mem_of_getElem? (i := 34) rfl))) (ty := .int) (by decide)
      refine go _ _ st191 ?_
      show G (T191.setTop (mkF m 49 #[.val (.int u0), .val (.int u1), .val (.int u2), .val (.int u3), .val (.int u4), .val (.int k1), .val (.int av), .val (.int k2), .val (.int bv), .unset, .unset, .unset, .unset, .unset, .unset] [(.ref b191)]))
      refine go _ _ (fun t' k' => XS.dup X191.here hx rfl (hb hby at_49) rfl rfl k') ?_
      show G (T191.setTop (mkF m 50 #[.val (.int u0), .val (.int u1), .val (.int u2), .val (.int u3), .val (.int u4), .val (.int k1), .val (.int av), .val (.int k2), .val (.int bv), .unset, .unset, .unset, .unset, .unset, .unset] [(.ref b191), (.ref b191)]))
      refine go _ _ (fun t' k' => XS.iload X191.here hx rfl (hb hby at_50) rfl  k') ?_
      show G (T191.setTop (mkF m 52 #[.val (.int u0), .val (.int u1), .val (.int u2), .val (.int u3), .val (.int u4), .val (.int k1), .val (.int av), .val (.int k2), .val (.int bv), .unset, .unset, .unset, .unset, .unset, .unset] [(.int k1), (.ref b191), (.ref b191)]))
      have f202 := (S0.ext E191)
      have f203 := (S1.ext E191)
      have f204 := (S2.ext E191)
      have f205 := (S3.ext E191)
      refine own_static go X191 hx hZ e191 hown (hw _ (List.mem_of_getElem? (i := 4) rfl)) (hw _ (List.mem_of_getElem? (i := 5) rfl)) (hw _ (List.mem_of_getElem? (i := 6) rfl)) (hw _ (List.mem_of_getElem? (i := 7) rfl)) (by decide) (rm_cls l Z a0 hw k1 x0 x1 x2 x3 h191 n0 Z198 f202 f203 f204 f205) 2 (by decide) (by decide) (by decide) (by decide) (g := (mkF m 52 #[.val (.int u0), .val (.int u1), .val (.int u2), .val (.int u3), .val (.int u4), .val (.int k1), .val (.int av), .val (.int k2), .val (.int bv), .unset, .unset, .unset, .unset, .unset, .unset] [(.int k1), (.ref b191), (.ref b191)])) rfl (by rw [hml]; rfl) [(.int k1)] [(.ref b191), (.ref b191)] rfl (lenOf pd_7 rfl) rfl (by show 2 * 0 + _ ≤ _; exact Nat.le_of_eq rfl) (hb hby at_52) ?_
      intro T206 L206 v206 X206 q206
      obtain ⟨rfl, N206, hh206⟩ := q206
      obtain ⟨lc206, X206h, N206h⟩ := own_hide X206 (Fr.app N190j N206)
      have f207 := (Ex0.ext E191)
      have f208 := (Ex1.ext E191)
      have f209 := (Ex2.ext E191)
      have f210 := (Ex3.ext E191)
      have Ed206 : Exa Z h191 (tc k1 x0 x1 x2 x3) "com/example/clearbrace/clearbrace/schema/TagClass" := own_tcE f207 f208 f209 f210
      obtain ⟨d206, hd206⟩ : ∃ z, z = tc k1 x0 x1 x2 x3 := ⟨_, rfl⟩
      rw [← hd206] at Ed206 ⊢
      show G (T206.setTop (mkF m 55 #[.val (.int u0), .val (.int u1), .val (.int u2), .val (.int u3), .val (.int u4), .val (.int k1), .val (.int av), .val (.int k2), .val (.int bv), .unset, .unset, .unset, .unset, .unset, .unset] [(.ref d206), (.ref b191), (.ref b191)]))
      refine go _ _ (fun t' k' => XS.iload X206h.here hx rfl (hb hby at_55) rfl  k') ?_
      show G (T206.setTop (mkF m 57 #[.val (.int u0), .val (.int u1), .val (.int u2), .val (.int u3), .val (.int u4), .val (.int k1), .val (.int av), .val (.int k2), .val (.int bv), .unset, .unset, .unset, .unset, .unset, .unset] [(.int av), (.ref d206), (.ref b191), (.ref b191)]))
      refine own_initW go X206h hx hZ hh206 rfl hown (hw _ (List.mem_of_getElem? (i := 11) rfl)) (hw _ (List.mem_of_getElem? (i := 12) rfl)) (hw _ (List.mem_of_getElem? (i := 3) rfl)) (hw _ (List.mem_of_getElem? (i := 13) rfl)) (by decide) (rm_ti l Z a0 hw b191 d206 av h191 n0 Z198 g_b191 hav Ed206 A191 F200 F201) 1 (by decide) (by decide) (by decide) (by decide) (g := (mkF m 57 #[.val (.int u0), .val (.int u1), .val (.int u2), .val (.int u3), .val (.int u4), .val (.int k1), .val (.int av), .val (.int k2), .val (.int bv), .unset, .unset, .unset, .unset, .unset, .unset] [(.int av), (.ref d206), (.ref b191), (.ref b191)])) rfl (by rw [hml]; rfl) b191 [(.ref d206), (.int av)] [(.ref b191)] rfl (lenOf pd_8 rfl) rfl (by show 2 * 0 + _ ≤ _; exact Nat.le_of_eq rfl) (hb hby at_57) rb Y199 ?_
      intro s kS T211 L211 v211 hZ hown rb Y211 X211 q211
      have rt := own_rt rb
      obtain ⟨rfl, N211, K211, Fa211, Fb211⟩ := q211
      have ns212 : ∀ w ∈ [b191], ∃ c : Cell, h191[w]? = some c ∧ c.vm.isStatics = false := (allS (own_exa_ns A191) all0)
      obtain ⟨lc211, X211h, N211h⟩ := own_hide X211 (Fr.app N206h N211)
      have Z213 : n0 ≤ T211.heap.size := Nat.le_trans Z198 K211.1
      show G (T211.setTop (mkF m 60 #[.val (.int u0), .val (.int u1), .val (.int u2), .val (.int u3), .val (.int u4), .val (.int k1), .val (.int av), .val (.int k2), .val (.int bv), .unset, .unset, .unset, .unset, .unset, .unset] [(.ref b191)]))
      refine go _ _ (fun t' k' => XS.astore X211h.here hx rfl (hb hby at_60) rfl rfl (l' := #[.val (.int u0), .val (.int u1), .val (.int u2), .val (.int u3), .val (.int u4), .val (.int k1), .val (.int av), .val (.int k2), .val (.int bv), .val (.ref b191), .unset, .unset, .unset, .unset, .unset]) rfl k') ?_
      show G (T211.setTop (mkF m 62 #[.val (.int u0), .val (.int u1), .val (.int u2), .val (.int u3), .val (.int u4), .val (.int k1), .val (.int av), .val (.int k2), .val (.int bv), .val (.ref b191), .unset, .unset, .unset, .unset, .unset] []))
      obtain ⟨T214, h214, X214, e214, E214, A214, D214, -, st214⟩ := newO X211h hx hZ hown (hw _ (List.mem_of_getElem? (i := 1) rfl)) (hw _ (List.mem_of_getElem? (i := 2) rfl)) (hw _ (List.mem_of_getElem? (i := 3) rfl)) rfl (g := (mkF m 62 #[.val (.int u0), .val (.int u1), .val (.int u2), .val (.int u3), .val (.int u4), .val (.int k1), .val (.int av), .val (.int k2), .val (.int bv), .val (.ref b191), .unset, .unset, .unset, .unset, .unset] [])) rfl (hb hby at_62) (by decide) (by decide)
      obtain ⟨b214, g214⟩ : ∃ z, z = T211.heap.size := ⟨_, rfl⟩
      rw [← g214] at A214 D214 st214
      have f216 := ((Ei1.ext E191).keep K211)
      have ne215 : (ic (ci av)) ≠ b214 := Nat.ne_of_lt (by rw [g214]; exact f216.lt)
      have f218 := (A191.keep K211)
      have ne217 : b191 ≠ b214 := Nat.ne_of_lt (by rw [g214]; exact f218.lt)
      have f220 := (Ed206.keep K211)
      have ne219 : d206 ≠ b214 := Nat.ne_of_lt (by rw [g214]; exact f220.lt)
      have f222 := ((Ac.ext E191).keep K211 (ninS ne193 nin0))
      have ne221 : rc ≠ b214 := Nat.ne_of_lt (by rw [g214]; exact f222.lt)
      have f224 := (f207.keep K211)
      have ne223 : x0 ≠ b214 := Nat.ne_of_lt (by rw [g214]; exact f224.lt)
      have f226 := (f208.keep K211)
      have ne225 : x1 ≠ b214 := Nat.ne_of_lt (by rw [g214]; exact f226.lt)
      have f228 := (f209.keep K211)
      have ne227 : x2 ≠ b214 := Nat.ne_of_lt (by rw [g214]; exact f228.lt)
      have f230 := (f210.keep K211)
      have ne229 : x3 ≠ b214 := Nat.ne_of_lt (by rw [g214]; exact f230.lt)
      have g_b214 : n0 ≤ b214 := Nat.le_trans Z213 (Nat.le_of_eq g214.symm)
      have Z231 : n0 ≤ h214.size := Nat.le_trans Z213 E214.1
      have Y232 : kS ≤ h214.size := Nat.le_trans Y211 E214.1
      have F233 : Fld Z h214 b214 "com/example/clearbrace/clearbrace/schema/Tag" "_tagClass" "Lcom/example/clearbrace/clearbrace/schema/TagClass;" .null := D214 (Or.inr (hw _ (List.mem_of_getElem? (i := 32) rfl))) (ty := (.object "com/example/clearbrace/clearbrace/schema/TagClass")) (by decide)
      have F234 : Fld Z h214 b214 "com/example/clearbrace/clearbrace/schema/Tag" "_number" "I" (.int (0 : Int32)) := D214 (Or.inr (hw _ (List.mem_of_getElem? (i := 34) rfl))) (ty := .int) (by decide)
      refine go _ _ st214 ?_
      show G (T214.setTop (mkF m 65 #[.val (.int u0), .val (.int u1), .val (.int u2), .val (.int u3), .val (.int u4), .val (.int k1), .val (.int av), .val (.int k2), .val (.int bv), .val (.ref b191), .unset, .unset, .unset, .unset, .unset] [(.ref b214)]))
      refine go _ _ (fun t' k' => XS.dup X214.here hx rfl (hb hby at_65) rfl rfl k') ?_
      show G (T214.setTop (mkF m 66 #[.val (.int u0), .val (.int u1), .val (.int u2), .val (.int u3), .val (.int u4), .val (.int k1), .val (.int av), .val (.int k2), .val (.int bv), .val (.ref b191), .unset, .unset, .unset, .unset, .unset] [(.ref b214), (.ref b214)]))
      refine go _ _ (fun t' k' => XS.iload X214.here hx rfl (hb hby at_66) rfl  k') ?_
      show G (T214.setTop (mkF m 68 #[.val (.int u0), .val (.int u1), .val (.int u2), .val (.int u3), .val (.int u4), .val (.int k1), .val (.int av), .val (.int k2), .val (.int bv), .val (.ref b191), .unset, .unset, .unset, .unset, .unset] [(.int k2), (.ref b214), (.ref b214)]))
      have f235 := ((own_sta_keep f202 K211 ns212).ext E214)
      have f236 := ((own_sta_keep f203 K211 ns212).ext E214)
      have f237 := ((own_sta_keep f204 K211 ns212).ext E214)
      have f238 := ((own_sta_keep f205 K211 ns212).ext E214)
      refine own_static go X214 hx hZ e214 hown (hw _ (List.mem_of_getElem? (i := 4) rfl)) (hw _ (List.mem_of_getElem? (i := 5) rfl)) (hw _ (List.mem_of_getElem? (i := 6) rfl)) (hw _ (List.mem_of_getElem? (i := 7) rfl)) (by decide) (rm_cls l Z a0 hw k2 x0 x1 x2 x3 h214 n0 Z231 f235 f236 f237 f238) 2 (by decide) (by decide) (by decide) (by decide) (g := (mkF m 68 #[.val (.int u0), .val (.int u1), .val (.int u2), .val (.int u3), .val (.int u4), .val (.int k1), .val (.int av), .val (.int k2), .val (.int bv), .val (.ref b191), .unset, .unset, .unset, .unset, .unset] [(.int k2), (.ref b214), (.ref b214)])) rfl (by rw [hml]; rfl) [(.int k2)] [(.ref b214), (.ref b214)] rfl (lenOf pd_7 rfl) rfl (by show 2 * 0 + _ ≤ _; exact Nat.le_of_eq rfl) (hb hby at_68) ?_
      intro T239 L239 v239 X239 q239
      obtain ⟨rfl, N239, hh239⟩ := q239
      obtain ⟨lc239, X239h, N239h⟩ := own_hide X239 (Fr.app N211h N239)
      have f240 := (f224.ext E214)
      have f241 := (f226.ext E214)
      have f242 := (f228.ext E214)
      have f243 := (f230.ext E214)
      have Ed239 : Exa Z h214 (tc k2 x0 x1 x2 x3) "com/example/clearbrace/clearbrace/schema/TagClass" := own_tcE f240 f241 f242 f243
      obtain ⟨d239, hd239⟩ : ∃ z, z = tc k2 x0 x1 x2 x3 := ⟨_, rfl⟩
      rw [← hd239] at Ed239 ⊢
      show G (T239.setTop (mkF m 71 #[.val (.int u0), .val (.int u1), .val (.int u2), .val (.int u3), .val (.int u4), .val (.int k1), .val (.int av), .val (.int k2), .val (.int bv), .val (.ref b191), .unset, .unset, .unset, .unset, .unset] [(.ref d239), (.ref b214), (.ref b214)]))
      refine go _ _ (fun t' k' => XS.iload X239h.here hx rfl (hb hby at_71) rfl  k') ?_
      show G (T239.setTop (mkF m 73 #[.val (.int u0), .val (.int u1), .val (.int u2), .val (.int u3), .val (.int u4), .val (.int k1), .val (.int av), .val (.int k2), .val (.int bv), .val (.ref b191), .unset, .unset, .unset, .unset, .unset] [(.int bv), (.ref d239), (.ref b214), (.ref b214)]))
      refine own_initW go X239h hx hZ hh239 rfl hown (hw _ (List.mem_of_getElem? (i := 11) rfl)) (hw _ (List.mem_of_getElem? (i := 12) rfl)) (hw _ (List.mem_of_getElem? (i := 3) rfl)) (hw _ (List.mem_of_getElem? (i := 13) rfl)) (by decide) (rm_ti l Z a0 hw b214 d239 bv h214 n0 Z231 g_b214 hbv Ed239 A214 F233 F234) 1 (by decide) (by decide) (by decide) (by decide) (g := (mkF m 73 #[.val (.int u0), .val (.int u1), .val (.int u2), .val (.int u3), .val (.int u4), .val (.int k1), .val (.int av), .val (.int k2), .val (.int bv), .val (.ref b191), .unset, .unset, .unset, .unset, .unset] [(.int bv), (.ref d239), (.ref b214), (.ref b214)])) rfl (by rw [hml]; rfl) b214 [(.ref d239), (.int bv)] [(.ref b214)] rfl (lenOf pd_8 rfl) rfl (by show 2 * 0 + _ ≤ _; exact Nat.le_of_eq rfl) (hb hby at_73) rb Y232 ?_
      intro s kS T244 L244 v244 hZ hown rb Y244 X244 q244
      have rt := own_rt rb
      obtain ⟨rfl, N244, K244, Fa244, Fb244⟩ := q244
      have ns245 : ∀ w ∈ [b214], ∃ c : Cell, h214[w]? = some c ∧ c.vm.isStatics = false := (allS (own_exa_ns A214) all0)
      obtain ⟨lc244, X244h, N244h⟩ := own_hide X244 (Fr.app N239h N244)
      have Z246 : n0 ≤ T244.heap.size := Nat.le_trans Z231 K244.1
      show G (T244.setTop (mkF m 76 #[.val (.int u0), .val (.int u1), .val (.int u2), .val (.int u3), .val (.int u4), .val (.int k1), .val (.int av), .val (.int k2), .val (.int bv), .val (.ref b191), .unset, .unset, .unset, .unset, .unset] [(.ref b214)]))
      refine go _ _ (fun t' k' => XS.astore X244h.here hx rfl (hb hby at_76) rfl rfl (l' := #[.val (.int u0), .val (.int u1), .val (.int u2), .val (.int u3), .val (.int u4), .val (.int k1), .val (.int av), .val (.int k2), .val (.int bv), .val (.ref b191), .val (.ref b214), .unset, .unset, .unset, .unset]) rfl k') ?_
      show G (T244.setTop (mkF m 78 #[.val (.int u0), .val (.int u1), .val (.int u2), .val (.int u3), .val (.int u4), .val (.int k1), .val (.int av), .val (.int k2), .val (.int bv), .val (.ref b191), .val (.ref b214), .unset, .unset, .unset, .unset] []))
      have je : ∀ (T : State) (locs : List Loc), Stand p l e room_1 s m #[(.int u0), (.int u1), (.int u2), (.int u3), (.int u4)] below meth c T locs 6 76 → T.heap = T244.heap → Fr n0 locs → ∀ (ex : Int32), (ex = if k1 = k2 ∧ av = bv then 1 else 0) → G (T.setTop (mkF m 97 #[.val (.int u0), .val (.int u1), .val (.int u2), .val (.int u3), .val (.int u4), .val (.int k1), .val (.int av), .val (.int k2), .val (.int bv), .val (.ref b191), .val (.ref b214), .unset, .unset, .unset, .unset] [(.int ex)])) := by
        intro T247 locs247 X247 e247 N247j ex hex
        show G (T247.setTop (mkF m 97 #[.val (.int u0), .val (.int u1), .val (.int u2), .val (.int u3), .val (.int u4), .val (.int k1), .val (.int av), .val (.int k2), .val (.int bv), .val (.ref b191), .val (.ref b214), .unset, .unset, .unset, .unset] [(.int ex)]))
        refine go _ _ (fun t' k' => XS.istore X247.here hx rfl (hb hby at_97) rfl (l' := #[.val (.int u0), .val (.int u1), .val (.int u2), .val (.int u3), .val (.int u4), .val (.int k1), .val (.int av), .val (.int k2), .val (.int bv), .val (.ref b191), .val (.ref b214), .val (.int ex), .unset, .unset, .unset]) rfl k') ?_
        show G (T247.setTop (mkF m 99 #[.val (.int u0), .val (.int u1), .val (.int u2), .val (.int u3), .val (.int u4), .val (.int k1), .val (.int av), .val (.int k2), .val (.int bv), .val (.ref b191), .val (.ref b214), .val (.int ex), .unset, .unset, .unset] []))
        refine go _ _ (fun t' k' => XS.iload X247.here hx rfl (hb hby at_99) rfl  k') ?_
        show G (T247.setTop (mkF m 101 #[.val (.int u0), .val (.int u1), .val (.int u2), .val (.int u3), .val (.int u4), .val (.int k1), .val (.int av), .val (.int k2), .val (.int bv), .val (.ref b191), .val (.ref b214), .val (.int ex), .unset, .unset, .unset] [(.int u4)]))
        refine go _ _ (fun t' k' => XS.iconst X247.here hx rfl (hb hby at_101) k') ?_
        show G (T247.setTop (mkF m 102 #[.val (.int u0), .val (.int u1), .val (.int u2), .val (.int u3), .val (.int u4), .val (.int k1), .val (.int av), .val (.int k2), .val (.int bv), .val (.ref b191), .val (.ref b214), .val (.int ex), .unset, .unset, .unset] [(.int (2 : Int32)), (.int u4)]))
        refine go _ _ (fun t' k' => XS.ishr X247.here hx rfl (hb hby at_102) rfl k') ?_
        show G (T247.setTop (mkF m 103 #[.val (.int u0), .val (.int u1), .val (.int u2), .val (.int u3), .val (.int u4), .val (.int k1), .val (.int av), .val (.int k2), .val (.int bv), .val (.ref b191), .val (.ref b214), .val (.int ex), .unset, .unset, .unset] [(.int (u4 >>> ((2 : Int32) &&& 31)))]))
        refine go _ _ (fun t' k' => XS.iconst X247.here hx rfl (hb hby at_103) k') ?_
        show G (T247.setTop (mkF m 104 #[.val (.int u0), .val (.int u1), .val (.int u2), .val (.int u3), .val (.int u4), .val (.int k1), .val (.int av), .val (.int k2), .val (.int bv), .val (.ref b191), .val (.ref b214), .val (.int ex), .unset, .unset, .unset] [(.int (3 : Int32)), (.int (u4 >>> ((2 : Int32) &&& 31)))]))
        refine go _ _ (fun t' k' => XS.iand X247.here hx rfl (hb hby at_104) rfl k') ?_
        show G (T247.setTop (mkF m 105 #[.val (.int u0), .val (.int u1), .val (.int u2), .val (.int u3), .val (.int u4), .val (.int k1), .val (.int av), .val (.int k2), .val (.int bv), .val (.ref b191), .val (.ref b214), .val (.int ex), .unset, .unset, .unset] [(.int ((u4 >>> ((2 : Int32) &&& 31)) &&& (3 : Int32)))]))
        refine go _ _ (fun t' k' => XS.istore X247.here hx rfl (hb hby at_105) rfl (l' := #[.val (.int u0), .val (.int u1), .val (.int u2), .val (.int u3), .val (.int u4), .val (.int k1), .val (.int av), .val (.int k2), .val (.int bv), .val (.ref b191), .val (.ref b214), .val (.int ex), .val (.int ((u4 >>> ((2 : Int32) &&& 31)) &&& (3 : Int32))), .unset, .unset]) rfl k') ?_
        show G (T247.setTop (mkF m 107 #[.val (.int u0), .val (.int u1), .val (.int u2), .val (.int u3), .val (.int u4), .val (.int k1), .val (.int av), .val (.int k2), .val (.int bv), .val (.ref b191), .val (.ref b214), .val (.int ex), .val (.int ((u4 >>> ((2 : Int32) &&& 31)) &&& (3 : Int32))), .unset, .unset] []))
        obtain ⟨kd, hkd0⟩ : ∃ z, z = ((u4 >>> ((2 : Int32) &&& 31)) &&& (3 : Int32)) := ⟨_, rfl⟩
        rw [← hkd0]
        show G (T247.setTop (mkF m 107 #[.val (.int u0), .val (.int u1), .val (.int u2), .val (.int u3), .val (.int u4), .val (.int k1), .val (.int av), .val (.int k2), .val (.int bv), .val (.ref b191), .val (.ref b214), .val (.int ex), .val (.int kd), .unset, .unset] []))
        have hkd : k4 kd := hkd0 ▸ own_and3 _
        refine go _ _ (fun t' k' => XS.iload X247.here hx rfl (hb hby at_107) rfl  k') ?_
        show G (T247.setTop (mkF m 109 #[.val (.int u0), .val (.int u1), .val (.int u2), .val (.int u3), .val (.int u4), .val (.int k1), .val (.int av), .val (.int k2), .val (.int bv), .val (.ref b191), .val (.ref b214), .val (.int ex), .val (.int kd), .unset, .unset] [(.int kd)]))
        refine go _ _ (fun t' k' => XS.iconst X247.here hx rfl (hb hby at_109) k') ?_
        show G (T247.setTop (mkF m 110 #[.val (.int u0), .val (.int u1), .val (.int u2), .val (.int u3), .val (.int u4), .val (.int k1), .val (.int av), .val (.int k2), .val (.int bv), .val (.ref b191), .val (.ref b214), .val (.int ex), .val (.int kd), .unset, .unset] [(.int (1 : Int32)), (.int kd)]))
        by_cases c248 : kd = (1 : Int32)
        · refine go _ _ (fun t' k' => XS.icmpNo X247.here hx rfl (hb hby at_110) rfl (Free.XT.ii_ne_f c248) k') ?_
          show G (T247.setTop (mkF m 113 #[.val (.int u0), .val (.int u1), .val (.int u2), .val (.int u3), .val (.int u4), .val (.int k1), .val (.int av), .val (.int k2), .val (.int bv), .val (.ref b191), .val (.ref b214), .val (.int ex), .val (.int kd), .unset, .unset] []))
          refine go _ _ (fun t' k' => XS.aconstNull X247.here hx rfl (hb hby at_113) k') ?_
          show G (T247.setTop (mkF m 114 #[.val (.int u0), .val (.int u1), .val (.int u2), .val (.int u3), .val (.int u4), .val (.int k1), .val (.int av), .val (.int k2), .val (.int bv), .val (.ref b191), .val (.ref b214), .val (.int ex), .val (.int kd), .unset, .unset] [.null]))
          refine go _ _ (fun t' k' => XS.astore X247.here hx rfl (hb hby at_114) rfl rfl (l' := #[.val (.int u0), .val (.int u1), .val (.int u2), .val (.int u3), .val (.int u4), .val (.int k1), .val (.int av), .val (.int k2), .val (.int bv), .val (.ref b191), .val (.ref b214), .val (.int ex), .val (.int kd), .val .null, .unset]) rfl k') ?_
          show G (T247.setTop (mkF m 116 #[.val (.int u0), .val (.int u1), .val (.int u2), .val (.int u3), .val (.int u4), .val (.int k1), .val (.int av), .val (.int k2), .val (.int bv), .val (.ref b191), .val (.ref b214), .val (.int ex), .val (.int kd), .val .null, .unset] []))
          refine go _ _ (fun t' k' => XS.goto X247.here hx rfl (pc0 := 116) (pc' := 175) rfl (hb hby at_116) (by decide) (by decide) k') ?_
          show G (T247.setTop (mkF m 175 #[.val (.int u0), .val (.int u1), .val (.int u2), .val (.int u3), .val (.int u4), .val (.int k1), .val (.int av), .val (.int k2), .val (.int bv), .val (.ref b191), .val (.ref b214), .val (.int ex), .val (.int kd), .val .null, .unset] []))
          refine go _ _ (fun t' k' => XS.iload X247.here hx rfl (hb hby at_175) rfl  k') ?_
          show G (T247.setTop (mkF m 177 #[.val (.int u0), .val (.int u1), .val (.int u2), .val (.int u3), .val (.int u4), .val (.int k1), .val (.int av), .val (.int k2), .val (.int bv), .val (.ref b191), .val (.ref b214), .val (.int ex), .val (.int kd), .val .null, .unset] [(.int kd)]))
          refine go _ _ (fun t' k' => XS.ifYes X247.here hx rfl (pc0 := 177) (pc' := 189) rfl (hb hby at_177) rfl (Free.XT.i0_ne_t (fun z => absurd (z.symm.trans c248) (by decide))) (by decide) (by decide) k') ?_
          show G (T247.setTop (mkF m 189 #[.val (.int u0), .val (.int u1), .val (.int u2), .val (.int u3), .val (.int u4), .val (.int k1), .val (.int av), .val (.int k2), .val (.int bv), .val (.ref b191), .val (.ref b214), .val (.int ex), .val (.int kd), .val .null, .unset] []))
          refine go _ _ (fun t' k' => XS.iconst X247.here hx rfl (hb hby at_189) k') ?_
          show G (T247.setTop (mkF m 190 #[.val (.int u0), .val (.int u1), .val (.int u2), .val (.int u3), .val (.int u4), .val (.int k1), .val (.int av), .val (.int k2), .val (.int bv), .val (.ref b191), .val (.ref b214), .val (.int ex), .val (.int kd), .val .null, .unset] [(.int (0 : Int32))]))
          refine go _ _ (fun t' k' => XS.istore X247.here hx rfl (hb hby at_190) rfl (l' := #[.val (.int u0), .val (.int u1), .val (.int u2), .val (.int u3), .val (.int u4), .val (.int k1), .val (.int av), .val (.int k2), .val (.int bv), .val (.ref b191), .val (.ref b214), .val (.int ex), .val (.int kd), .val .null, .val (.int (0 : Int32))]) rfl k') ?_
          show G (T247.setTop (mkF m 192 #[.val (.int u0), .val (.int u1), .val (.int u2), .val (.int u3), .val (.int u4), .val (.int k1), .val (.int av), .val (.int k2), .val (.int bv), .val (.ref b191), .val (.ref b214), .val (.int ex), .val (.int kd), .val .null, .val (.int (0 : Int32))] []))
          refine go _ _ (fun t' k' => XS.aload X247.here hx rfl (hb hby at_192) rfl rfl  k') ?_
          show G (T247.setTop (mkF m 194 #[.val (.int u0), .val (.int u1), .val (.int u2), .val (.int u3), .val (.int u4), .val (.int k1), .val (.int av), .val (.int k2), .val (.int bv), .val (.ref b191), .val (.ref b214), .val (.int ex), .val (.int kd), .val .null, .val (.int (0 : Int32))] [(.ref b191)]))
          refine go _ _ (fun t' k' => XS.aload X247.here hx rfl (hb hby at_194) rfl rfl  k') ?_
          show G (T247.setTop (mkF m 196 #[.val (.int u0), .val (.int u1), .val (.int u2), .val (.int u3), .val (.int u4), .val (.int k1), .val (.int av), .val (.int k2), .val (.int bv), .val (.ref b191), .val (.ref b214), .val (.int ex), .val (.int kd), .val .null, .val (.int (0 : Int32))] [.null, (.ref b191)]))
          have f250 := ((f218.ext E214).keep K244)
          refine own_virtual go X247 hx hZ e247 hown (hw _ (List.mem_of_getElem? (i := 37) rfl)) (hw _ (List.mem_of_getElem? (i := 38) rfl)) (notFace_of_selects (args := #[]) (mvT hZ (hw _ (List.mem_of_getElem? (i := 40) rfl)))) (hw _ (List.mem_of_getElem? (i := 40) rfl)) (hw _ (List.mem_of_getElem? (i := 39) rfl)) (hw _ (List.mem_of_getElem? (i := 3) rfl)) (hw _ (List.mem_of_getElem? (i := 41) rfl)) (by decide) (rm_eN l Z a0 hw b191 T244.heap n0 Z246) 0 (by decide) (by decide) (by decide) (by decide) f250 (g := (mkF m 196 #[.val (.int u0), .val (.int u1), .val (.int u2), .val (.int u3), .val (.int u4), .val (.int k1), .val (.int av), .val (.int k2), .val (.int bv), .val (.ref b191), .val (.ref b214), .val (.int ex), .val (.int kd), .val .null, .val (.int (0 : Int32))] [.null, (.ref b191)])) rfl (by rw [hml]; rfl) [.null] [] rfl (lenOf pd_9 rfl) rfl (by show 2 * 0 + _ ≤ _; exact Nat.le_of_eq rfl) (hb hby at_196) ?_
          intro T249 L249 v249 X249 q249
          obtain ⟨rfl, N249, hh249⟩ := q249
          obtain ⟨lc249, X249h, N249h⟩ := own_hide X249 (Fr.app N247j N249)
          show G (T249.setTop (mkF m 199 #[.val (.int u0), .val (.int u1), .val (.int u2), .val (.int u3), .val (.int u4), .val (.int k1), .val (.int av), .val (.int k2), .val (.int bv), .val (.ref b191), .val (.ref b214), .val (.int ex), .val (.int kd), .val .null, .val (.int (0 : Int32))] [(.int (0 : Int32))]))
          refine go _ _ (fun t' k' => XS.iload X249h.here hx rfl (hb hby at_199) rfl  k') ?_
          show G (T249.setTop (mkF m 201 #[.val (.int u0), .val (.int u1), .val (.int u2), .val (.int u3), .val (.int u4), .val (.int k1), .val (.int av), .val (.int k2), .val (.int bv), .val (.ref b191), .val (.ref b214), .val (.int ex), .val (.int kd), .val .null, .val (.int (0 : Int32))] [(.int (0 : Int32)), (.int (0 : Int32))]))
          refine go _ _ (fun t' k' => XS.icmpNo X249h.here hx rfl (hb hby at_201) rfl (Free.XT.ii_ne_f rfl) k') ?_
          show G (T249.setTop (mkF m 204 #[.val (.int u0), .val (.int u1), .val (.int u2), .val (.int u3), .val (.int u4), .val (.int k1), .val (.int av), .val (.int k2), .val (.int bv), .val (.ref b191), .val (.ref b214), .val (.int ex), .val (.int kd), .val .null, .val (.int (0 : Int32))] []))
          refine go _ _ (fun t' k' => XS.aload X249h.here hx rfl (hb hby at_204) rfl rfl  k') ?_
          show G (T249.setTop (mkF m 206 #[.val (.int u0), .val (.int u1), .val (.int u2), .val (.int u3), .val (.int u4), .val (.int k1), .val (.int av), .val (.int k2), .val (.int bv), .val (.ref b191), .val (.ref b214), .val (.int ex), .val (.int kd), .val .null, .val (.int (0 : Int32))] [(.ref b214)]))
          refine go _ _ (fun t' k' => XS.aload X249h.here hx rfl (hb hby at_206) rfl rfl  k') ?_
          show G (T249.setTop (mkF m 208 #[.val (.int u0), .val (.int u1), .val (.int u2), .val (.int u3), .val (.int u4), .val (.int k1), .val (.int av), .val (.int k2), .val (.int bv), .val (.ref b191), .val (.ref b214), .val (.int ex), .val (.int kd), .val .null, .val (.int (0 : Int32))] [(.ref b191), (.ref b214)]))
          have f251 := ((Fa211.ext E214).keep K244 (ninS ne217 nin0))
          have f252 := ((Fb211.ext E214).keep K244 (ninS ne217 nin0))
          have f254 := (A214.keep K244)
          refine own_virtual go X249h hx hZ hh249 hown (hw _ (List.mem_of_getElem? (i := 37) rfl)) (hw _ (List.mem_of_getElem? (i := 38) rfl)) (notFace_of_selects (args := #[]) (mvT hZ (hw _ (List.mem_of_getElem? (i := 40) rfl)))) (hw _ (List.mem_of_getElem? (i := 40) rfl)) (hw _ (List.mem_of_getElem? (i := 39) rfl)) (hw _ (List.mem_of_getElem? (i := 3) rfl)) (hw _ (List.mem_of_getElem? (i := 41) rfl)) (by decide) (rm_eT l Z a0 hw b214 b191 d239 d206 bv av T244.heap n0 Z246 f250 Fa244 Fb244 f251 f252) 0 (by decide) (by decide) (by decide) (by decide) f254 (g := (mkF m 208 #[.val (.int u0), .val (.int u1), .val (.int u2), .val (.int u3), .val (.int u4), .val (.int k1), .val (.int av), .val (.int k2), .val (.int bv), .val (.ref b191), .val (.ref b214), .val (.int ex), .val (.int kd), .val .null, .val (.int (0 : Int32))] [(.ref b191), (.ref b214)])) rfl (by rw [hml]; rfl) [(.ref b191)] [] rfl (lenOf pd_9 rfl) rfl (by show 2 * 0 + _ ≤ _; exact Nat.le_of_eq rfl) (hb hby at_208) ?_
          intro T253 L253 v253 X253 q253
          obtain ⟨rfl, N253, hh253⟩ := q253
          obtain ⟨lc253, X253h, N253h⟩ := own_hide X253 (Fr.app N249h N253)
          show G (T253.setTop (mkF m 211 #[.val (.int u0), .val (.int u1), .val (.int u2), .val (.int u3), .val (.int u4), .val (.int k1), .val (.int av), .val (.int k2), .val (.int bv), .val (.ref b191), .val (.ref b214), .val (.int ex), .val (.int kd), .val .null, .val (.int (0 : Int32))] [(.int (if d206 = d239 ∧ av = bv then (1 : Int32) else 0))]))
          refine go _ _ (fun t' k' => XS.iload X253h.here hx rfl (hb hby at_211) rfl  k') ?_
          show G (T253.setTop (mkF m 213 #[.val (.int u0), .val (.int u1), .val (.int u2), .val (.int u3), .val (.int u4), .val (.int k1), .val (.int av), .val (.int k2), .val (.int bv), .val (.ref b191), .val (.ref b214), .val (.int ex), .val (.int kd), .val .null, .val (.int (0 : Int32))] [(.int ex), (.int (if d206 = d239 ∧ av = bv then (1 : Int32) else 0))]))
          refine go _ _ (fun t' k' => XS.icmpNo X253h.here hx rfl (hb hby at_213) rfl (Free.XT.ii_ne_f ((own_if (by rw [hd206, hd239, (own_tci nx01 nx02 nx03 nx12 nx13 nx23 hk1c hk2)])).trans hex.symm)) k') ?_
          show G (T253.setTop (mkF m 216 #[.val (.int u0), .val (.int u1), .val (.int u2), .val (.int u3), .val (.int u4), .val (.int k1), .val (.int av), .val (.int k2), .val (.int bv), .val (.ref b191), .val (.ref b214), .val (.int ex), .val (.int kd), .val .null, .val (.int (0 : Int32))] []))
          refine go _ _ (fun t' k' => XS.aload X253h.here hx rfl (hb hby at_216) rfl rfl  k') ?_
          show G (T253.setTop (mkF m 218 #[.val (.int u0), .val (.int u1), .val (.int u2), .val (.int u3), .val (.int u4), .val (.int k1), .val (.int av), .val (.int k2), .val (.int bv), .val (.ref b191), .val (.ref b214), .val (.int ex), .val (.int kd), .val .null, .val (.int (0 : Int32))] [(.ref b191)]))
          refine go _ _ (fun t' k' => XS.aload X253h.here hx rfl (hb hby at_218) rfl rfl  k') ?_
          show G (T253.setTop (mkF m 220 #[.val (.int u0), .val (.int u1), .val (.int u2), .val (.int u3), .val (.int u4), .val (.int k1), .val (.int av), .val (.int k2), .val (.int bv), .val (.ref b191), .val (.ref b214), .val (.int ex), .val (.int kd), .val .null, .val (.int (0 : Int32))] [(.ref b191), (.ref b191)]))
          refine own_virtual go X253h hx hZ hh253 hown (hw _ (List.mem_of_getElem? (i := 37) rfl)) (hw _ (List.mem_of_getElem? (i := 38) rfl)) (notFace_of_selects (args := #[]) (mvT hZ (hw _ (List.mem_of_getElem? (i := 40) rfl)))) (hw _ (List.mem_of_getElem? (i := 40) rfl)) (hw _ (List.mem_of_getElem? (i := 39) rfl)) (hw _ (List.mem_of_getElem? (i := 3) rfl)) (hw _ (List.mem_of_getElem? (i := 41) rfl)) (by decide) (rm_eT l Z a0 hw b191 b191 d206 d206 av av T244.heap n0 Z246 f250 f251 f252 f251 f252) 0 (by decide) (by decide) (by decide) (by decide) f250 (g := (mkF m 220 #[.val (.int u0), .val (.int u1), .val (.int u2), .val (.int u3), .val (.int u4), .val (.int k1), .val (.int av), .val (.int k2), .val (.int bv), .val (.ref b191), .val (.ref b214), .val (.int ex), .val (.int kd), .val .null, .val (.int (0 : Int32))] [(.ref b191), (.ref b191)])) rfl (by rw [hml]; rfl) [(.ref b191)] [] rfl (lenOf pd_9 rfl) rfl (by show 2 * 0 + _ ≤ _; exact Nat.le_of_eq rfl) (hb hby at_220) ?_
          intro T255 L255 v255 X255 q255
          obtain ⟨rfl, N255, hh255⟩ := q255
          obtain ⟨lc255, X255h, N255h⟩ := own_hide X255 (Fr.app N253h N255)
          show G (T255.setTop (mkF m 223 #[.val (.int u0), .val (.int u1), .val (.int u2), .val (.int u3), .val (.int u4), .val (.int k1), .val (.int av), .val (.int k2), .val (.int bv), .val (.ref b191), .val (.ref b214), .val (.int ex), .val (.int kd), .val .null, .val (.int (0 : Int32))] [(.int (if d206 = d206 ∧ av = av then (1 : Int32) else 0))]))
          refine go _ _ (fun t' k' => XS.ifNo X255h.here hx rfl (hb hby at_223) rfl (Free.XT.i0_eq_f (by simp)) k') ?_
          show G (T255.setTop (mkF m 226 #[.val (.int u0), .val (.int u1), .val (.int u2), .val (.int u3), .val (.int u4), .val (.int k1), .val (.int av), .val (.int k2), .val (.int bv), .val (.ref b191), .val (.ref b214), .val (.int ex), .val (.int kd), .val .null, .val (.int (0 : Int32))] []))
          refine go _ _ (fun t' k' => XS.iconst X255h.here hx rfl (hb hby at_226) k') ?_
          show G (T255.setTop (mkF m 227 #[.val (.int u0), .val (.int u1), .val (.int u2), .val (.int u3), .val (.int u4), .val (.int k1), .val (.int av), .val (.int k2), .val (.int bv), .val (.ref b191), .val (.ref b214), .val (.int ex), .val (.int kd), .val .null, .val (.int (0 : Int32))] [(.int (1 : Int32))]))
          refine go _ _ (fun t' k' => XS.goto X255h.here hx rfl (pc0 := 227) (pc' := 231) rfl (hb hby at_227) (by decide) (by decide) k') ?_
          show G (T255.setTop (mkF m 231 #[.val (.int u0), .val (.int u1), .val (.int u2), .val (.int u3), .val (.int u4), .val (.int k1), .val (.int av), .val (.int k2), .val (.int bv), .val (.ref b191), .val (.ref b214), .val (.int ex), .val (.int kd), .val .null, .val (.int (0 : Int32))] [(.int (1 : Int32))]))
          refine own_retZ rt X255h hx (t := .boolean) hret (by simp) (hb hby at_231) (by decide) (by decide) ?_
          refine ⟨(by rw [hh255]; exact Y244), ?_⟩
          exact ⟨rfl, N255h⟩
        · refine go _ _ (fun t' k' => XS.icmpYes X247.here hx rfl (pc0 := 110) (pc' := 119) rfl (hb hby at_110) rfl (Free.XT.ii_ne_t c248) (by decide) (by decide) k') ?_
          show G (T247.setTop (mkF m 119 #[.val (.int u0), .val (.int u1), .val (.int u2), .val (.int u3), .val (.int u4), .val (.int k1), .val (.int av), .val (.int k2), .val (.int bv), .val (.ref b191), .val (.ref b214), .val (.int ex), .val (.int kd), .unset, .unset] []))
          refine go _ _ (fun t' k' => XS.iload X247.here hx rfl (hb hby at_119) rfl  k') ?_
          show G (T247.setTop (mkF m 121 #[.val (.int u0), .val (.int u1), .val (.int u2), .val (.int u3), .val (.int u4), .val (.int k1), .val (.int av), .val (.int k2), .val (.int bv), .val (.ref b191), .val (.ref b214), .val (.int ex), .val (.int kd), .unset, .unset] [(.int kd)]))
          refine go _ _ (fun t' k' => XS.iconst X247.here hx rfl (hb hby at_121) k') ?_
          show G (T247.setTop (mkF m 122 #[.val (.int u0), .val (.int u1), .val (.int u2), .val (.int u3), .val (.int u4), .val (.int k1), .val (.int av), .val (.int k2), .val (.int bv), .val (.ref b191), .val (.ref b214), .val (.int ex), .val (.int kd), .unset, .unset] [(.int (2 : Int32)), (.int kd)]))
          by_cases c256 : kd = (2 : Int32)
          · refine go _ _ (fun t' k' => XS.icmpNo X247.here hx rfl (hb hby at_122) rfl (Free.XT.ii_ne_f c256) k') ?_
            show G (T247.setTop (mkF m 125 #[.val (.int u0), .val (.int u1), .val (.int u2), .val (.int u3), .val (.int u4), .val (.int k1), .val (.int av), .val (.int k2), .val (.int bv), .val (.ref b191), .val (.ref b214), .val (.int ex), .val (.int kd), .unset, .unset] []))
            refine go _ _ (fun t' k' => XS.iload X247.here hx rfl (hb hby at_125) rfl  k') ?_
            show G (T247.setTop (mkF m 127 #[.val (.int u0), .val (.int u1), .val (.int u2), .val (.int u3), .val (.int u4), .val (.int k1), .val (.int av), .val (.int k2), .val (.int bv), .val (.ref b191), .val (.ref b214), .val (.int ex), .val (.int kd), .unset, .unset] [(.int av)]))
            have f257 := ((f216.ext E214).keep K244)
            have f258 := (own_sta_keep ((own_sta_keep (Sh.ext E191) K211 ns212).ext E214) K244 ns245)
            have f259 := (own_sta_keep ((own_sta_keep (Sc.ext E191) K211 ns212).ext E214) K244 ns245)
            have f260 := ((f222.ext E214).keep K244 (ninS ne221 nin0))
            refine own_static go X247 hx hZ e247 hown (hw _ (List.mem_of_getElem? (i := 48) rfl)) (hw _ (List.mem_of_getElem? (i := 49) rfl)) (hw _ (List.mem_of_getElem? (i := 50) rfl)) (hw _ (List.mem_of_getElem? (i := 51) rfl)) (by decide) (rm_vo l Z a0 hw av rc ic T244.heap n0 Z246 hav f257 f258 f259 f260) 0 (by decide) (by decide) (by decide) (by decide) (g := (mkF m 127 #[.val (.int u0), .val (.int u1), .val (.int u2), .val (.int u3), .val (.int u4), .val (.int k1), .val (.int av), .val (.int k2), .val (.int bv), .val (.ref b191), .val (.ref b214), .val (.int ex), .val (.int kd), .unset, .unset] [(.int av)])) rfl (by rw [hml]; rfl) [(.int av)] [] rfl (lenOf pd_10 rfl) rfl (by show 2 * 0 + _ ≤ _; exact Nat.le_of_eq rfl) (hb hby at_127) ?_
            intro T261 L261 v261 X261 q261
            obtain ⟨r261, rfl, N261, K261, Er261⟩ := q261
            have ns262 : ∀ w ∈ [], ∃ c : Cell, T244.heap[w]? = some c ∧ c.vm.isStatics = false := all0
            obtain ⟨lc261, X261h, N261h⟩ := own_hide X261 (Fr.app N247j N261)
            have Z263 : n0 ≤ T261.heap.size := Nat.le_trans Z246 K261.1
            have Y264 : kS ≤ T261.heap.size := Nat.le_trans Y244 K261.1
            show G (T261.setTop (mkF m 130 #[.val (.int u0), .val (.int u1), .val (.int u2), .val (.int u3), .val (.int u4), .val (.int k1), .val (.int av), .val (.int k2), .val (.int bv), .val (.ref b191), .val (.ref b214), .val (.int ex), .val (.int kd), .unset, .unset] [(.ref r261)]))
            refine go _ _ (fun t' k' => XS.astore X261h.here hx rfl (hb hby at_130) rfl rfl (l' := #[.val (.int u0), .val (.int u1), .val (.int u2), .val (.int u3), .val (.int u4), .val (.int k1), .val (.int av), .val (.int k2), .val (.int bv), .val (.ref b191), .val (.ref b214), .val (.int ex), .val (.int kd), .val (.ref r261), .unset]) rfl k') ?_
            show G (T261.setTop (mkF m 132 #[.val (.int u0), .val (.int u1), .val (.int u2), .val (.int u3), .val (.int u4), .val (.int k1), .val (.int av), .val (.int k2), .val (.int bv), .val (.ref b191), .val (.ref b214), .val (.int ex), .val (.int kd), .val (.ref r261), .unset] []))
            refine go _ _ (fun t' k' => XS.goto X261h.here hx rfl (pc0 := 132) (pc' := 175) rfl (hb hby at_132) (by decide) (by decide) k') ?_
            show G (T261.setTop (mkF m 175 #[.val (.int u0), .val (.int u1), .val (.int u2), .val (.int u3), .val (.int u4), .val (.int k1), .val (.int av), .val (.int k2), .val (.int bv), .val (.ref b191), .val (.ref b214), .val (.int ex), .val (.int kd), .val (.ref r261), .unset] []))
            refine go _ _ (fun t' k' => XS.iload X261h.here hx rfl (hb hby at_175) rfl  k') ?_
            show G (T261.setTop (mkF m 177 #[.val (.int u0), .val (.int u1), .val (.int u2), .val (.int u3), .val (.int u4), .val (.int k1), .val (.int av), .val (.int k2), .val (.int bv), .val (.ref b191), .val (.ref b214), .val (.int ex), .val (.int kd), .val (.ref r261), .unset] [(.int kd)]))
            refine go _ _ (fun t' k' => XS.ifYes X261h.here hx rfl (pc0 := 177) (pc' := 189) rfl (hb hby at_177) rfl (Free.XT.i0_ne_t (fun z => absurd (z.symm.trans c256) (by decide))) (by decide) (by decide) k') ?_
            show G (T261.setTop (mkF m 189 #[.val (.int u0), .val (.int u1), .val (.int u2), .val (.int u3), .val (.int u4), .val (.int k1), .val (.int av), .val (.int k2), .val (.int bv), .val (.ref b191), .val (.ref b214), .val (.int ex), .val (.int kd), .val (.ref r261), .unset] []))
            refine go _ _ (fun t' k' => XS.iconst X261h.here hx rfl (hb hby at_189) k') ?_
            show G (T261.setTop (mkF m 190 #[.val (.int u0), .val (.int u1), .val (.int u2), .val (.int u3), .val (.int u4), .val (.int k1), .val (.int av), .val (.int k2), .val (.int bv), .val (.ref b191), .val (.ref b214), .val (.int ex), .val (.int kd), .val (.ref r261), .unset] [(.int (0 : Int32))]))
            refine go _ _ (fun t' k' => XS.istore X261h.here hx rfl (hb hby at_190) rfl (l' := #[.val (.int u0), .val (.int u1), .val (.int u2), .val (.int u3), .val (.int u4), .val (.int k1), .val (.int av), .val (.int k2), .val (.int bv), .val (.ref b191), .val (.ref b214), .val (.int ex), .val (.int kd), .val (.ref r261), .val (.int (0 : Int32))]) rfl k') ?_
            show G (T261.setTop (mkF m 192 #[.val (.int u0), .val (.int u1), .val (.int u2), .val (.int u3), .val (.int u4), .val (.int k1), .val (.int av), .val (.int k2), .val (.int bv), .val (.ref b191), .val (.ref b214), .val (.int ex), .val (.int kd), .val (.ref r261), .val (.int (0 : Int32))] []))
            refine go _ _ (fun t' k' => XS.aload X261h.here hx rfl (hb hby at_192) rfl rfl  k') ?_
            show G (T261.setTop (mkF m 194 #[.val (.int u0), .val (.int u1), .val (.int u2), .val (.int u3), .val (.int u4), .val (.int k1), .val (.int av), .val (.int k2), .val (.int bv), .val (.ref b191), .val (.ref b214), .val (.int ex), .val (.int kd), .val (.ref r261), .val (.int (0 : Int32))] [(.ref b191)]))
            refine go _ _ (fun t' k' => XS.aload X261h.here hx rfl (hb hby at_194) rfl rfl  k') ?_
            show G (T261.setTop (mkF m 196 #[.val (.int u0), .val (.int u1), .val (.int u2), .val (.int u3), .val (.int u4), .val (.int k1), .val (.int av), .val (.int k2), .val (.int bv), .val (.ref b191), .val (.ref b214), .val (.int ex), .val (.int kd), .val (.ref r261), .val (.int (0 : Int32))] [(.ref r261), (.ref b191)]))
            have f266 := (((f218.ext E214).keep K244).keep K261)
            refine own_virtual go X261h hx hZ rfl hown (hw _ (List.mem_of_getElem? (i := 37) rfl)) (hw _ (List.mem_of_getElem? (i := 38) rfl)) (notFace_of_selects (args := #[]) (mvT hZ (hw _ (List.mem_of_getElem? (i := 40) rfl)))) (hw _ (List.mem_of_getElem? (i := 40) rfl)) (hw _ (List.mem_of_getElem? (i := 39) rfl)) (hw _ (List.mem_of_getElem? (i := 3) rfl)) (hw _ (List.mem_of_getElem? (i := 41) rfl)) (by decide) (rm_eX l Z a0 hw b191 r261 "java/lang/Integer" T261.heap n0 Z263 Er261 (own_no (hw _ (List.mem_of_getElem? (i := 69) rfl)) (hw _ (List.mem_of_getElem? (i := 2) rfl)) (NS.step (hw _ (List.mem_of_getElem? (i := 69) rfl)) (NS.step (hw _ (List.mem_of_getElem? (i := 70) rfl)) (own_nsroot (hw _ (List.mem_of_getElem? (i := 71) rfl)) (hw _ (List.mem_of_getElem? (i := 2) rfl)) (by decide)) (by decide)) (by decide)) (by decide))) 0 (by decide) (by decide) (by decide) (by decide) f266 (g := (mkF m 196 #[.val (.int u0), .val (.int u1), .val (.int u2), .val (.int u3), .val (.int u4), .val (.int k1), .val (.int av), .val (.int k2), .val (.int bv), .val (.ref b191), .val (.ref b214), .val (.int ex), .val (.int kd), .val (.ref r261), .val (.int (0 : Int32))] [(.ref r261), (.ref b191)])) rfl (by rw [hml]; rfl) [(.ref r261)] [] rfl (lenOf pd_9 rfl) rfl (by show 2 * 0 + _ ≤ _; exact Nat.le_of_eq rfl) (hb hby at_196) ?_
            intro T265 L265 v265 X265 q265
            obtain ⟨rfl, N265, hh265⟩ := q265
            obtain ⟨lc265, X265h, N265h⟩ := own_hide X265 (Fr.app N261h N265)
            show G (T265.setTop (mkF m 199 #[.val (.int u0), .val (.int u1), .val (.int u2), .val (.int u3), .val (.int u4), .val (.int k1), .val (.int av), .val (.int k2), .val (.int bv), .val (.ref b191), .val (.ref b214), .val (.int ex), .val (.int kd), .val (.ref r261), .val (.int (0 : Int32))] [(.int (0 : Int32))]))
            refine go _ _ (fun t' k' => XS.iload X265h.here hx rfl (hb hby at_199) rfl  k') ?_
            show G (T265.setTop (mkF m 201 #[.val (.int u0), .val (.int u1), .val (.int u2), .val (.int u3), .val (.int u4), .val (.int k1), .val (.int av), .val (.int k2), .val (.int bv), .val (.ref b191), .val (.ref b214), .val (.int ex), .val (.int kd), .val (.ref r261), .val (.int (0 : Int32))] [(.int (0 : Int32)), (.int (0 : Int32))]))
            refine go _ _ (fun t' k' => XS.icmpNo X265h.here hx rfl (hb hby at_201) rfl (Free.XT.ii_ne_f rfl) k') ?_
            show G (T265.setTop (mkF m 204 #[.val (.int u0), .val (.int u1), .val (.int u2), .val (.int u3), .val (.int u4), .val (.int k1), .val (.int av), .val (.int k2), .val (.int bv), .val (.ref b191), .val (.ref b214), .val (.int ex), .val (.int kd), .val (.ref r261), .val (.int (0 : Int32))] []))
            refine go _ _ (fun t' k' => XS.aload X265h.here hx rfl (hb hby at_204) rfl rfl  k') ?_
            show G (T265.setTop (mkF m 206 #[.val (.int u0), .val (.int u1), .val (.int u2), .val (.int u3), .val (.int u4), .val (.int k1), .val (.int av), .val (.int k2), .val (.int bv), .val (.ref b191), .val (.ref b214), .val (.int ex), .val (.int kd), .val (.ref r261), .val (.int (0 : Int32))] [(.ref b214)]))
            refine go _ _ (fun t' k' => XS.aload X265h.here hx rfl (hb hby at_206) rfl rfl  k') ?_
            show G (T265.setTop (mkF m 208 #[.val (.int u0), .val (.int u1), .val (.int u2), .val (.int u3), .val (.int u4), .val (.int k1), .val (.int av), .val (.int k2), .val (.int bv), .val (.ref b191), .val (.ref b214), .val (.int ex), .val (.int kd), .val (.ref r261), .val (.int (0 : Int32))] [(.ref b191), (.ref b214)]))
            have f267 := (Fa244.keep K261 nin0)
            have f268 := (Fb244.keep K261 nin0)
            have f269 := (((Fa211.ext E214).keep K244 (ninS ne217 nin0)).keep K261 nin0)
            have f270 := (((Fb211.ext E214).keep K244 (ninS ne217 nin0)).keep K261 nin0)
            have f272 := ((A214.keep K244).keep K261)
            refine own_virtual go X265h hx hZ hh265 hown (hw _ (List.mem_of_getElem? (i := 37) rfl)) (hw _ (List.mem_of_getElem? (i := 38) rfl)) (notFace_of_selects (args := #[]) (mvT hZ (hw _ (List.mem_of_getElem? (i := 40) rfl)))) (hw _ (List.mem_of_getElem? (i := 40) rfl)) (hw _ (List.mem_of_getElem? (i := 39) rfl)) (hw _ (List.mem_of_getElem? (i := 3) rfl)) (hw _ (List.mem_of_getElem? (i := 41) rfl)) (by decide) (rm_eT l Z a0 hw b214 b191 d239 d206 bv av T261.heap n0 Z263 f266 f267 f268 f269 f270) 0 (by decide) (by decide) (by decide) (by decide) f272 (g := (mkF m 208 #[.val (.int u0), .val (.int u1), .val (.int u2), .val (.int u3), .val (.int u4), .val (.int k1), .val (.int av), .val (.int k2), .val (.int bv), .val (.ref b191), .val (.ref b214), .val (.int ex), .val (.int kd), .val (.ref r261), .val (.int (0 : Int32))] [(.ref b191), (.ref b214)])) rfl (by rw [hml]; rfl) [(.ref b191)] [] rfl (lenOf pd_9 rfl) rfl (by show 2 * 0 + _ ≤ _; exact Nat.le_of_eq rfl) (hb hby at_208) ?_
            intro T271 L271 v271 X271 q271
            obtain ⟨rfl, N271, hh271⟩ := q271
            obtain ⟨lc271, X271h, N271h⟩ := own_hide X271 (Fr.app N265h N271)
            show G (T271.setTop (mkF m 211 #[.val (.int u0), .val (.int u1), .val (.int u2), .val (.int u3), .val (.int u4), .val (.int k1), .val (.int av), .val (.int k2), .val (.int bv), .val (.ref b191), .val (.ref b214), .val (.int ex), .val (.int kd), .val (.ref r261), .val (.int (0 : Int32))] [(.int (if d206 = d239 ∧ av = bv then (1 : Int32) else 0))]))
            refine go _ _ (fun t' k' => XS.iload X271h.here hx rfl (hb hby at_211) rfl  k') ?_
            show G (T271.setTop (mkF m 213 #[.val (.int u0), .val (.int u1), .val (.int u2), .val (.int u3), .val (.int u4), .val (.int k1), .val (.int av), .val (.int k2), .val (.int bv), .val (.ref b191), .val (.ref b214), .val (.int ex), .val (.int kd), .val (.ref r261), .val (.int (0 : Int32))] [(.int ex), (.int (if d206 = d239 ∧ av = bv then (1 : Int32) else 0))]))
            refine go _ _ (fun t' k' => XS.icmpNo X271h.here hx rfl (hb hby at_213) rfl (Free.XT.ii_ne_f ((own_if (by rw [hd206, hd239, (own_tci nx01 nx02 nx03 nx12 nx13 nx23 hk1c hk2)])).trans hex.symm)) k') ?_
            show G (T271.setTop (mkF m 216 #[.val (.int u0), .val (.int u1), .val (.int u2), .val (.int u3), .val (.int u4), .val (.int k1), .val (.int av), .val (.int k2), .val (.int bv), .val (.ref b191), .val (.ref b214), .val (.int ex), .val (.int kd), .val (.ref r261), .val (.int (0 : Int32))] []))
            refine go _ _ (fun t' k' => XS.aload X271h.here hx rfl (hb hby at_216) rfl rfl  k') ?_
            show G (T271.setTop (mkF m 218 #[.val (.int u0), .val (.int u1), .val (.int u2), .val (.int u3), .val (.int u4), .val (.int k1), .val (.int av), .val (.int k2), .val (.int bv), .val (.ref b191), .val (.ref b214), .val (.int ex), .val (.int kd), .val (.ref r261), .val (.int (0 : Int32))] [(.ref b191)]))
            refine go _ _ (fun t' k' => XS.aload X271h.here hx rfl (hb hby at_218) rfl rfl  k') ?_
            show G (T271.setTop (mkF m 220 #[.val (.int u0), .val (.int u1), .val (.int u2), .val (.int u3), .val (.int u4), .val (.int k1), .val (.int av), .val (.int k2), .val (.int bv), .val (.ref b191), .val (.ref b214), .val (.int ex), .val (.int kd), .val (.ref r261), .val (.int (0 : Int32))] [(.ref b191), (.ref b191)]))
            refine own_virtual go X271h hx hZ hh271 hown (hw _ (List.mem_of_getElem? (i := 37) rfl)) (hw _ (List.mem_of_getElem? (i := 38) rfl)) (notFace_of_selects (args := #[]) (mvT hZ (hw _ (List.mem_of_getElem? (i := 40) rfl)))) (hw _ (List.mem_of_getElem? (i := 40) rfl)) (hw _ (List.mem_of_getElem? (i := 39) rfl)) (hw _ (List.mem_of_getElem? (i := 3) rfl)) (hw _ (List.mem_of_getElem? (i := 41) rfl)) (by decide) (rm_eT l Z a0 hw b191 b191 d206 d206 av av T261.heap n0 Z263 f266 f269 f270 f269 f270) 0 (by decide) (by decide) (by decide) (by decide) f266 (g := (mkF m 220 #[.val (.int u0), .val (.int u1), .val (.int u2), .val (.int u3), .val (.int u4), .val (.int k1), .val (.int av), .val (.int k2), .val (.int bv), .val (.ref b191), .val (.ref b214), .val (.int ex), .val (.int kd), .val (.ref r261), .val (.int (0 : Int32))] [(.ref b191), (.ref b191)])) rfl (by rw [hml]; rfl) [(.ref b191)] [] rfl (lenOf pd_9 rfl) rfl (by show 2 * 0 + _ ≤ _; exact Nat.le_of_eq rfl) (hb hby at_220) ?_
            intro T273 L273 v273 X273 q273
            obtain ⟨rfl, N273, hh273⟩ := q273
            obtain ⟨lc273, X273h, N273h⟩ := own_hide X273 (Fr.app N271h N273)
            show G (T273.setTop (mkF m 223 #[.val (.int u0), .val (.int u1), .val (.int u2), .val (.int u3), .val (.int u4), .val (.int k1), .val (.int av), .val (.int k2), .val (.int bv), .val (.ref b191), .val (.ref b214), .val (.int ex), .val (.int kd), .val (.ref r261), .val (.int (0 : Int32))] [(.int (if d206 = d206 ∧ av = av then (1 : Int32) else 0))]))
            refine go _ _ (fun t' k' => XS.ifNo X273h.here hx rfl (hb hby at_223) rfl (Free.XT.i0_eq_f (by simp)) k') ?_
            show G (T273.setTop (mkF m 226 #[.val (.int u0), .val (.int u1), .val (.int u2), .val (.int u3), .val (.int u4), .val (.int k1), .val (.int av), .val (.int k2), .val (.int bv), .val (.ref b191), .val (.ref b214), .val (.int ex), .val (.int kd), .val (.ref r261), .val (.int (0 : Int32))] []))
            refine go _ _ (fun t' k' => XS.iconst X273h.here hx rfl (hb hby at_226) k') ?_
            show G (T273.setTop (mkF m 227 #[.val (.int u0), .val (.int u1), .val (.int u2), .val (.int u3), .val (.int u4), .val (.int k1), .val (.int av), .val (.int k2), .val (.int bv), .val (.ref b191), .val (.ref b214), .val (.int ex), .val (.int kd), .val (.ref r261), .val (.int (0 : Int32))] [(.int (1 : Int32))]))
            refine go _ _ (fun t' k' => XS.goto X273h.here hx rfl (pc0 := 227) (pc' := 231) rfl (hb hby at_227) (by decide) (by decide) k') ?_
            show G (T273.setTop (mkF m 231 #[.val (.int u0), .val (.int u1), .val (.int u2), .val (.int u3), .val (.int u4), .val (.int k1), .val (.int av), .val (.int k2), .val (.int bv), .val (.ref b191), .val (.ref b214), .val (.int ex), .val (.int kd), .val (.ref r261), .val (.int (0 : Int32))] [(.int (1 : Int32))]))
            refine own_retZ rt X273h hx (t := .boolean) hret (by simp) (hb hby at_231) (by decide) (by decide) ?_
            refine ⟨(by rw [hh273]; exact Y264), ?_⟩
            exact ⟨rfl, N273h⟩
          · refine go _ _ (fun t' k' => XS.icmpYes X247.here hx rfl (pc0 := 122) (pc' := 135) rfl (hb hby at_122) rfl (Free.XT.ii_ne_t c256) (by decide) (by decide) k') ?_
            show G (T247.setTop (mkF m 135 #[.val (.int u0), .val (.int u1), .val (.int u2), .val (.int u3), .val (.int u4), .val (.int k1), .val (.int av), .val (.int k2), .val (.int bv), .val (.ref b191), .val (.ref b214), .val (.int ex), .val (.int kd), .unset, .unset] []))
            refine go _ _ (fun t' k' => XS.iload X247.here hx rfl (hb hby at_135) rfl  k') ?_
            show G (T247.setTop (mkF m 137 #[.val (.int u0), .val (.int u1), .val (.int u2), .val (.int u3), .val (.int u4), .val (.int k1), .val (.int av), .val (.int k2), .val (.int bv), .val (.ref b191), .val (.ref b214), .val (.int ex), .val (.int kd), .unset, .unset] [(.int kd)]))
            refine go _ _ (fun t' k' => XS.iconst X247.here hx rfl (hb hby at_137) k') ?_
            show G (T247.setTop (mkF m 138 #[.val (.int u0), .val (.int u1), .val (.int u2), .val (.int u3), .val (.int u4), .val (.int k1), .val (.int av), .val (.int k2), .val (.int bv), .val (.ref b191), .val (.ref b214), .val (.int ex), .val (.int kd), .unset, .unset] [(.int (3 : Int32)), (.int kd)]))
            by_cases c274 : kd = (3 : Int32)
            · refine go _ _ (fun t' k' => XS.icmpNo X247.here hx rfl (hb hby at_138) rfl (Free.XT.ii_ne_f c274) k') ?_
              show G (T247.setTop (mkF m 141 #[.val (.int u0), .val (.int u1), .val (.int u2), .val (.int u3), .val (.int u4), .val (.int k1), .val (.int av), .val (.int k2), .val (.int bv), .val (.ref b191), .val (.ref b214), .val (.int ex), .val (.int kd), .unset, .unset] []))
              refine go _ _ (fun t' k' => XS.iconst X247.here hx rfl (hb hby at_141) k') ?_
              show G (T247.setTop (mkF m 142 #[.val (.int u0), .val (.int u1), .val (.int u2), .val (.int u3), .val (.int u4), .val (.int k1), .val (.int av), .val (.int k2), .val (.int bv), .val (.ref b191), .val (.ref b214), .val (.int ex), .val (.int kd), .unset, .unset] [(.int (1 : Int32))]))
              refine own_newarr go X247 hx hZ e247 (g := (mkF m 142 #[.val (.int u0), .val (.int u1), .val (.int u2), .val (.int u3), .val (.int u4), .val (.int k1), .val (.int av), .val (.int k2), .val (.int bv), .val (.ref b191), .val (.ref b214), .val (.int ex), .val (.int kd), .unset, .unset] [(.int (1 : Int32))])) rfl (hw _ (List.mem_of_getElem? (i := 72) rfl)) 1 rfl (hb hby at_142) rfl 1 (by decide) (by decide) (by decide) (by decide) ?_
              intro T275 h275 b275 X275 e275 E275 g275 A275
              have f277 := ((f216.ext E214).keep K244)
              have ne276 : (ic (ci av)) ≠ b275 := Nat.ne_of_lt (by rw [g275]; exact f277.lt)
              have f279 := ((f218.ext E214).keep K244)
              have ne278 : b191 ≠ b275 := Nat.ne_of_lt (by rw [g275]; exact f279.lt)
              have f281 := (A214.keep K244)
              have ne280 : b214 ≠ b275 := Nat.ne_of_lt (by rw [g275]; exact f281.lt)
              have f283 := ((f220.ext E214).keep K244)
              have ne282 : d206 ≠ b275 := Nat.ne_of_lt (by rw [g275]; exact f283.lt)
              have f285 := (Ed239.keep K244)
              have ne284 : d239 ≠ b275 := Nat.ne_of_lt (by rw [g275]; exact f285.lt)
              have f287 := ((f222.ext E214).keep K244 (ninS ne221 nin0))
              have ne286 : rc ≠ b275 := Nat.ne_of_lt (by rw [g275]; exact f287.lt)
              have f289 := (f240.keep K244)
              have ne288 : x0 ≠ b275 := Nat.ne_of_lt (by rw [g275]; exact f289.lt)
              have f291 := (f241.keep K244)
              have ne290 : x1 ≠ b275 := Nat.ne_of_lt (by rw [g275]; exact f291.lt)
              have f293 := (f242.keep K244)
              have ne292 : x2 ≠ b275 := Nat.ne_of_lt (by rw [g275]; exact f293.lt)
              have f295 := (f243.keep K244)
              have ne294 : x3 ≠ b275 := Nat.ne_of_lt (by rw [g275]; exact f295.lt)
              have g_b275 : n0 ≤ b275 := Nat.le_trans Z246 (Nat.le_of_eq g275.symm)
              have Z296 : n0 ≤ h275.size := Nat.le_trans Z246 E275.1
              have Y297 : kS ≤ h275.size := Nat.le_trans Y244 E275.1
              show G (T275.setTop (mkF m 144 #[.val (.int u0), .val (.int u1), .val (.int u2), .val (.int u3), .val (.int u4), .val (.int k1), .val (.int av), .val (.int k2), .val (.int bv), .val (.ref b191), .val (.ref b214), .val (.int ex), .val (.int kd), .unset, .unset] [(.ref b275)]))
              refine go _ _ (fun t' k' => XS.astore X275.here hx rfl (hb hby at_144) rfl rfl (l' := #[.val (.int u0), .val (.int u1), .val (.int u2), .val (.int u3), .val (.int u4), .val (.int k1), .val (.int av), .val (.int k2), .val (.int bv), .val (.ref b191), .val (.ref b214), .val (.int ex), .val (.int kd), .unset, .val (.ref b275)]) rfl k') ?_
              show G (T275.setTop (mkF m 146 #[.val (.int u0), .val (.int u1), .val (.int u2), .val (.int u3), .val (.int u4), .val (.int k1), .val (.int av), .val (.int k2), .val (.int bv), .val (.ref b191), .val (.ref b214), .val (.int ex), .val (.int kd), .unset, .val (.ref b275)] []))
              refine go _ _ (fun t' k' => XS.aload X275.here hx rfl (hb hby at_146) rfl rfl  k') ?_
              show G (T275.setTop (mkF m 148 #[.val (.int u0), .val (.int u1), .val (.int u2), .val (.int u3), .val (.int u4), .val (.int k1), .val (.int av), .val (.int k2), .val (.int bv), .val (.ref b191), .val (.ref b214), .val (.int ex), .val (.int kd), .unset, .val (.ref b275)] [(.ref b275)]))
              refine go _ _ (fun t' k' => XS.iconst X275.here hx rfl (hb hby at_148) k') ?_
              show G (T275.setTop (mkF m 149 #[.val (.int u0), .val (.int u1), .val (.int u2), .val (.int u3), .val (.int u4), .val (.int k1), .val (.int av), .val (.int k2), .val (.int bv), .val (.ref b191), .val (.ref b214), .val (.int ex), .val (.int kd), .unset, .val (.ref b275)] [(.int (0 : Int32)), (.ref b275)]))
              refine go _ _ (fun t' k' => XS.iload X275.here hx rfl (hb hby at_149) rfl  k') ?_
              show G (T275.setTop (mkF m 151 #[.val (.int u0), .val (.int u1), .val (.int u2), .val (.int u3), .val (.int u4), .val (.int k1), .val (.int av), .val (.int k2), .val (.int bv), .val (.ref b191), .val (.ref b214), .val (.int ex), .val (.int kd), .unset, .val (.ref b275)] [(.int av), (.int (0 : Int32)), (.ref b275)]))
              refine go _ _ (fun t' k' => XS.sipush X275.here hx rfl (hb hby at_151) k') ?_
              show G (T275.setTop (mkF m 154 #[.val (.int u0), .val (.int u1), .val (.int u2), .val (.int u3), .val (.int u4), .val (.int k1), .val (.int av), .val (.int k2), .val (.int bv), .val (.ref b191), .val (.ref b214), .val (.int ex), .val (.int kd), .unset, .val (.ref b275)] [(.int (255 : Int32)), (.int av), (.int (0 : Int32)), (.ref b275)]))
              refine go _ _ (fun t' k' => XS.iand X275.here hx rfl (hb hby at_154) rfl k') ?_
              show G (T275.setTop (mkF m 155 #[.val (.int u0), .val (.int u1), .val (.int u2), .val (.int u3), .val (.int u4), .val (.int k1), .val (.int av), .val (.int k2), .val (.int bv), .val (.ref b191), .val (.ref b214), .val (.int ex), .val (.int kd), .unset, .val (.ref b275)] [(.int (av &&& (255 : Int32))), (.int (0 : Int32)), (.ref b275)]))
              refine go _ _ (fun t' k' => XS.i2c X275.here hx rfl (hb hby at_155) rfl k') ?_
              show G (T275.setTop (mkF m 156 #[.val (.int u0), .val (.int u1), .val (.int u2), .val (.int u3), .val (.int u4), .val (.int k1), .val (.int av), .val (.int k2), .val (.int bv), .val (.ref b191), .val (.ref b214), .val (.int ex), .val (.int kd), .unset, .val (.ref b275)] [(.int ((av &&& (255 : Int32)).toUInt32.toUInt16.toUInt32.toInt32)), (.int (0 : Int32)), (.ref b275)]))
              refine own_castore go X275 hx hZ e275 0 rfl (by decide) (g := (mkF m 156 #[.val (.int u0), .val (.int u1), .val (.int u2), .val (.int u3), .val (.int u4), .val (.int k1), .val (.int av), .val (.int k2), .val (.int bv), .val (.ref b191), .val (.ref b214), .val (.int ex), .val (.int kd), .unset, .val (.ref b275)] [(.int ((av &&& (255 : Int32)).toUInt32.toUInt16.toUInt32.toInt32)), (.int (0 : Int32)), (.ref b275)])) rfl A275 rfl (hb hby at_156) ?_
              intro T298 h298 X298 e298 W298 A298
              obtain ⟨lc298, X298h, N298h⟩ := own_hide X298 (Fr.snoc X298 N247j g_b275)
              have Z299 : n0 ≤ h298.size := Nat.le_trans Z296 (Nat.le_of_eq W298.size.symm)
              have Y300 : kS ≤ h298.size := Nat.le_trans Y297 (Nat.le_of_eq W298.size.symm)
              have A298c := A298.cong (g := (fun _ => .int (nar .char ((av &&& (255 : Int32)).toUInt32.toUInt16.toUInt32.toInt32)))) own_f0
              show G (T298.setTop (mkF m 157 #[.val (.int u0), .val (.int u1), .val (.int u2), .val (.int u3), .val (.int u4), .val (.int k1), .val (.int av), .val (.int k2), .val (.int bv), .val (.ref b191), .val (.ref b214), .val (.int ex), .val (.int kd), .unset, .val (.ref b275)] []))
              have hch : ¬ 255 < (nar .char ((av &&& (255 : Int32)).toUInt32.toUInt16.toUInt32.toInt32)) := by
                show ¬ 255 < ((av &&& (255 : Int32)).toUInt32.toUInt16.toUInt32.toInt32).toUInt32.toUInt16.toUInt32.toInt32
                rw [i2c_mask, i2c_mask]; exact own_and255 _
              obtain ⟨T301, h301, X301, e301, E301, A301, D301, -, st301⟩ := newO X298h hx hZ hown (hw _ (List.mem_of_getElem? (i := 73) rfl)) (hw _ (List.mem_of_getElem? (i := 19) rfl)) (hw _ (List.mem_of_getElem? (i := 18) rfl)) e298 (g := (mkF m 157 #[.val (.int u0), .val (.int u1), .val (.int u2), .val (.int u3), .val (.int u4), .val (.int k1), .val (.int av), .val (.int k2), .val (.int bv), .val (.ref b191), .val (.ref b214), .val (.int ex), .val (.int kd), .unset, .val (.ref b275)] [])) rfl (hb hby at_157) (by decide) (by decide)
              obtain ⟨b301, g301⟩ : ∃ z, z = h298.size := ⟨_, rfl⟩
              rw [← g301] at A301 D301 st301
              have f303 := ((f277.ext E275).wr W298)
              have ne302 : (ic (ci av)) ≠ b301 := Nat.ne_of_lt (by rw [g301]; exact f303.lt)
              have f305 := ((f279.ext E275).wr W298)
              have ne304 : b191 ≠ b301 := Nat.ne_of_lt (by rw [g301]; exact f305.lt)
              have f307 := ((f281.ext E275).wr W298)
              have ne306 : b214 ≠ b301 := Nat.ne_of_lt (by rw [g301]; exact f307.lt)
              have ne308 : b275 ≠ b301 := Nat.ne_of_lt (by rw [g301]; exact A298c.lt)
              have f310 := ((f283.ext E275).wr W298)
              have ne309 : d206 ≠ b301 := Nat.ne_of_lt (by rw [g301]; exact f310.lt)
              have f312 := ((f285.ext E275).wr W298)
              have ne311 : d239 ≠ b301 := Nat.ne_of_lt (by rw [g301]; exact f312.lt)
              have f314 := ((f287.ext E275).other W298 ne286)
              have ne313 : rc ≠ b301 := Nat.ne_of_lt (by rw [g301]; exact f314.lt)
              have f316 := ((f289.ext E275).wr W298)
              have ne315 : x0 ≠ b301 := Nat.ne_of_lt (by rw [g301]; exact f316.lt)
              have f318 := ((f291.ext E275).wr W298)
              have ne317 : x1 ≠ b301 := Nat.ne_of_lt (by rw [g301]; exact f318.lt)
              have f320 := ((f293.ext E275).wr W298)
              have ne319 : x2 ≠ b301 := Nat.ne_of_lt (by rw [g301]; exact f320.lt)
              have f322 := ((f295.ext E275).wr W298)
              have ne321 : x3 ≠ b301 := Nat.ne_of_lt (by rw [g301]; exact f322.lt)
              have g_b301 : n0 ≤ b301 := Nat.le_trans Z299 (Nat.le_of_eq g301.symm)
              have Z323 : n0 ≤ h301.size := Nat.le_trans Z299 E301.1
              have Y324 : kS ≤ h301.size := Nat.le_trans Y300 E301.1
              have F325 : Fld Z h301 b301 "java/lang/String" "value" "[B" .null := D301 (Or.inr (hw _ (List.mem_of_getElem? (i := 21) rfl))) (ty := (.array .byte)) (by decide)
              have F326 : Fld Z h301 b301 "java/lang/String" "coder" "B" (.int (0 : Int32)) := D301 (Or.inr (hw _ (List.mem_of_getElem? (i := 22) rfl))) (ty := .byte) (by decide)
              refine go _ _ st301 ?_
              show G (T301.setTop (mkF m 160 #[.val (.int u0), .val (.int u1), .val (.int u2), .val (.int u3), .val (.int u4), .val (.int k1), .val (.int av), .val (.int k2), .val (.int bv), .val (.ref b191), .val (.ref b214), .val (.int ex), .val (.int kd), .unset, .val (.ref b275)] [(.ref b301)]))
              refine go _ _ (fun t' k' => XS.dup X301.here hx rfl (hb hby at_160) rfl rfl k') ?_
              show G (T301.setTop (mkF m 161 #[.val (.int u0), .val (.int u1), .val (.int u2), .val (.int u3), .val (.int u4), .val (.int k1), .val (.int av), .val (.int k2), .val (.int bv), .val (.ref b191), .val (.ref b214), .val (.int ex), .val (.int kd), .unset, .val (.ref b275)] [(.ref b301), (.ref b301)]))
              refine go _ _ (fun t' k' => XS.aload X301.here hx rfl (hb hby at_161) rfl rfl  k') ?_
              show G (T301.setTop (mkF m 163 #[.val (.int u0), .val (.int u1), .val (.int u2), .val (.int u3), .val (.int u4), .val (.int k1), .val (.int av), .val (.int k2), .val (.int bv), .val (.ref b191), .val (.ref b214), .val (.int ex), .val (.int kd), .unset, .val (.ref b275)] [(.ref b275), (.ref b301), (.ref b301)]))
              have f327 := ((((own_sta_keep ((own_sta_keep (Scs.ext E191) K211 ns212).ext E214) K244 ns245).ext E275).wr W298).ext E301)
              have f328 := (A298c.ext E301)
              refine own_init go X301 hx hZ e301 rfl hown (hw _ (List.mem_of_getElem? (i := 74) rfl)) (hw _ (List.mem_of_getElem? (i := 75) rfl)) (hw _ (List.mem_of_getElem? (i := 18) rfl)) (hw _ (List.mem_of_getElem? (i := 76) rfl)) (by decide) (rm_s1 l Z a0 hw b301 b275 (nar .char ((av &&& (255 : Int32)).toUInt32.toUInt16.toUInt32.toInt32)) cs h301 n0 Z323 g_b301 hcs ne308 f327 A301 F325 F326 f328 hch) 1 (by decide) (by decide) (by decide) (by decide) (g := (mkF m 163 #[.val (.int u0), .val (.int u1), .val (.int u2), .val (.int u3), .val (.int u4), .val (.int k1), .val (.int av), .val (.int k2), .val (.int bv), .val (.ref b191), .val (.ref b214), .val (.int ex), .val (.int kd), .unset, .val (.ref b275)] [(.ref b275), (.ref b301), (.ref b301)])) rfl (by rw [hml]; rfl) b301 [(.ref b275)] [(.ref b301)] rfl (lenOf pd_11 rfl) rfl (by show 2 * 0 + _ ≤ _; exact Nat.le_of_eq rfl) (hb hby at_163) ?_
              intro T329 L329 v329 X329 q329
              obtain ⟨rfl, N329, K329⟩ := q329
              have ns330 : ∀ w ∈ [b301], ∃ c : Cell, h301[w]? = some c ∧ c.vm.isStatics = false := (allS (own_exa_ns A301) all0)
              obtain ⟨lc329, X329h, N329h⟩ := own_hide X329 (Fr.app N298h N329)
              have Z331 : n0 ≤ T329.heap.size := Nat.le_trans Z323 K329.1
              have Y332 : kS ≤ T329.heap.size := Nat.le_trans Y324 K329.1
              show G (T329.setTop (mkF m 166 #[.val (.int u0), .val (.int u1), .val (.int u2), .val (.int u3), .val (.int u4), .val (.int k1), .val (.int av), .val (.int k2), .val (.int bv), .val (.ref b191), .val (.ref b214), .val (.int ex), .val (.int kd), .unset, .val (.ref b275)] [(.ref b301)]))
              refine go _ _ (fun t' k' => XS.astore X329h.here hx rfl (hb hby at_166) rfl rfl (l' := #[.val (.int u0), .val (.int u1), .val (.int u2), .val (.int u3), .val (.int u4), .val (.int k1), .val (.int av), .val (.int k2), .val (.int bv), .val (.ref b191), .val (.ref b214), .val (.int ex), .val (.int kd), .val (.ref b301), .val (.ref b275)]) rfl k') ?_
              show G (T329.setTop (mkF m 168 #[.val (.int u0), .val (.int u1), .val (.int u2), .val (.int u3), .val (.int u4), .val (.int k1), .val (.int av), .val (.int k2), .val (.int bv), .val (.ref b191), .val (.ref b214), .val (.int ex), .val (.int kd), .val (.ref b301), .val (.ref b275)] []))
              refine go _ _ (fun t' k' => XS.goto X329h.here hx rfl (pc0 := 168) (pc' := 175) rfl (hb hby at_168) (by decide) (by decide) k') ?_
              show G (T329.setTop (mkF m 175 #[.val (.int u0), .val (.int u1), .val (.int u2), .val (.int u3), .val (.int u4), .val (.int k1), .val (.int av), .val (.int k2), .val (.int bv), .val (.ref b191), .val (.ref b214), .val (.int ex), .val (.int kd), .val (.ref b301), .val (.ref b275)] []))
              refine go _ _ (fun t' k' => XS.iload X329h.here hx rfl (hb hby at_175) rfl  k') ?_
              show G (T329.setTop (mkF m 177 #[.val (.int u0), .val (.int u1), .val (.int u2), .val (.int u3), .val (.int u4), .val (.int k1), .val (.int av), .val (.int k2), .val (.int bv), .val (.ref b191), .val (.ref b214), .val (.int ex), .val (.int kd), .val (.ref b301), .val (.ref b275)] [(.int kd)]))
              refine go _ _ (fun t' k' => XS.ifYes X329h.here hx rfl (pc0 := 177) (pc' := 189) rfl (hb hby at_177) rfl (Free.XT.i0_ne_t (fun z => absurd (z.symm.trans c274) (by decide))) (by decide) (by decide) k') ?_
              show G (T329.setTop (mkF m 189 #[.val (.int u0), .val (.int u1), .val (.int u2), .val (.int u3), .val (.int u4), .val (.int k1), .val (.int av), .val (.int k2), .val (.int bv), .val (.ref b191), .val (.ref b214), .val (.int ex), .val (.int kd), .val (.ref b301), .val (.ref b275)] []))
              refine go _ _ (fun t' k' => XS.iconst X329h.here hx rfl (hb hby at_189) k') ?_
              show G (T329.setTop (mkF m 190 #[.val (.int u0), .val (.int u1), .val (.int u2), .val (.int u3), .val (.int u4), .val (.int k1), .val (.int av), .val (.int k2), .val (.int bv), .val (.ref b191), .val (.ref b214), .val (.int ex), .val (.int kd), .val (.ref b301), .val (.ref b275)] [(.int (0 : Int32))]))
              refine go _ _ (fun t' k' => XS.istore X329h.here hx rfl (hb hby at_190) rfl (l' := #[.val (.int u0), .val (.int u1), .val (.int u2), .val (.int u3), .val (.int u4), .val (.int k1), .val (.int av), .val (.int k2), .val (.int bv), .val (.ref b191), .val (.ref b214), .val (.int ex), .val (.int kd), .val (.ref b301), .val (.int (0 : Int32))]) rfl k') ?_
              show G (T329.setTop (mkF m 192 #[.val (.int u0), .val (.int u1), .val (.int u2), .val (.int u3), .val (.int u4), .val (.int k1), .val (.int av), .val (.int k2), .val (.int bv), .val (.ref b191), .val (.ref b214), .val (.int ex), .val (.int kd), .val (.ref b301), .val (.int (0 : Int32))] []))
              refine go _ _ (fun t' k' => XS.aload X329h.here hx rfl (hb hby at_192) rfl rfl  k') ?_
              show G (T329.setTop (mkF m 194 #[.val (.int u0), .val (.int u1), .val (.int u2), .val (.int u3), .val (.int u4), .val (.int k1), .val (.int av), .val (.int k2), .val (.int bv), .val (.ref b191), .val (.ref b214), .val (.int ex), .val (.int kd), .val (.ref b301), .val (.int (0 : Int32))] [(.ref b191)]))
              refine go _ _ (fun t' k' => XS.aload X329h.here hx rfl (hb hby at_194) rfl rfl  k') ?_
              show G (T329.setTop (mkF m 196 #[.val (.int u0), .val (.int u1), .val (.int u2), .val (.int u3), .val (.int u4), .val (.int k1), .val (.int av), .val (.int k2), .val (.int bv), .val (.ref b191), .val (.ref b214), .val (.int ex), .val (.int kd), .val (.ref b301), .val (.int (0 : Int32))] [(.ref b301), (.ref b191)]))
              have f333 := (A301.keep K329)
              have f335 := ((f305.ext E301).keep K329)
              refine own_virtual go X329h hx hZ rfl hown (hw _ (List.mem_of_getElem? (i := 37) rfl)) (hw _ (List.mem_of_getElem? (i := 38) rfl)) (notFace_of_selects (args := #[]) (mvT hZ (hw _ (List.mem_of_getElem? (i := 40) rfl)))) (hw _ (List.mem_of_getElem? (i := 40) rfl)) (hw _ (List.mem_of_getElem? (i := 39) rfl)) (hw _ (List.mem_of_getElem? (i := 3) rfl)) (hw _ (List.mem_of_getElem? (i := 41) rfl)) (by decide) (rm_eX l Z a0 hw b191 b301 "java/lang/String" T329.heap n0 Z331 f333 (own_no (hw _ (List.mem_of_getElem? (i := 95) rfl)) (hw _ (List.mem_of_getElem? (i := 2) rfl)) (NS.step (hw _ (List.mem_of_getElem? (i := 95) rfl)) (own_nsroot (hw _ (List.mem_of_getElem? (i := 71) rfl)) (hw _ (List.mem_of_getElem? (i := 2) rfl)) (by decide)) (by decide)) (by decide))) 0 (by decide) (by decide) (by decide) (by decide) f335 (g := (mkF m 196 #[.val (.int u0), .val (.int u1), .val (.int u2), .val (.int u3), .val (.int u4), .val (.int k1), .val (.int av), .val (.int k2), .val (.int bv), .val (.ref b191), .val (.ref b214), .val (.int ex), .val (.int kd), .val (.ref b301), .val (.int (0 : Int32))] [(.ref b301), (.ref b191)])) rfl (by rw [hml]; rfl) [(.ref b301)] [] rfl (lenOf pd_9 rfl) rfl (by show 2 * 0 + _ ≤ _; exact Nat.le_of_eq rfl) (hb hby at_196) ?_
              intro T334 L334 v334 X334 q334
              obtain ⟨rfl, N334, hh334⟩ := q334
              obtain ⟨lc334, X334h, N334h⟩ := own_hide X334 (Fr.app N329h N334)
              show G (T334.setTop (mkF m 199 #[.val (.int u0), .val (.int u1), .val (.int u2), .val (.int u3), .val (.int u4), .val (.int k1), .val (.int av), .val (.int k2), .val (.int bv), .val (.ref b191), .val (.ref b214), .val (.int ex), .val (.int kd), .val (.ref b301), .val (.int (0 : Int32))] [(.int (0 : Int32))]))
              refine go _ _ (fun t' k' => XS.iload X334h.here hx rfl (hb hby at_199) rfl  k') ?_
              show G (T334.setTop (mkF m 201 #[.val (.int u0), .val (.int u1), .val (.int u2), .val (.int u3), .val (.int u4), .val (.int k1), .val (.int av), .val (.int k2), .val (.int bv), .val (.ref b191), .val (.ref b214), .val (.int ex), .val (.int kd), .val (.ref b301), .val (.int (0 : Int32))] [(.int (0 : Int32)), (.int (0 : Int32))]))
              refine go _ _ (fun t' k' => XS.icmpNo X334h.here hx rfl (hb hby at_201) rfl (Free.XT.ii_ne_f rfl) k') ?_
              show G (T334.setTop (mkF m 204 #[.val (.int u0), .val (.int u1), .val (.int u2), .val (.int u3), .val (.int u4), .val (.int k1), .val (.int av), .val (.int k2), .val (.int bv), .val (.ref b191), .val (.ref b214), .val (.int ex), .val (.int kd), .val (.ref b301), .val (.int (0 : Int32))] []))
              refine go _ _ (fun t' k' => XS.aload X334h.here hx rfl (hb hby at_204) rfl rfl  k') ?_
              show G (T334.setTop (mkF m 206 #[.val (.int u0), .val (.int u1), .val (.int u2), .val (.int u3), .val (.int u4), .val (.int k1), .val (.int av), .val (.int k2), .val (.int bv), .val (.ref b191), .val (.ref b214), .val (.int ex), .val (.int kd), .val (.ref b301), .val (.int (0 : Int32))] [(.ref b214)]))
              refine go _ _ (fun t' k' => XS.aload X334h.here hx rfl (hb hby at_206) rfl rfl  k') ?_
              show G (T334.setTop (mkF m 208 #[.val (.int u0), .val (.int u1), .val (.int u2), .val (.int u3), .val (.int u4), .val (.int k1), .val (.int av), .val (.int k2), .val (.int bv), .val (.ref b191), .val (.ref b214), .val (.int ex), .val (.int kd), .val (.ref b301), .val (.int (0 : Int32))] [(.ref b191), (.ref b214)]))
              have f336 := ((((Fa244.ext E275).other W298 (Or.inl ne280)).ext E301).keep K329 (ninS ne306 nin0))
              have f337 := ((((Fb244.ext E275).other W298 (Or.inl ne280)).ext E301).keep K329 (ninS ne306 nin0))
              have f338 := ((((((Fa211.ext E214).keep K244 (ninS ne217 nin0)).ext E275).other W298 (Or.inl ne278)).ext E301).keep K329 (ninS ne304 nin0))
              have f339 := ((((((Fb211.ext E214).keep K244 (ninS ne217 nin0)).ext E275).other W298 (Or.inl ne278)).ext E301).keep K329 (ninS ne304 nin0))
              have f341 := ((f307.ext E301).keep K329)
              refine own_virtual go X334h hx hZ hh334 hown (hw _ (List.mem_of_getElem? (i := 37) rfl)) (hw _ (List.mem_of_getElem? (i := 38) rfl)) (notFace_of_selects (args := #[]) (mvT hZ (hw _ (List.mem_of_getElem? (i := 40) rfl)))) (hw _ (List.mem_of_getElem? (i := 40) rfl)) (hw _ (List.mem_of_getElem? (i := 39) rfl)) (hw _ (List.mem_of_getElem? (i := 3) rfl)) (hw _ (List.mem_of_getElem? (i := 41) rfl)) (by decide) (rm_eT l Z a0 hw b214 b191 d239 d206 bv av T329.heap n0 Z331 f335 f336 f337 f338 f339) 0 (by decide) (by decide) (by decide) (by decide) f341 (g := (mkF m 208 #[.val (.int u0), .val (.int u1), .val (.int u2), .val (.int u3), .val (.int u4), .val (.int k1), .val (.int av), .val (.int k2), .val (.int bv), .val (.ref b191), .val (.ref b214), .val (.int ex), .val (.int kd), .val (.ref b301), .val (.int (0 : Int32))] [(.ref b191), (.ref b214)])) rfl (by rw [hml]; rfl) [(.ref b191)] [] rfl (lenOf pd_9 rfl) rfl (by show 2 * 0 + _ ≤ _; exact Nat.le_of_eq rfl) (hb hby at_208) ?_
              intro T340 L340 v340 X340 q340
              obtain ⟨rfl, N340, hh340⟩ := q340
              obtain ⟨lc340, X340h, N340h⟩ := own_hide X340 (Fr.app N334h N340)
              show G (T340.setTop (mkF m 211 #[.val (.int u0), .val (.int u1), .val (.int u2), .val (.int u3), .val (.int u4), .val (.int k1), .val (.int av), .val (.int k2), .val (.int bv), .val (.ref b191), .val (.ref b214), .val (.int ex), .val (.int kd), .val (.ref b301), .val (.int (0 : Int32))] [(.int (if d206 = d239 ∧ av = bv then (1 : Int32) else 0))]))
              refine go _ _ (fun t' k' => XS.iload X340h.here hx rfl (hb hby at_211) rfl  k') ?_
              show G (T340.setTop (mkF m 213 #[.val (.int u0), .val (.int u1), .val (.int u2), .val (.int u3), .val (.int u4), .val (.int k1), .val (.int av), .val (.int k2), .val (.int bv), .val (.ref b191), .val (.ref b214), .val (.int ex), .val (.int kd), .val (.ref b301), .val (.int (0 : Int32))] [(.int ex), (.int (if d206 = d239 ∧ av = bv then (1 : Int32) else 0))]))
              refine go _ _ (fun t' k' => XS.icmpNo X340h.here hx rfl (hb hby at_213) rfl (Free.XT.ii_ne_f ((own_if (by rw [hd206, hd239, (own_tci nx01 nx02 nx03 nx12 nx13 nx23 hk1c hk2)])).trans hex.symm)) k') ?_
              show G (T340.setTop (mkF m 216 #[.val (.int u0), .val (.int u1), .val (.int u2), .val (.int u3), .val (.int u4), .val (.int k1), .val (.int av), .val (.int k2), .val (.int bv), .val (.ref b191), .val (.ref b214), .val (.int ex), .val (.int kd), .val (.ref b301), .val (.int (0 : Int32))] []))
              refine go _ _ (fun t' k' => XS.aload X340h.here hx rfl (hb hby at_216) rfl rfl  k') ?_
              show G (T340.setTop (mkF m 218 #[.val (.int u0), .val (.int u1), .val (.int u2), .val (.int u3), .val (.int u4), .val (.int k1), .val (.int av), .val (.int k2), .val (.int bv), .val (.ref b191), .val (.ref b214), .val (.int ex), .val (.int kd), .val (.ref b301), .val (.int (0 : Int32))] [(.ref b191)]))
              refine go _ _ (fun t' k' => XS.aload X340h.here hx rfl (hb hby at_218) rfl rfl  k') ?_
              show G (T340.setTop (mkF m 220 #[.val (.int u0), .val (.int u1), .val (.int u2), .val (.int u3), .val (.int u4), .val (.int k1), .val (.int av), .val (.int k2), .val (.int bv), .val (.ref b191), .val (.ref b214), .val (.int ex), .val (.int kd), .val (.ref b301), .val (.int (0 : Int32))] [(.ref b191), (.ref b191)]))
              refine own_virtual go X340h hx hZ hh340 hown (hw _ (List.mem_of_getElem? (i := 37) rfl)) (hw _ (List.mem_of_getElem? (i := 38) rfl)) (notFace_of_selects (args := #[]) (mvT hZ (hw _ (List.mem_of_getElem? (i := 40) rfl)))) (hw _ (List.mem_of_getElem? (i := 40) rfl)) (hw _ (List.mem_of_getElem? (i := 39) rfl)) (hw _ (List.mem_of_getElem? (i := 3) rfl)) (hw _ (List.mem_of_getElem? (i := 41) rfl)) (by decide) (rm_eT l Z a0 hw b191 b191 d206 d206 av av T329.heap n0 Z331 f335 f338 f339 f338 f339) 0 (by decide) (by decide) (by decide) (by decide) f335 (g := (mkF m 220 #[.val (.int u0), .val (.int u1), .val (.int u2), .val (.int u3), .val (.int u4), .val (.int k1), .val (.int av), .val (.int k2), .val (.int bv), .val (.ref b191), .val (.ref b214), .val (.int ex), .val (.int kd), .val (.ref b301), .val (.int (0 : Int32))] [(.ref b191), (.ref b191)])) rfl (by rw [hml]; rfl) [(.ref b191)] [] rfl (lenOf pd_9 rfl) rfl (by show 2 * 0 + _ ≤ _; exact Nat.le_of_eq rfl) (hb hby at_220) ?_
              intro T342 L342 v342 X342 q342
              obtain ⟨rfl, N342, hh342⟩ := q342
              obtain ⟨lc342, X342h, N342h⟩ := own_hide X342 (Fr.app N340h N342)
              show G (T342.setTop (mkF m 223 #[.val (.int u0), .val (.int u1), .val (.int u2), .val (.int u3), .val (.int u4), .val (.int k1), .val (.int av), .val (.int k2), .val (.int bv), .val (.ref b191), .val (.ref b214), .val (.int ex), .val (.int kd), .val (.ref b301), .val (.int (0 : Int32))] [(.int (if d206 = d206 ∧ av = av then (1 : Int32) else 0))]))
              refine go _ _ (fun t' k' => XS.ifNo X342h.here hx rfl (hb hby at_223) rfl (Free.XT.i0_eq_f (by simp)) k') ?_
              show G (T342.setTop (mkF m 226 #[.val (.int u0), .val (.int u1), .val (.int u2), .val (.int u3), .val (.int u4), .val (.int k1), .val (.int av), .val (.int k2), .val (.int bv), .val (.ref b191), .val (.ref b214), .val (.int ex), .val (.int kd), .val (.ref b301), .val (.int (0 : Int32))] []))
              refine go _ _ (fun t' k' => XS.iconst X342h.here hx rfl (hb hby at_226) k') ?_
              show G (T342.setTop (mkF m 227 #[.val (.int u0), .val (.int u1), .val (.int u2), .val (.int u3), .val (.int u4), .val (.int k1), .val (.int av), .val (.int k2), .val (.int bv), .val (.ref b191), .val (.ref b214), .val (.int ex), .val (.int kd), .val (.ref b301), .val (.int (0 : Int32))] [(.int (1 : Int32))]))
              refine go _ _ (fun t' k' => XS.goto X342h.here hx rfl (pc0 := 227) (pc' := 231) rfl (hb hby at_227) (by decide) (by decide) k') ?_
              show G (T342.setTop (mkF m 231 #[.val (.int u0), .val (.int u1), .val (.int u2), .val (.int u3), .val (.int u4), .val (.int k1), .val (.int av), .val (.int k2), .val (.int bv), .val (.ref b191), .val (.ref b214), .val (.int ex), .val (.int kd), .val (.ref b301), .val (.int (0 : Int32))] [(.int (1 : Int32))]))
              refine own_retZ rt X342h hx (t := .boolean) hret (by simp) (hb hby at_231) (by decide) (by decide) ?_
              refine ⟨(by rw [hh342]; exact Y332), ?_⟩
              exact ⟨rfl, N342h⟩
            · refine go _ _ (fun t' k' => XS.icmpYes X247.here hx rfl (pc0 := 138) (pc' := 171) rfl (hb hby at_138) rfl (Free.XT.ii_ne_t c274) (by decide) (by decide) k') ?_
              show G (T247.setTop (mkF m 171 #[.val (.int u0), .val (.int u1), .val (.int u2), .val (.int u3), .val (.int u4), .val (.int k1), .val (.int av), .val (.int k2), .val (.int bv), .val (.ref b191), .val (.ref b214), .val (.int ex), .val (.int kd), .unset, .unset] []))
              refine go _ _ (fun t' k' => XS.aload X247.here hx rfl (hb hby at_171) rfl rfl  k') ?_
              show G (T247.setTop (mkF m 173 #[.val (.int u0), .val (.int u1), .val (.int u2), .val (.int u3), .val (.int u4), .val (.int k1), .val (.int av), .val (.int k2), .val (.int bv), .val (.ref b191), .val (.ref b214), .val (.int ex), .val (.int kd), .unset, .unset] [(.ref b214)]))
              refine go _ _ (fun t' k' => XS.astore X247.here hx rfl (hb hby at_173) rfl rfl (l' := #[.val (.int u0), .val (.int u1), .val (.int u2), .val (.int u3), .val (.int u4), .val (.int k1), .val (.int av), .val (.int k2), .val (.int bv), .val (.ref b191), .val (.ref b214), .val (.int ex), .val (.int kd), .val (.ref b214), .unset]) rfl k') ?_
              show G (T247.setTop (mkF m 175 #[.val (.int u0), .val (.int u1), .val (.int u2), .val (.int u3), .val (.int u4), .val (.int k1), .val (.int av), .val (.int k2), .val (.int bv), .val (.ref b191), .val (.ref b214), .val (.int ex), .val (.int kd), .val (.ref b214), .unset] []))
              refine go _ _ (fun t' k' => XS.iload X247.here hx rfl (hb hby at_175) rfl  k') ?_
              show G (T247.setTop (mkF m 177 #[.val (.int u0), .val (.int u1), .val (.int u2), .val (.int u3), .val (.int u4), .val (.int k1), .val (.int av), .val (.int k2), .val (.int bv), .val (.ref b191), .val (.ref b214), .val (.int ex), .val (.int kd), .val (.ref b214), .unset] [(.int kd)]))
              refine go _ _ (fun t' k' => XS.ifNo X247.here hx rfl (hb hby at_177) rfl (Free.XT.i0_ne_f (own_k4z hkd c248 c256 c274)) k') ?_
              show G (T247.setTop (mkF m 180 #[.val (.int u0), .val (.int u1), .val (.int u2), .val (.int u3), .val (.int u4), .val (.int k1), .val (.int av), .val (.int k2), .val (.int bv), .val (.ref b191), .val (.ref b214), .val (.int ex), .val (.int kd), .val (.ref b214), .unset] []))
              refine go _ _ (fun t' k' => XS.iload X247.here hx rfl (hb hby at_180) rfl  k') ?_
              show G (T247.setTop (mkF m 182 #[.val (.int u0), .val (.int u1), .val (.int u2), .val (.int u3), .val (.int u4), .val (.int k1), .val (.int av), .val (.int k2), .val (.int bv), .val (.ref b191), .val (.ref b214), .val (.int ex), .val (.int kd), .val (.ref b214), .unset] [(.int ex)]))
              by_cases c343 : ex = (0 : Int32)
              · refine go _ _ (fun t' k' => XS.ifYes X247.here hx rfl (pc0 := 182) (pc' := 189) rfl (hb hby at_182) rfl (Free.XT.i0_eq_t c343) (by decide) (by decide) k') ?_
                show G (T247.setTop (mkF m 189 #[.val (.int u0), .val (.int u1), .val (.int u2), .val (.int u3), .val (.int u4), .val (.int k1), .val (.int av), .val (.int k2), .val (.int bv), .val (.ref b191), .val (.ref b214), .val (.int ex), .val (.int kd), .val (.ref b214), .unset] []))
                refine go _ _ (fun t' k' => XS.iconst X247.here hx rfl (hb hby at_189) k') ?_
                show G (T247.setTop (mkF m 190 #[.val (.int u0), .val (.int u1), .val (.int u2), .val (.int u3), .val (.int u4), .val (.int k1), .val (.int av), .val (.int k2), .val (.int bv), .val (.ref b191), .val (.ref b214), .val (.int ex), .val (.int kd), .val (.ref b214), .unset] [(.int (0 : Int32))]))
                refine go _ _ (fun t' k' => XS.istore X247.here hx rfl (hb hby at_190) rfl (l' := #[.val (.int u0), .val (.int u1), .val (.int u2), .val (.int u3), .val (.int u4), .val (.int k1), .val (.int av), .val (.int k2), .val (.int bv), .val (.ref b191), .val (.ref b214), .val (.int ex), .val (.int kd), .val (.ref b214), .val (.int (0 : Int32))]) rfl k') ?_
                show G (T247.setTop (mkF m 192 #[.val (.int u0), .val (.int u1), .val (.int u2), .val (.int u3), .val (.int u4), .val (.int k1), .val (.int av), .val (.int k2), .val (.int bv), .val (.ref b191), .val (.ref b214), .val (.int ex), .val (.int kd), .val (.ref b214), .val (.int (0 : Int32))] []))
                refine go _ _ (fun t' k' => XS.aload X247.here hx rfl (hb hby at_192) rfl rfl  k') ?_
                show G (T247.setTop (mkF m 194 #[.val (.int u0), .val (.int u1), .val (.int u2), .val (.int u3), .val (.int u4), .val (.int k1), .val (.int av), .val (.int k2), .val (.int bv), .val (.ref b191), .val (.ref b214), .val (.int ex), .val (.int kd), .val (.ref b214), .val (.int (0 : Int32))] [(.ref b191)]))
                refine go _ _ (fun t' k' => XS.aload X247.here hx rfl (hb hby at_194) rfl rfl  k') ?_
                show G (T247.setTop (mkF m 196 #[.val (.int u0), .val (.int u1), .val (.int u2), .val (.int u3), .val (.int u4), .val (.int k1), .val (.int av), .val (.int k2), .val (.int bv), .val (.ref b191), .val (.ref b214), .val (.int ex), .val (.int kd), .val (.ref b214), .val (.int (0 : Int32))] [(.ref b214), (.ref b191)]))
                have f344 := (A214.keep K244)
                have f345 := ((Fa211.ext E214).keep K244 (ninS ne217 nin0))
                have f346 := ((Fb211.ext E214).keep K244 (ninS ne217 nin0))
                have f348 := ((f218.ext E214).keep K244)
                refine own_virtual go X247 hx hZ e247 hown (hw _ (List.mem_of_getElem? (i := 37) rfl)) (hw _ (List.mem_of_getElem? (i := 38) rfl)) (notFace_of_selects (args := #[]) (mvT hZ (hw _ (List.mem_of_getElem? (i := 40) rfl)))) (hw _ (List.mem_of_getElem? (i := 40) rfl)) (hw _ (List.mem_of_getElem? (i := 39) rfl)) (hw _ (List.mem_of_getElem? (i := 3) rfl)) (hw _ (List.mem_of_getElem? (i := 41) rfl)) (by decide) (rm_eT l Z a0 hw b191 b214 d206 d239 av bv T244.heap n0 Z246 f344 f345 f346 Fa244 Fb244) 0 (by decide) (by decide) (by decide) (by decide) f348 (g := (mkF m 196 #[.val (.int u0), .val (.int u1), .val (.int u2), .val (.int u3), .val (.int u4), .val (.int k1), .val (.int av), .val (.int k2), .val (.int bv), .val (.ref b191), .val (.ref b214), .val (.int ex), .val (.int kd), .val (.ref b214), .val (.int (0 : Int32))] [(.ref b214), (.ref b191)])) rfl (by rw [hml]; rfl) [(.ref b214)] [] rfl (lenOf pd_9 rfl) rfl (by show 2 * 0 + _ ≤ _; exact Nat.le_of_eq rfl) (hb hby at_196) ?_
                intro T347 L347 v347 X347 q347
                obtain ⟨rfl, N347, hh347⟩ := q347
                obtain ⟨lc347, X347h, N347h⟩ := own_hide X347 (Fr.app N247j N347)
                show G (T347.setTop (mkF m 199 #[.val (.int u0), .val (.int u1), .val (.int u2), .val (.int u3), .val (.int u4), .val (.int k1), .val (.int av), .val (.int k2), .val (.int bv), .val (.ref b191), .val (.ref b214), .val (.int ex), .val (.int kd), .val (.ref b214), .val (.int (0 : Int32))] [(.int (if d239 = d206 ∧ bv = av then (1 : Int32) else 0))]))
                refine go _ _ (fun t' k' => XS.iload X347h.here hx rfl (hb hby at_199) rfl  k') ?_
                show G (T347.setTop (mkF m 201 #[.val (.int u0), .val (.int u1), .val (.int u2), .val (.int u3), .val (.int u4), .val (.int k1), .val (.int av), .val (.int k2), .val (.int bv), .val (.ref b191), .val (.ref b214), .val (.int ex), .val (.int kd), .val (.ref b214), .val (.int (0 : Int32))] [(.int (0 : Int32)), (.int (if d239 = d206 ∧ bv = av then (1 : Int32) else 0))]))
                refine go _ _ (fun t' k' => XS.icmpNo X347h.here hx rfl (hb hby at_201) rfl (Free.XT.ii_ne_f (((own_if (by rw [hd239, hd206, (own_tci nx01 nx02 nx03 nx12 nx13 nx23 hk2 hk1c)]; exact ⟨fun z => ⟨z.1.symm, z.2.symm⟩, fun z => ⟨z.1.symm, z.2.symm⟩⟩)).trans hex.symm).trans c343)) k') ?_
                show G (T347.setTop (mkF m 204 #[.val (.int u0), .val (.int u1), .val (.int u2), .val (.int u3), .val (.int u4), .val (.int k1), .val (.int av), .val (.int k2), .val (.int bv), .val (.ref b191), .val (.ref b214), .val (.int ex), .val (.int kd), .val (.ref b214), .val (.int (0 : Int32))] []))
                refine go _ _ (fun t' k' => XS.aload X347h.here hx rfl (hb hby at_204) rfl rfl  k') ?_
                show G (T347.setTop (mkF m 206 #[.val (.int u0), .val (.int u1), .val (.int u2), .val (.int u3), .val (.int u4), .val (.int k1), .val (.int av), .val (.int k2), .val (.int bv), .val (.ref b191), .val (.ref b214), .val (.int ex), .val (.int kd), .val (.ref b214), .val (.int (0 : Int32))] [(.ref b214)]))
                refine go _ _ (fun t' k' => XS.aload X347h.here hx rfl (hb hby at_206) rfl rfl  k') ?_
                show G (T347.setTop (mkF m 208 #[.val (.int u0), .val (.int u1), .val (.int u2), .val (.int u3), .val (.int u4), .val (.int k1), .val (.int av), .val (.int k2), .val (.int bv), .val (.ref b191), .val (.ref b214), .val (.int ex), .val (.int kd), .val (.ref b214), .val (.int (0 : Int32))] [(.ref b191), (.ref b214)]))
                refine own_virtual go X347h hx hZ hh347 hown (hw _ (List.mem_of_getElem? (i := 37) rfl)) (hw _ (List.mem_of_getElem? (i := 38) rfl)) (notFace_of_selects (args := #[]) (mvT hZ (hw _ (List.mem_of_getElem? (i := 40) rfl)))) (hw _ (List.mem_of_getElem? (i := 40) rfl)) (hw _ (List.mem_of_getElem? (i := 39) rfl)) (hw _ (List.mem_of_getElem? (i := 3) rfl)) (hw _ (List.mem_of_getElem? (i := 41) rfl)) (by decide) (rm_eT l Z a0 hw b214 b191 d239 d206 bv av T244.heap n0 Z246 f348 Fa244 Fb244 f345 f346) 0 (by decide) (by decide) (by decide) (by decide) f344 (g := (mkF m 208 #[.val (.int u0), .val (.int u1), .val (.int u2), .val (.int u3), .val (.int u4), .val (.int k1), .val (.int av), .val (.int k2), .val (.int bv), .val (.ref b191), .val (.ref b214), .val (.int ex), .val (.int kd), .val (.ref b214), .val (.int (0 : Int32))] [(.ref b191), (.ref b214)])) rfl (by rw [hml]; rfl) [(.ref b191)] [] rfl (lenOf pd_9 rfl) rfl (by show 2 * 0 + _ ≤ _; exact Nat.le_of_eq rfl) (hb hby at_208) ?_
                intro T349 L349 v349 X349 q349
                obtain ⟨rfl, N349, hh349⟩ := q349
                obtain ⟨lc349, X349h, N349h⟩ := own_hide X349 (Fr.app N347h N349)
                show G (T349.setTop (mkF m 211 #[.val (.int u0), .val (.int u1), .val (.int u2), .val (.int u3), .val (.int u4), .val (.int k1), .val (.int av), .val (.int k2), .val (.int bv), .val (.ref b191), .val (.ref b214), .val (.int ex), .val (.int kd), .val (.ref b214), .val (.int (0 : Int32))] [(.int (if d206 = d239 ∧ av = bv then (1 : Int32) else 0))]))
                refine go _ _ (fun t' k' => XS.iload X349h.here hx rfl (hb hby at_211) rfl  k') ?_
                show G (T349.setTop (mkF m 213 #[.val (.int u0), .val (.int u1), .val (.int u2), .val (.int u3), .val (.int u4), .val (.int k1), .val (.int av), .val (.int k2), .val (.int bv), .val (.ref b191), .val (.ref b214), .val (.int ex), .val (.int kd), .val (.ref b214), .val (.int (0 : Int32))] [(.int ex), (.int (if d206 = d239 ∧ av = bv then (1 : Int32) else 0))]))
                refine go _ _ (fun t' k' => XS.icmpNo X349h.here hx rfl (hb hby at_213) rfl (Free.XT.ii_ne_f ((own_if (by rw [hd206, hd239, (own_tci nx01 nx02 nx03 nx12 nx13 nx23 hk1c hk2)])).trans hex.symm)) k') ?_
                show G (T349.setTop (mkF m 216 #[.val (.int u0), .val (.int u1), .val (.int u2), .val (.int u3), .val (.int u4), .val (.int k1), .val (.int av), .val (.int k2), .val (.int bv), .val (.ref b191), .val (.ref b214), .val (.int ex), .val (.int kd), .val (.ref b214), .val (.int (0 : Int32))] []))
                refine go _ _ (fun t' k' => XS.aload X349h.here hx rfl (hb hby at_216) rfl rfl  k') ?_
                show G (T349.setTop (mkF m 218 #[.val (.int u0), .val (.int u1), .val (.int u2), .val (.int u3), .val (.int u4), .val (.int k1), .val (.int av), .val (.int k2), .val (.int bv), .val (.ref b191), .val (.ref b214), .val (.int ex), .val (.int kd), .val (.ref b214), .val (.int (0 : Int32))] [(.ref b191)]))
                refine go _ _ (fun t' k' => XS.aload X349h.here hx rfl (hb hby at_218) rfl rfl  k') ?_
                show G (T349.setTop (mkF m 220 #[.val (.int u0), .val (.int u1), .val (.int u2), .val (.int u3), .val (.int u4), .val (.int k1), .val (.int av), .val (.int k2), .val (.int bv), .val (.ref b191), .val (.ref b214), .val (.int ex), .val (.int kd), .val (.ref b214), .val (.int (0 : Int32))] [(.ref b191), (.ref b191)]))
                refine own_virtual go X349h hx hZ hh349 hown (hw _ (List.mem_of_getElem? (i := 37) rfl)) (hw _ (List.mem_of_getElem? (i := 38) rfl)) (notFace_of_selects (args := #[]) (mvT hZ (hw _ (List.mem_of_getElem? (i := 40) rfl)))) (hw _ (List.mem_of_getElem? (i := 40) rfl)) (hw _ (List.mem_of_getElem? (i := 39) rfl)) (hw _ (List.mem_of_getElem? (i := 3) rfl)) (hw _ (List.mem_of_getElem? (i := 41) rfl)) (by decide) (rm_eT l Z a0 hw b191 b191 d206 d206 av av T244.heap n0 Z246 f348 f345 f346 f345 f346) 0 (by decide) (by decide) (by decide) (by decide) f348 (g := (mkF m 220 #[.val (.int u0), .val (.int u1), .val (.int u2), .val (.int u3), .val (.int u4), .val (.int k1), .val (.int av), .val (.int k2), .val (.int bv), .val (.ref b191), .val (.ref b214), .val (.int ex), .val (.int kd), .val (.ref b214), .val (.int (0 : Int32))] [(.ref b191), (.ref b191)])) rfl (by rw [hml]; rfl) [(.ref b191)] [] rfl (lenOf pd_9 rfl) rfl (by show 2 * 0 + _ ≤ _; exact Nat.le_of_eq rfl) (hb hby at_220) ?_
                intro T350 L350 v350 X350 q350
                obtain ⟨rfl, N350, hh350⟩ := q350
                obtain ⟨lc350, X350h, N350h⟩ := own_hide X350 (Fr.app N349h N350)
                show G (T350.setTop (mkF m 223 #[.val (.int u0), .val (.int u1), .val (.int u2), .val (.int u3), .val (.int u4), .val (.int k1), .val (.int av), .val (.int k2), .val (.int bv), .val (.ref b191), .val (.ref b214), .val (.int ex), .val (.int kd), .val (.ref b214), .val (.int (0 : Int32))] [(.int (if d206 = d206 ∧ av = av then (1 : Int32) else 0))]))
                refine go _ _ (fun t' k' => XS.ifNo X350h.here hx rfl (hb hby at_223) rfl (Free.XT.i0_eq_f (by simp)) k') ?_
                show G (T350.setTop (mkF m 226 #[.val (.int u0), .val (.int u1), .val (.int u2), .val (.int u3), .val (.int u4), .val (.int k1), .val (.int av), .val (.int k2), .val (.int bv), .val (.ref b191), .val (.ref b214), .val (.int ex), .val (.int kd), .val (.ref b214), .val (.int (0 : Int32))] []))
                refine go _ _ (fun t' k' => XS.iconst X350h.here hx rfl (hb hby at_226) k') ?_
                show G (T350.setTop (mkF m 227 #[.val (.int u0), .val (.int u1), .val (.int u2), .val (.int u3), .val (.int u4), .val (.int k1), .val (.int av), .val (.int k2), .val (.int bv), .val (.ref b191), .val (.ref b214), .val (.int ex), .val (.int kd), .val (.ref b214), .val (.int (0 : Int32))] [(.int (1 : Int32))]))
                refine go _ _ (fun t' k' => XS.goto X350h.here hx rfl (pc0 := 227) (pc' := 231) rfl (hb hby at_227) (by decide) (by decide) k') ?_
                show G (T350.setTop (mkF m 231 #[.val (.int u0), .val (.int u1), .val (.int u2), .val (.int u3), .val (.int u4), .val (.int k1), .val (.int av), .val (.int k2), .val (.int bv), .val (.ref b191), .val (.ref b214), .val (.int ex), .val (.int kd), .val (.ref b214), .val (.int (0 : Int32))] [(.int (1 : Int32))]))
                refine own_retZ rt X350h hx (t := .boolean) hret (by simp) (hb hby at_231) (by decide) (by decide) ?_
                refine ⟨(by rw [hh350]; exact Y244), ?_⟩
                exact ⟨rfl, N350h⟩
              · refine go _ _ (fun t' k' => XS.ifNo X247.here hx rfl (hb hby at_182) rfl (Free.XT.i0_eq_f c343) k') ?_
                show G (T247.setTop (mkF m 185 #[.val (.int u0), .val (.int u1), .val (.int u2), .val (.int u3), .val (.int u4), .val (.int k1), .val (.int av), .val (.int k2), .val (.int bv), .val (.ref b191), .val (.ref b214), .val (.int ex), .val (.int kd), .val (.ref b214), .unset] []))
                refine go _ _ (fun t' k' => XS.iconst X247.here hx rfl (hb hby at_185) k') ?_
                show G (T247.setTop (mkF m 186 #[.val (.int u0), .val (.int u1), .val (.int u2), .val (.int u3), .val (.int u4), .val (.int k1), .val (.int av), .val (.int k2), .val (.int bv), .val (.ref b191), .val (.ref b214), .val (.int ex), .val (.int kd), .val (.ref b214), .unset] [(.int (1 : Int32))]))
                refine go _ _ (fun t' k' => XS.goto X247.here hx rfl (pc0 := 186) (pc' := 190) rfl (hb hby at_186) (by decide) (by decide) k') ?_
                show G (T247.setTop (mkF m 190 #[.val (.int u0), .val (.int u1), .val (.int u2), .val (.int u3), .val (.int u4), .val (.int k1), .val (.int av), .val (.int k2), .val (.int bv), .val (.ref b191), .val (.ref b214), .val (.int ex), .val (.int kd), .val (.ref b214), .unset] [(.int (1 : Int32))]))
                refine go _ _ (fun t' k' => XS.istore X247.here hx rfl (hb hby at_190) rfl (l' := #[.val (.int u0), .val (.int u1), .val (.int u2), .val (.int u3), .val (.int u4), .val (.int k1), .val (.int av), .val (.int k2), .val (.int bv), .val (.ref b191), .val (.ref b214), .val (.int ex), .val (.int kd), .val (.ref b214), .val (.int (1 : Int32))]) rfl k') ?_
                show G (T247.setTop (mkF m 192 #[.val (.int u0), .val (.int u1), .val (.int u2), .val (.int u3), .val (.int u4), .val (.int k1), .val (.int av), .val (.int k2), .val (.int bv), .val (.ref b191), .val (.ref b214), .val (.int ex), .val (.int kd), .val (.ref b214), .val (.int (1 : Int32))] []))
                refine go _ _ (fun t' k' => XS.aload X247.here hx rfl (hb hby at_192) rfl rfl  k') ?_
                show G (T247.setTop (mkF m 194 #[.val (.int u0), .val (.int u1), .val (.int u2), .val (.int u3), .val (.int u4), .val (.int k1), .val (.int av), .val (.int k2), .val (.int bv), .val (.ref b191), .val (.ref b214), .val (.int ex), .val (.int kd), .val (.ref b214), .val (.int (1 : Int32))] [(.ref b191)]))
                refine go _ _ (fun t' k' => XS.aload X247.here hx rfl (hb hby at_194) rfl rfl  k') ?_
                show G (T247.setTop (mkF m 196 #[.val (.int u0), .val (.int u1), .val (.int u2), .val (.int u3), .val (.int u4), .val (.int k1), .val (.int av), .val (.int k2), .val (.int bv), .val (.ref b191), .val (.ref b214), .val (.int ex), .val (.int kd), .val (.ref b214), .val (.int (1 : Int32))] [(.ref b214), (.ref b191)]))
                have f351 := (A214.keep K244)
                have f352 := ((Fa211.ext E214).keep K244 (ninS ne217 nin0))
                have f353 := ((Fb211.ext E214).keep K244 (ninS ne217 nin0))
                have f355 := ((f218.ext E214).keep K244)
                refine own_virtual go X247 hx hZ e247 hown (hw _ (List.mem_of_getElem? (i := 37) rfl)) (hw _ (List.mem_of_getElem? (i := 38) rfl)) (notFace_of_selects (args := #[]) (mvT hZ (hw _ (List.mem_of_getElem? (i := 40) rfl)))) (hw _ (List.mem_of_getElem? (i := 40) rfl)) (hw _ (List.mem_of_getElem? (i := 39) rfl)) (hw _ (List.mem_of_getElem? (i := 3) rfl)) (hw _ (List.mem_of_getElem? (i := 41) rfl)) (by decide) (rm_eT l Z a0 hw b191 b214 d206 d239 av bv T244.heap n0 Z246 f351 f352 f353 Fa244 Fb244) 0 (by decide) (by decide) (by decide) (by decide) f355 (g := (mkF m 196 #[.val (.int u0), .val (.int u1), .val (.int u2), .val (.int u3), .val (.int u4), .val (.int k1), .val (.int av), .val (.int k2), .val (.int bv), .val (.ref b191), .val (.ref b214), .val (.int ex), .val (.int kd), .val (.ref b214), .val (.int (1 : Int32))] [(.ref b214), (.ref b191)])) rfl (by rw [hml]; rfl) [(.ref b214)] [] rfl (lenOf pd_9 rfl) rfl (by show 2 * 0 + _ ≤ _; exact Nat.le_of_eq rfl) (hb hby at_196) ?_
                intro T354 L354 v354 X354 q354
                obtain ⟨rfl, N354, hh354⟩ := q354
                obtain ⟨lc354, X354h, N354h⟩ := own_hide X354 (Fr.app N247j N354)
                show G (T354.setTop (mkF m 199 #[.val (.int u0), .val (.int u1), .val (.int u2), .val (.int u3), .val (.int u4), .val (.int k1), .val (.int av), .val (.int k2), .val (.int bv), .val (.ref b191), .val (.ref b214), .val (.int ex), .val (.int kd), .val (.ref b214), .val (.int (1 : Int32))] [(.int (if d239 = d206 ∧ bv = av then (1 : Int32) else 0))]))
                refine go _ _ (fun t' k' => XS.iload X354h.here hx rfl (hb hby at_199) rfl  k') ?_
                show G (T354.setTop (mkF m 201 #[.val (.int u0), .val (.int u1), .val (.int u2), .val (.int u3), .val (.int u4), .val (.int k1), .val (.int av), .val (.int k2), .val (.int bv), .val (.ref b191), .val (.ref b214), .val (.int ex), .val (.int kd), .val (.ref b214), .val (.int (1 : Int32))] [(.int (1 : Int32)), (.int (if d239 = d206 ∧ bv = av then (1 : Int32) else 0))]))
                refine go _ _ (fun t' k' => XS.icmpNo X354h.here hx rfl (hb hby at_201) rfl (Free.XT.ii_ne_f (((own_if (by rw [hd239, hd206, (own_tci nx01 nx02 nx03 nx12 nx13 nx23 hk2 hk1c)]; exact ⟨fun z => ⟨z.1.symm, z.2.symm⟩, fun z => ⟨z.1.symm, z.2.symm⟩⟩)).trans hex.symm).trans (own_e1 hex c343))) k') ?_
                show G (T354.setTop (mkF m 204 #[.val (.int u0), .val (.int u1), .val (.int u2), .val (.int u3), .val (.int u4), .val (.int k1), .val (.int av), .val (.int k2), .val (.int bv), .val (.ref b191), .val (.ref b214), .val (.int ex), .val (.int kd), .val (.ref b214), .val (.int (1 : Int32))] []))
                refine go _ _ (fun t' k' => XS.aload X354h.here hx rfl (hb hby at_204) rfl rfl  k') ?_
                show G (T354.setTop (mkF m 206 #[.val (.int u0), .val (.int u1), .val (.int u2), .val (.int u3), .val (.int u4), .val (.int k1), .val (.int av), .val (.int k2), .val (.int bv), .val (.ref b191), .val (.ref b214), .val (.int ex), .val (.int kd), .val (.ref b214), .val (.int (1 : Int32))] [(.ref b214)]))
                refine go _ _ (fun t' k' => XS.aload X354h.here hx rfl (hb hby at_206) rfl rfl  k') ?_
                show G (T354.setTop (mkF m 208 #[.val (.int u0), .val (.int u1), .val (.int u2), .val (.int u3), .val (.int u4), .val (.int k1), .val (.int av), .val (.int k2), .val (.int bv), .val (.ref b191), .val (.ref b214), .val (.int ex), .val (.int kd), .val (.ref b214), .val (.int (1 : Int32))] [(.ref b191), (.ref b214)]))
                refine own_virtual go X354h hx hZ hh354 hown (hw _ (List.mem_of_getElem? (i := 37) rfl)) (hw _ (List.mem_of_getElem? (i := 38) rfl)) (notFace_of_selects (args := #[]) (mvT hZ (hw _ (List.mem_of_getElem? (i := 40) rfl)))) (hw _ (List.mem_of_getElem? (i := 40) rfl)) (hw _ (List.mem_of_getElem? (i := 39) rfl)) (hw _ (List.mem_of_getElem? (i := 3) rfl)) (hw _ (List.mem_of_getElem? (i := 41) rfl)) (by decide) (rm_eT l Z a0 hw b214 b191 d239 d206 bv av T244.heap n0 Z246 f355 Fa244 Fb244 f352 f353) 0 (by decide) (by decide) (by decide) (by decide) f351 (g := (mkF m 208 #[.val (.int u0), .val (.int u1), .val (.int u2), .val (.int u3), .val (.int u4), .val (.int k1), .val (.int av), .val (.int k2), .val (.int bv), .val (.ref b191), .val (.ref b214), .val (.int ex), .val (.int kd), .val (.ref b214), .val (.int (1 : Int32))] [(.ref b191), (.ref b214)])) rfl (by rw [hml]; rfl) [(.ref b191)] [] rfl (lenOf pd_9 rfl) rfl (by show 2 * 0 + _ ≤ _; exact Nat.le_of_eq rfl) (hb hby at_208) ?_
                intro T356 L356 v356 X356 q356
                obtain ⟨rfl, N356, hh356⟩ := q356
                obtain ⟨lc356, X356h, N356h⟩ := own_hide X356 (Fr.app N354h N356)
                show G (T356.setTop (mkF m 211 #[.val (.int u0), .val (.int u1), .val (.int u2), .val (.int u3), .val (.int u4), .val (.int k1), .val (.int av), .val (.int k2), .val (.int bv), .val (.ref b191), .val (.ref b214), .val (.int ex), .val (.int kd), .val (.ref b214), .val (.int (1 : Int32))] [(.int (if d206 = d239 ∧ av = bv then (1 : Int32) else 0))]))
                refine go _ _ (fun t' k' => XS.iload X356h.here hx rfl (hb hby at_211) rfl  k') ?_
                show G (T356.setTop (mkF m 213 #[.val (.int u0), .val (.int u1), .val (.int u2), .val (.int u3), .val (.int u4), .val (.int k1), .val (.int av), .val (.int k2), .val (.int bv), .val (.ref b191), .val (.ref b214), .val (.int ex), .val (.int kd), .val (.ref b214), .val (.int (1 : Int32))] [(.int ex), (.int (if d206 = d239 ∧ av = bv then (1 : Int32) else 0))]))
                refine go _ _ (fun t' k' => XS.icmpNo X356h.here hx rfl (hb hby at_213) rfl (Free.XT.ii_ne_f ((own_if (by rw [hd206, hd239, (own_tci nx01 nx02 nx03 nx12 nx13 nx23 hk1c hk2)])).trans hex.symm)) k') ?_
                show G (T356.setTop (mkF m 216 #[.val (.int u0), .val (.int u1), .val (.int u2), .val (.int u3), .val (.int u4), .val (.int k1), .val (.int av), .val (.int k2), .val (.int bv), .val (.ref b191), .val (.ref b214), .val (.int ex), .val (.int kd), .val (.ref b214), .val (.int (1 : Int32))] []))
                refine go _ _ (fun t' k' => XS.aload X356h.here hx rfl (hb hby at_216) rfl rfl  k') ?_
                show G (T356.setTop (mkF m 218 #[.val (.int u0), .val (.int u1), .val (.int u2), .val (.int u3), .val (.int u4), .val (.int k1), .val (.int av), .val (.int k2), .val (.int bv), .val (.ref b191), .val (.ref b214), .val (.int ex), .val (.int kd), .val (.ref b214), .val (.int (1 : Int32))] [(.ref b191)]))
                refine go _ _ (fun t' k' => XS.aload X356h.here hx rfl (hb hby at_218) rfl rfl  k') ?_
                show G (T356.setTop (mkF m 220 #[.val (.int u0), .val (.int u1), .val (.int u2), .val (.int u3), .val (.int u4), .val (.int k1), .val (.int av), .val (.int k2), .val (.int bv), .val (.ref b191), .val (.ref b214), .val (.int ex), .val (.int kd), .val (.ref b214), .val (.int (1 : Int32))] [(.ref b191), (.ref b191)]))
                refine own_virtual go X356h hx hZ hh356 hown (hw _ (List.mem_of_getElem? (i := 37) rfl)) (hw _ (List.mem_of_getElem? (i := 38) rfl)) (notFace_of_selects (args := #[]) (mvT hZ (hw _ (List.mem_of_getElem? (i := 40) rfl)))) (hw _ (List.mem_of_getElem? (i := 40) rfl)) (hw _ (List.mem_of_getElem? (i := 39) rfl)) (hw _ (List.mem_of_getElem? (i := 3) rfl)) (hw _ (List.mem_of_getElem? (i := 41) rfl)) (by decide) (rm_eT l Z a0 hw b191 b191 d206 d206 av av T244.heap n0 Z246 f355 f352 f353 f352 f353) 0 (by decide) (by decide) (by decide) (by decide) f355 (g := (mkF m 220 #[.val (.int u0), .val (.int u1), .val (.int u2), .val (.int u3), .val (.int u4), .val (.int k1), .val (.int av), .val (.int k2), .val (.int bv), .val (.ref b191), .val (.ref b214), .val (.int ex), .val (.int kd), .val (.ref b214), .val (.int (1 : Int32))] [(.ref b191), (.ref b191)])) rfl (by rw [hml]; rfl) [(.ref b191)] [] rfl (lenOf pd_9 rfl) rfl (by show 2 * 0 + _ ≤ _; exact Nat.le_of_eq rfl) (hb hby at_220) ?_
                intro T357 L357 v357 X357 q357
                obtain ⟨rfl, N357, hh357⟩ := q357
                obtain ⟨lc357, X357h, N357h⟩ := own_hide X357 (Fr.app N356h N357)
                show G (T357.setTop (mkF m 223 #[.val (.int u0), .val (.int u1), .val (.int u2), .val (.int u3), .val (.int u4), .val (.int k1), .val (.int av), .val (.int k2), .val (.int bv), .val (.ref b191), .val (.ref b214), .val (.int ex), .val (.int kd), .val (.ref b214), .val (.int (1 : Int32))] [(.int (if d206 = d206 ∧ av = av then (1 : Int32) else 0))]))
                refine go _ _ (fun t' k' => XS.ifNo X357h.here hx rfl (hb hby at_223) rfl (Free.XT.i0_eq_f (by simp)) k') ?_
                show G (T357.setTop (mkF m 226 #[.val (.int u0), .val (.int u1), .val (.int u2), .val (.int u3), .val (.int u4), .val (.int k1), .val (.int av), .val (.int k2), .val (.int bv), .val (.ref b191), .val (.ref b214), .val (.int ex), .val (.int kd), .val (.ref b214), .val (.int (1 : Int32))] []))
                refine go _ _ (fun t' k' => XS.iconst X357h.here hx rfl (hb hby at_226) k') ?_
                show G (T357.setTop (mkF m 227 #[.val (.int u0), .val (.int u1), .val (.int u2), .val (.int u3), .val (.int u4), .val (.int k1), .val (.int av), .val (.int k2), .val (.int bv), .val (.ref b191), .val (.ref b214), .val (.int ex), .val (.int kd), .val (.ref b214), .val (.int (1 : Int32))] [(.int (1 : Int32))]))
                refine go _ _ (fun t' k' => XS.goto X357h.here hx rfl (pc0 := 227) (pc' := 231) rfl (hb hby at_227) (by decide) (by decide) k') ?_
                show G (T357.setTop (mkF m 231 #[.val (.int u0), .val (.int u1), .val (.int u2), .val (.int u3), .val (.int u4), .val (.int k1), .val (.int av), .val (.int k2), .val (.int bv), .val (.ref b191), .val (.ref b214), .val (.int ex), .val (.int kd), .val (.ref b214), .val (.int (1 : Int32))] [(.int (1 : Int32))]))
                refine own_retZ rt X357h hx (t := .boolean) hret (by simp) (hb hby at_231) (by decide) (by decide) ?_
                refine ⟨(by rw [hh357]; exact Y244), ?_⟩
                exact ⟨rfl, N357h⟩
      refine go _ _ (fun t' k' => XS.iload X244h.here hx rfl (hb hby at_78) rfl  k') ?_
      show G (T244.setTop (mkF m 80 #[.val (.int u0), .val (.int u1), .val (.int u2), .val (.int u3), .val (.int u4), .val (.int k1), .val (.int av), .val (.int k2), .val (.int bv), .val (.ref b191), .val (.ref b214), .unset, .unset, .unset, .unset] [(.int k1)]))
      refine go _ _ (fun t' k' => XS.iload X244h.here hx rfl (hb hby at_80) rfl  k') ?_
      show G (T244.setTop (mkF m 82 #[.val (.int u0), .val (.int u1), .val (.int u2), .val (.int u3), .val (.int u4), .val (.int k1), .val (.int av), .val (.int k2), .val (.int bv), .val (.ref b191), .val (.ref b214), .unset, .unset, .unset, .unset] [(.int k2), (.int k1)]))
      by_cases c358 : k1 = k2
      · refine go _ _ (fun t' k' => XS.icmpNo X244h.here hx rfl (hb hby at_82) rfl (Free.XT.ii_ne_f c358) k') ?_
        show G (T244.setTop (mkF m 85 #[.val (.int u0), .val (.int u1), .val (.int u2), .val (.int u3), .val (.int u4), .val (.int k1), .val (.int av), .val (.int k2), .val (.int bv), .val (.ref b191), .val (.ref b214), .unset, .unset, .unset, .unset] []))
        refine go _ _ (fun t' k' => XS.iload X244h.here hx rfl (hb hby at_85) rfl  k') ?_
        show G (T244.setTop (mkF m 87 #[.val (.int u0), .val (.int u1), .val (.int u2), .val (.int u3), .val (.int u4), .val (.int k1), .val (.int av), .val (.int k2), .val (.int bv), .val (.ref b191), .val (.ref b214), .unset, .unset, .unset, .unset] [(.int av)]))
        refine go _ _ (fun t' k' => XS.iload X244h.here hx rfl (hb hby at_87) rfl  k') ?_
        show G (T244.setTop (mkF m 89 #[.val (.int u0), .val (.int u1), .val (.int u2), .val (.int u3), .val (.int u4), .val (.int k1), .val (.int av), .val (.int k2), .val (.int bv), .val (.ref b191), .val (.ref b214), .unset, .unset, .unset, .unset] [(.int bv), (.int av)]))
        by_cases c359 : av = bv
        · refine go _ _ (fun t' k' => XS.icmpNo X244h.here hx rfl (hb hby at_89) rfl (Free.XT.ii_ne_f c359) k') ?_
          show G (T244.setTop (mkF m 92 #[.val (.int u0), .val (.int u1), .val (.int u2), .val (.int u3), .val (.int u4), .val (.int k1), .val (.int av), .val (.int k2), .val (.int bv), .val (.ref b191), .val (.ref b214), .unset, .unset, .unset, .unset] []))
          refine go _ _ (fun t' k' => XS.iconst X244h.here hx rfl (hb hby at_92) k') ?_
          show G (T244.setTop (mkF m 93 #[.val (.int u0), .val (.int u1), .val (.int u2), .val (.int u3), .val (.int u4), .val (.int k1), .val (.int av), .val (.int k2), .val (.int bv), .val (.ref b191), .val (.ref b214), .unset, .unset, .unset, .unset] [(.int (1 : Int32))]))
          refine go _ _ (fun t' k' => XS.goto X244h.here hx rfl (pc0 := 93) (pc' := 97) rfl (hb hby at_93) (by decide) (by decide) k') ?_
          show G (T244.setTop (mkF m 97 #[.val (.int u0), .val (.int u1), .val (.int u2), .val (.int u3), .val (.int u4), .val (.int k1), .val (.int av), .val (.int k2), .val (.int bv), .val (.ref b191), .val (.ref b214), .unset, .unset, .unset, .unset] [(.int (1 : Int32))]))
          exact je T244 _ X244h rfl N244h _ (by simp [c358, c359])
        · refine go _ _ (fun t' k' => XS.icmpYes X244h.here hx rfl (pc0 := 89) (pc' := 96) rfl (hb hby at_89) rfl (Free.XT.ii_ne_t c359) (by decide) (by decide) k') ?_
          show G (T244.setTop (mkF m 96 #[.val (.int u0), .val (.int u1), .val (.int u2), .val (.int u3), .val (.int u4), .val (.int k1), .val (.int av), .val (.int k2), .val (.int bv), .val (.ref b191), .val (.ref b214), .unset, .unset, .unset, .unset] []))
          refine go _ _ (fun t' k' => XS.iconst X244h.here hx rfl (hb hby at_96) k') ?_
          show G (T244.setTop (mkF m 97 #[.val (.int u0), .val (.int u1), .val (.int u2), .val (.int u3), .val (.int u4), .val (.int k1), .val (.int av), .val (.int k2), .val (.int bv), .val (.ref b191), .val (.ref b214), .unset, .unset, .unset, .unset] [(.int (0 : Int32))]))
          exact je T244 _ X244h rfl N244h _ (by simp [c358, c359])
      · refine go _ _ (fun t' k' => XS.icmpYes X244h.here hx rfl (pc0 := 82) (pc' := 96) rfl (hb hby at_82) rfl (Free.XT.ii_ne_t c358) (by decide) (by decide) k') ?_
        show G (T244.setTop (mkF m 96 #[.val (.int u0), .val (.int u1), .val (.int u2), .val (.int u3), .val (.int u4), .val (.int k1), .val (.int av), .val (.int k2), .val (.int bv), .val (.ref b191), .val (.ref b214), .unset, .unset, .unset, .unset] []))
        refine go _ _ (fun t' k' => XS.iconst X244h.here hx rfl (hb hby at_96) k') ?_
        show G (T244.setTop (mkF m 97 #[.val (.int u0), .val (.int u1), .val (.int u2), .val (.int u3), .val (.int u4), .val (.int k1), .val (.int av), .val (.int k2), .val (.int bv), .val (.ref b191), .val (.ref b214), .unset, .unset, .unset, .unset] [(.int (0 : Int32))]))
        exact je T244 _ X244h rfl N244h _ (by simp [c358])
    refine go _ _ (fun t' k' => XS.iload X189.here hx rfl (hb hby at_28) rfl  k') ?_
    show G (T189.setTop (mkF m 30 #[.val (.int u0), .val (.int u1), .val (.int u2), .val (.int u3), .val (.int u4), .val (.int k1), .val (.int av), .val (.int k2), .unset, .unset, .unset, .unset, .unset, .unset, .unset] [(.int u4)]))
    refine go _ _ (fun t' k' => XS.iconst X189.here hx rfl (hb hby at_30) k') ?_
    show G (T189.setTop (mkF m 31 #[.val (.int u0), .val (.int u1), .val (.int u2), .val (.int u3), .val (.int u4), .val (.int k1), .val (.int av), .val (.int k2), .unset, .unset, .unset, .unset, .unset, .unset, .unset] [(.int (1 : Int32)), (.int u4)]))
    refine go _ _ (fun t' k' => XS.iand X189.here hx rfl (hb hby at_31) rfl k') ?_
    show G (T189.setTop (mkF m 32 #[.val (.int u0), .val (.int u1), .val (.int u2), .val (.int u3), .val (.int u4), .val (.int k1), .val (.int av), .val (.int k2), .unset, .unset, .unset, .unset, .unset, .unset, .unset] [(.int (u4 &&& (1 : Int32)))]))
    by_cases c360 : (u4 &&& (1 : Int32)) = (0 : Int32)
    · refine go _ _ (fun t' k' => XS.ifYes X189.here hx rfl (pc0 := 32) (pc' := 40) rfl (hb hby at_32) rfl (Free.XT.i0_eq_t c360) (by decide) (by decide) k') ?_
      show G (T189.setTop (mkF m 40 #[.val (.int u0), .val (.int u1), .val (.int u2), .val (.int u3), .val (.int u4), .val (.int k1), .val (.int av), .val (.int k2), .unset, .unset, .unset, .unset, .unset, .unset, .unset] []))
      refine go _ _ (fun t' k' => XS.iloadN X189.here hx rfl (hb hby at_40) rfl  k') ?_
      show G (T189.setTop (mkF m 41 #[.val (.int u0), .val (.int u1), .val (.int u2), .val (.int u3), .val (.int u4), .val (.int k1), .val (.int av), .val (.int k2), .unset, .unset, .unset, .unset, .unset, .unset, .unset] [(.int u3)]))
      refine go _ _ (fun t' k' => X189.ldcInt hx hown (mvT hZ (hw _ (List.mem_of_getElem? (i := 0) rfl))) (g := (mkF m 41 #[.val (.int u0), .val (.int u1), .val (.int u2), .val (.int u3), .val (.int u4), .val (.int k1), .val (.int av), .val (.int k2), .unset, .unset, .unset, .unset, .unset, .unset, .unset] [(.int u3)])) rfl (hb hby at_41) _ k') ?_
      show G (T189.setTop (mkF m 43 #[.val (.int u0), .val (.int u1), .val (.int u2), .val (.int u3), .val (.int u4), .val (.int k1), .val (.int av), .val (.int k2), .unset, .unset, .unset, .unset, .unset, .unset, .unset] [(.int (2147483647 : Int32)), (.int u3)]))
      refine go _ _ (fun t' k' => XS.iand X189.here hx rfl (hb hby at_43) rfl k') ?_
      show G (T189.setTop (mkF m 44 #[.val (.int u0), .val (.int u1), .val (.int u2), .val (.int u3), .val (.int u4), .val (.int k1), .val (.int av), .val (.int k2), .unset, .unset, .unset, .unset, .unset, .unset, .unset] [(.int (u3 &&& (2147483647 : Int32)))]))
      exact jb T189 _ X189 e189 N189j _ (own_and31 _)
    · refine go _ _ (fun t' k' => XS.ifNo X189.here hx rfl (hb hby at_32) rfl (Free.XT.i0_eq_f c360) k') ?_
      show G (T189.setTop (mkF m 35 #[.val (.int u0), .val (.int u1), .val (.int u2), .val (.int u3), .val (.int u4), .val (.int k1), .val (.int av), .val (.int k2), .unset, .unset, .unset, .unset, .unset, .unset, .unset] []))
      refine go _ _ (fun t' k' => XS.iload X189.here hx rfl (hb hby at_35) rfl  k') ?_
      show G (T189.setTop (mkF m 37 #[.val (.int u0), .val (.int u1), .val (.int u2), .val (.int u3), .val (.int u4), .val (.int k1), .val (.int av), .val (.int k2), .unset, .unset, .unset, .unset, .unset, .unset, .unset] [(.int av)]))
      refine go _ _ (fun t' k' => XS.goto X189.here hx rfl (pc0 := 37) (pc' := 44) rfl (hb hby at_37) (by decide) (by decide) k') ?_
      show G (T189.setTop (mkF m 44 #[.val (.int u0), .val (.int u1), .val (.int u2), .val (.int u3), .val (.int u4), .val (.int k1), .val (.int av), .val (.int k2), .unset, .unset, .unset, .unset, .unset, .unset, .unset] [(.int av)]))
      exact jb T189 _ X189 e189 N189j _ hav
  refine go _ _ (fun t' k' => XS.iload X0.here hx rfl (hb hby at_11) rfl  k') ?_
  show G (s₁.setTop (mkF m 13 #[.val (.int u0), .val (.int u1), .val (.int u2), .val (.int u3), .val (.int u4), .val (.int k1), .val (.int av), .unset, .unset, .unset, .unset, .unset, .unset, .unset, .unset] [(.int u4)]))
  refine go _ _ (fun t' k' => XS.iconst X0.here hx rfl (hb hby at_13) k') ?_
  show G (s₁.setTop (mkF m 14 #[.val (.int u0), .val (.int u1), .val (.int u2), .val (.int u3), .val (.int u4), .val (.int k1), .val (.int av), .unset, .unset, .unset, .unset, .unset, .unset, .unset, .unset] [(.int (2 : Int32)), (.int u4)]))
  refine go _ _ (fun t' k' => XS.iand X0.here hx rfl (hb hby at_14) rfl k') ?_
  show G (s₁.setTop (mkF m 15 #[.val (.int u0), .val (.int u1), .val (.int u2), .val (.int u3), .val (.int u4), .val (.int k1), .val (.int av), .unset, .unset, .unset, .unset, .unset, .unset, .unset, .unset] [(.int (u4 &&& (2 : Int32)))]))
  by_cases c361 : (u4 &&& (2 : Int32)) = (0 : Int32)
  · refine go _ _ (fun t' k' => XS.ifYes X0.here hx rfl (pc0 := 15) (pc' := 23) rfl (hb hby at_15) rfl (Free.XT.i0_eq_t c361) (by decide) (by decide) k') ?_
    show G (s₁.setTop (mkF m 23 #[.val (.int u0), .val (.int u1), .val (.int u2), .val (.int u3), .val (.int u4), .val (.int k1), .val (.int av), .unset, .unset, .unset, .unset, .unset, .unset, .unset, .unset] []))
    refine go _ _ (fun t' k' => XS.iloadN X0.here hx rfl (hb hby at_23) rfl  k') ?_
    show G (s₁.setTop (mkF m 24 #[.val (.int u0), .val (.int u1), .val (.int u2), .val (.int u3), .val (.int u4), .val (.int k1), .val (.int av), .unset, .unset, .unset, .unset, .unset, .unset, .unset, .unset] [(.int u2)]))
    refine go _ _ (fun t' k' => XS.iconst X0.here hx rfl (hb hby at_24) k') ?_
    show G (s₁.setTop (mkF m 25 #[.val (.int u0), .val (.int u1), .val (.int u2), .val (.int u3), .val (.int u4), .val (.int k1), .val (.int av), .unset, .unset, .unset, .unset, .unset, .unset, .unset, .unset] [(.int (3 : Int32)), (.int u2)]))
    refine go _ _ (fun t' k' => XS.iand X0.here hx rfl (hb hby at_25) rfl k') ?_
    show G (s₁.setTop (mkF m 26 #[.val (.int u0), .val (.int u1), .val (.int u2), .val (.int u3), .val (.int u4), .val (.int k1), .val (.int av), .unset, .unset, .unset, .unset, .unset, .unset, .unset, .unset] [(.int (u2 &&& (3 : Int32)))]))
    exact jk s₁ _ X0 e0 N0 _ (own_and3 _)
  · refine go _ _ (fun t' k' => XS.ifNo X0.here hx rfl (hb hby at_15) rfl (Free.XT.i0_eq_f c361) k') ?_
    show G (s₁.setTop (mkF m 18 #[.val (.int u0), .val (.int u1), .val (.int u2), .val (.int u3), .val (.int u4), .val (.int k1), .val (.int av), .unset, .unset, .unset, .unset, .unset, .unset, .unset, .unset] []))
    refine go _ _ (fun t' k' => XS.iload X0.here hx rfl (hb hby at_18) rfl  k') ?_
    show G (s₁.setTop (mkF m 20 #[.val (.int u0), .val (.int u1), .val (.int u2), .val (.int u3), .val (.int u4), .val (.int k1), .val (.int av), .unset, .unset, .unset, .unset, .unset, .unset, .unset, .unset] [(.int k1)]))
    refine go _ _ (fun t' k' => XS.goto X0.here hx rfl (pc0 := 20) (pc' := 26) rfl (hb hby at_20) (by decide) (by decide) k') ?_
    show G (s₁.setTop (mkF m 26 #[.val (.int u0), .val (.int u1), .val (.int u2), .val (.int u3), .val (.int u4), .val (.int k1), .val (.int av), .unset, .unset, .unset, .unset, .unset, .unset, .unset, .unset] [(.int k1)]))
    exact jk s₁ _ X0 e0 N0 _ hk1c
set_option maxRecDepth 65536 in
set_option maxHeartbeats 40000000 in
theorem comes_1 {Post : Tables → Env → Array Value → State → Outcome → State → Prop} (hpost : ∀ tb e args s v u, (limb_1_1.after args s (.returned v) u = true ∧ limb_1_2.after args s (.returned v) u = true ∧ True) → ReturnedEndW s (.returned v) u (Jvm.fieldLocs frame_1_writes args s ++ Jvm.arrayLocs frame_1_arrays args s ++ Jvm.staticLocs frame_1_statics s) 24 1152 → Post tb e args s (.returned v) u) :
    ArmFor flags0 classFile x code maxLocals ret World_1 tables_1 room_1 Calls_1 rest_1 Pre_1 Post := by
  intro l hfl _ _ p e ha hc hk s m args below hf hA hF happ hP
  obtain ⟨hcalls, hrest, hpre⟩ := hP
  obtain ⟨-, -, -, hnamed, -, -, -, hat⟩ := (Spec.applies_iff hf).mp happ
  obtain ⟨hg, hn⟩ := and_e (Cond.before_iff.mp (show (Jvm.Cond.and given_1 narrow_1).before args s = true from hpre))
  obtain ⟨k0, hg0⟩ := and_e hg
  obtain ⟨ka0, hg1⟩ := and_e hg0
  obtain ⟨ka1, hg2⟩ := and_e hg1
  obtain ⟨ka2, hg3⟩ := and_e hg2
  obtain ⟨ka3, hg4⟩ := and_e hg3
  have ka4 := hg4
  obtain ⟨w0, w1, w2, w3, w4, rfl⟩ : ∃ w0 w1 w2 w3 w4 : Value, args = #[w0, w1, w2, w3, w4] := by
    have hs : args.size = 5 := by simpa [Cond.value, given_1] using k0
    obtain ⟨L⟩ := args
    match L, hs with
    | [w0, w1, w2, w3, w4], _ => exact ⟨w0, w1, w2, w3, w4, rfl⟩
  have hw := fun d (hd : d ∈ tables_1) => atoms_spec (ws := Jvm.Cond.code x code maxLocals ret :: tables_1) hat d (List.mem_cons_of_mem _ hd)
  obtain ⟨hsets, hown0⟩ := atoms_of _ (rest_1_c_eq ▸ (show rest_1_c.before _ s = true from hrest))
  have hfit : Fit s := fun {y c} hc i hi => by
    obtain ⟨ha, rfl⟩ := Array.getElem?_eq_some_iff.mp hc
    have q := List.all_eq_true.mp ((Array.all_eq_true_iff_forall_mem.mp hF) _ (Array.getElem_mem ha)) i (List.mem_range.mpr hi)
    simpa [Array.getElem?_eq_getElem hi] using q
  obtain ⟨i0, ie0⟩ := is_v ka0
  obtain rfl : w0 = (.int i0) := Option.some.inj ie0
  obtain ⟨i1, ie1⟩ := is_v ka1
  obtain rfl : w1 = (.int i1) := Option.some.inj ie1
  obtain ⟨i2, ie2⟩ := is_v ka2
  obtain rfl : w2 = (.int i2) := Option.some.inj ie2
  obtain ⟨i3, ie3⟩ := is_v ka3
  obtain rfl : w3 = (.int i3) := Option.some.inj ie3
  obtain ⟨i4, ie4⟩ := is_v ka4
  obtain rfl : w4 = (.int i4) := Option.some.inj ie4
  obtain ⟨na0, nb0⟩ := and_e hn
  obtain ⟨na1, nb1⟩ := and_e nb0
  obtain ⟨na2, nb2⟩ := and_e nb1
  obtain ⟨na3, nb3⟩ := and_e nb2
  obtain ⟨na4, nb4⟩ := and_e nb3
  obtain ⟨na5, nb5⟩ := and_e nb4
  obtain ⟨na6, nb6⟩ := and_e nb5
  have na7 := nb6
  obtain ⟨x0, S0, Ex0, ev0⟩ := own_sta na0 (hw _ (List.mem_of_getElem? (i := 9) rfl)) (hw _ (List.mem_of_getElem? (i := 10) rfl))
  obtain ⟨x2, S2, Ex2, ev2⟩ := own_sta na1 (hw _ (List.mem_of_getElem? (i := 9) rfl)) (hw _ (List.mem_of_getElem? (i := 36) rfl))
  obtain ⟨x3, S3, Ex3, ev3⟩ := own_sta na4 (hw _ (List.mem_of_getElem? (i := 9) rfl)) (hw _ (List.mem_of_getElem? (i := 45) rfl))
  obtain ⟨x1, S1, Ex1, ev1⟩ := own_sta na5 (hw _ (List.mem_of_getElem? (i := 9) rfl)) (hw _ (List.mem_of_getElem? (i := 47) rfl))
  have O2 := own_fieldeq ev2 na2
  have O0 := own_fieldeq ev0 na3
  have O1 := own_fieldeq ev1 na6
  have O3 := own_fieldeq ev3 na7
  have nx01 := own_nee O0 O1 (by decide)
  have nx02 := own_nee O0 O2 (by decide)
  have nx03 := own_nee O0 O3 (by decide)
  have nx12 := own_nee O1 O2 (by decide)
  have nx13 := own_nee O1 O3 (by decide)
  have nx23 := own_nee O2 O3 (by decide)
  have nd3 := Cond.before_iff.mp (hsets _ (List.mem_of_getElem? (i := 3) rfl))
  have nd4 := Cond.before_iff.mp (hsets _ (List.mem_of_getElem? (i := 4) rfl))
  have nd6 := Cond.before_iff.mp (hsets _ (List.mem_of_getElem? (i := 6) rfl))
  have nd7 := Cond.before_iff.mp (hsets _ (List.mem_of_getElem? (i := 7) rfl))
  have nd9 := Cond.before_iff.mp (hsets _ (List.mem_of_getElem? (i := 9) rfl))
  have nd10 := Cond.before_iff.mp (hsets _ (List.mem_of_getElem? (i := 10) rfl))
  have Sh := Sta.start (own_stateq nd3) (Or.inl (hsets _ (List.mem_of_getElem? (i := 1) rfl)))
  obtain ⟨rc, evc⟩ := arr_v nd4
  have Sc := Sta.start evc (Or.inr ⟨(hw _ (List.mem_of_getElem? (i := 53) rfl)), (hsets _ (List.mem_of_getElem? (i := 2) rfl))⟩)
  obtain ⟨cl, Ar⟩ := Arr.start evc nd4
  have hat0 : s.arrayAt? rc = some cl := Arr.fin (State.Warmed39.refl s).alike Ar
  obtain ⟨hsz, hl⟩ := own_len evc hat0 nd6
  have hsz' : cl.slots.size = 256 := by have : (256 : Int32).toInt = 256 := rfl; omega
  have key : ∀ i, i < 256 → ∃ r, cl.slots[i]? = some (.ref r) ∧ Exa s s.heap r "java/lang/Integer" := by
    intro i hi
    have q := (and_e (Cond.all_elim evc hat0 nd7 i (by omega))).1
    obtain ⟨r, er⟩ := exa_v q
    have e := len_toInt (n := i) (by omega)
    have hn0 : ¬ i.toInt32 < 0 := by
      rw [Int32.lt_iff_toInt_lt, e]
      have : (0 : Int32).toInt = 0 := rfl
      omega
    have er2 := er
    rw [elem_f (own_stat_idx evc) (own_idx_eval i) hat0 hn0, ix_of e] at er2
    exact ⟨r, er2, exa_at er q⟩
  obtain ⟨ic, hic⟩ : ∃ ic : Nat → Addr, ∀ i, i < 256 → cl.slots[i]? = some (.ref (ic i)) ∧ Exa s s.heap (ic i) "java/lang/Integer" := ⟨fun i => if h : i < 256 then (key i h).choose else 0, fun i hi => by dsimp only; rw [dif_pos hi]; exact (key i hi).choose_spec⟩
  have Ac : Ary s s.heap rc (.object "java/lang/Integer") 256 (fun i => .ref (ic i)) := ⟨cl, Ar, hsz', by decide, fun i hi => (hic i hi).1, fun i hi => rfl⟩
  have Ei := fun i hi => (hic i hi).2
  obtain ⟨cs, evcs⟩ := is_v nd9
  have Scs := Sta.start evcs (Or.inl (hsets _ (List.mem_of_getElem? (i := 8) rfl)))
  have hcs : ¬ cs = 0 := own_stane evcs nd10
  obtain ⟨n, o, h1, h2, h3, _, L, rfl, ⟨rfl, N⟩, hq⟩ := rm0 l s _ hw i0 i1 i2 i3 i4 s.heap s.heap.size (Nat.le_refl _) x0 x1 x2 x3 rc ic cs S0 S1 S2 S3 Ex0 Ex1 Ex2 Ex3 nx01 nx02 nx03 nx12 nx13 nx23 Sh Sc Ac Ei Scs hcs tables_1 p e ha hc hk s m _ below hf ((Spec.applies_iff_loose hf).mp happ).1 ⟨rfl, State.Warmed39.refl s, rfl⟩ trivial
  refine ⟨n, _, h1, h2, h3, hpost _ _ _ _ _ _ ⟨Cond.after_iff.mpr rfl, Cond.after_iff.mpr (eq_i res_at (Term.int_eval (1)) rfl), trivial⟩ ⟨hq.1, hq.2.1, hq.2.2.1, (hq.2.2.2.sift fun y hy => Or.inr (N y hy)).mono (by decide) (by decide)⟩⟩
theorem main_1_1 : Claimed_1_1 := comes_1 fun _ _ _ _ _ _ h hF => ⟨h.1, hF⟩
theorem main_1_2 : Claimed_1_2 := comes_1 fun _ _ _ _ _ _ h hF => ⟨h.2.1, hF⟩
end Jvm.Pilot.@@N@@
namespace Jvm.Pilot.@@N@@
open Jvm Jvm.ClassFile Sem Op Lib Jvm.Free Jvm.Stand Jvm.Pilot.@@N@@.Jvm.D
/-! MADE BY PROGRAM (witnessworld.py) out of the Statement's table words and the real class files: 27 classes; the members and pool entries that the words name. The judged class is class 1, her method 2. -/
namespace start1
open Jvm.ClassFile
def u (s : String) : CpInfo := .utf8 (stringToUtf16 s)
/-- a pool by its gaps: so many unusable entries, then the entry; so many at the end -/
def gap : Nat → List CpInfo → List CpInfo
  | 0, r => r
  | n + 1, r => .unusable :: gap n r
def poolList (es : List (Nat × CpInfo)) (last : Nat) : List CpInfo := es.foldr (fun e r => gap e.1 (e.2 :: r)) (gap last [])
def pool (es : List (Nat × CpInfo)) (last : Nat) : Array CpInfo := ⟨poolList es last⟩
def fileOf (pool : Array CpInfo) (this : Nat) (attrs : Array Attribute := #[]) (ms : Array MethodInfo := #[]) (fl : Nat := 33) (sup : Nat := 0) (ifs : Array Nat := #[]) (fds : Array FieldInfo := #[]) : ClassFile where
  minorVersion := 0
  majorVersion := 65
  constantPool := pool
  accessFlags := fl
  thisClass := this
  superClass := sup
  interfaces := ifs
  fields := fds
  methods := ms
  attributes := attrs
def plain (name : String) (sup : Option ClassId) : Class where
  name := name
  kind := .ordinary
  loader := none
  accessFlags := 33
  super := sup
  interfaces := #[]
  cf := none
  fields := #[]
  methods := #[]
  instanceTypes := #[]
  staticTypes := #[]
  resolved := #[]
  callSites := []
  init := .initialized
  statics := none
  mirror := none

def pool0 : Array CpInfo := pool [(5, u "<init>"), (0, u "()V"), (1, .class_ 10), (1, u "java/lang/Object")] 113

def k0c0 : Code := { maxStack := 0, maxLocals := 1, code := object_method_1_code, exceptionTable := #[], attributes := #[] }
def k0m0 : Method := { name := "<init>", desc := "()V", sig := { parameters := [], returnType := none }, accessFlags := 1, code := some k0c0 }
/-- java/lang/Object -/
def k0 : Class := { plain "java/lang/Object" none with
  accessFlags := 33
  interfaces := #[]
  cf := some (fileOf pool0 8 #[] #[{ accessFlags := 1, nameIndex := 5, descriptorIndex := 6, attributes := #[] }] 33 0 #[] #[])
  fields := #[]
  methods := #[k0m0]
  instanceTypes := #[]
  staticTypes := #[]
  resolved := Array.replicate 124 none
  statics := none }

def pool1 : Array CpInfo := pool [(2, .class_ 4), (1, u "java/lang/Object"), (0, u "<init>"), (0, u "()V"), (0, .fieldref 8 9), (0, .class_ 10), (0, .nameAndType 11 12), (0, u "com/example/clearbrace/clearbrace/schema/TagClass"), (0, u "UNIVERSAL"), (0, u "Lcom/example/clearbrace/clearbrace/schema/TagClass;"), (0, .fieldref 8 14), (0, .nameAndType 15 12), (0, u "APPLICATION"), (0, .fieldref 8 17), (0, .nameAndType 18 12), (0, u "CONTEXT_SPECIFIC"), (0, .fieldref 8 20), (0, .nameAndType 21 12), (0, u "PRIVATE"), (0, .integer 2147483647), (0, .class_ 24), (0, u "com/example/clearbrace/clearbrace/schema/Tag"), (0, .methodref 26 27), (0, .class_ 28), (0, .nameAndType 29 30), (0, u "com/example/clearbrace/clearbrace/schema/TagEqualsPinLaw"), (0, u "cls"), (0, u "(I)Lcom/example/clearbrace/clearbrace/schema/TagClass;"), (0, .methodref 23 32), (0, .nameAndType 5 33), (0, u "(Lcom/example/clearbrace/clearbrace/schema/TagClass;I)V"), (0, .methodref 35 36), (0, .class_ 37), (0, .nameAndType 38 39), (0, u "java/lang/Integer"), (0, u "valueOf"), (0, u "(I)Ljava/lang/Integer;"), (0, .class_ 41), (0, u "java/lang/String"), (0, .methodref 40 43), (0, .nameAndType 5 44), (0, u "([C)V"), (0, .methodref 23 46), (0, .nameAndType 47 48), (0, u "equals"), (0, u "(Ljava/lang/Object;)Z"), (3, u "law"), (0, u "(IIIII)Z")] 2

def k1m0 : Method := { name := "<init>", desc := "()V", sig := { parameters := [], returnType := none }, accessFlags := 1, code := none }
def k1c1 : Code := { maxStack := 2, maxLocals := 1, code := method_2_code, exceptionTable := #[], attributes := #[] }
def k1m1 : Method := { name := "cls", desc := "(I)Lcom/example/clearbrace/clearbrace/schema/TagClass;", sig := { parameters := [.int], returnType := some (.object "com/example/clearbrace/clearbrace/schema/TagClass") }, accessFlags := 10, code := some k1c1 }
def k1c2 : Code := { maxStack := 4, maxLocals := 15, code := code, exceptionTable := #[], attributes := #[] }
def k1m2 : Method := { name := "law", desc := "(IIIII)Z", sig := { parameters := [.int, .int, .int, .int, .int], returnType := some .boolean }, accessFlags := 9, code := some k1c2 }
/-- com/example/clearbrace/clearbrace/schema/TagEqualsPinLaw -/
def k1 : Class := { plain "com/example/clearbrace/clearbrace/schema/TagEqualsPinLaw" (some 0) with
  accessFlags := 49
  interfaces := #[]
  cf := some (fileOf pool1 26 #[] #[{ accessFlags := 1, nameIndex := 5, descriptorIndex := 6, attributes := #[] }, { accessFlags := 10, nameIndex := 29, descriptorIndex := 30, attributes := #[] }, { accessFlags := 9, nameIndex := 52, descriptorIndex := 53, attributes := #[] }] 49 2 #[] #[])
  fields := #[]
  methods := #[k1m0, k1m1, k1m2]
  instanceTypes := #[]
  staticTypes := #[]
  resolved := Array.replicate 56 none
  statics := none }

def pool2 : Array CpInfo := pool [(1, .methodref 2 3), (0, .class_ 4), (0, .nameAndType 5 6), (0, u "java/lang/Object"), (0, u "<init>"), (0, u "()V"), (9, .string 17), (0, u "tagClass"), (0, .methodref 19 20), (0, .class_ 21), (0, .nameAndType 22 23), (0, u "java/util/Objects"), (0, u "requireNonNull"), (0, u "(Ljava/lang/Object;Ljava/lang/String;)Ljava/lang/Object;"), (0, .class_ 25), (0, u "com/example/clearbrace/clearbrace/schema/TagClass"), (0, .fieldref 27 28), (0, .class_ 29), (0, .nameAndType 30 31), (0, u "com/example/clearbrace/clearbrace/schema/Tag"), (0, u "_tagClass"), (0, u "Lcom/example/clearbrace/clearbrace/schema/TagClass;"), (0, .fieldref 27 33), (0, .nameAndType 34 35), (0, u "_number"), (0, u "I"), (2, u "SHARED"), (0, u "[[Lcom/example/clearbrace/clearbrace/schema/Tag;"), (6, u "(Lcom/example/clearbrace/clearbrace/schema/TagClass;I)V"), (23, u "SHARED_NUMBERS"), (9, u "equals"), (0, u "(Ljava/lang/Object;)Z")] 24

def k2c0 : Code := { maxStack := 3, maxLocals := 3, code := prog_76_method_1_code, exceptionTable := #[], attributes := #[] }
def k2m0 : Method := { name := "<init>", desc := "(Lcom/example/clearbrace/clearbrace/schema/TagClass;I)V", sig := { parameters := [(.object "com/example/clearbrace/clearbrace/schema/TagClass"), .int], returnType := none }, accessFlags := 1, code := some k2c0 }
def k2c1 : Code := { maxStack := 2, maxLocals := 3, code := prog_76_method_6_code, exceptionTable := #[], attributes := #[] }
def k2m1 : Method := { name := "equals", desc := "(Ljava/lang/Object;)Z", sig := { parameters := [(.object "java/lang/Object")], returnType := some .boolean }, accessFlags := 1, code := some k2c1 }
/-- com/example/clearbrace/clearbrace/schema/Tag -/
def k2 : Class := { plain "com/example/clearbrace/clearbrace/schema/Tag" (some 0) with
  accessFlags := 49
  interfaces := #[]
  cf := some (fileOf pool2 27 #[] #[{ accessFlags := 1, nameIndex := 5, descriptorIndex := 46, attributes := #[] }, { accessFlags := 1, nameIndex := 80, descriptorIndex := 81, attributes := #[] }] 49 2 #[] #[{ accessFlags := 18, nameIndex := 30, descriptorIndex := 31, attributes := #[] }, { accessFlags := 18, nameIndex := 34, descriptorIndex := 35, attributes := #[] }, { accessFlags := 26, nameIndex := 70, descriptorIndex := 35, attributes := #[] }, { accessFlags := 26, nameIndex := 38, descriptorIndex := 39, attributes := #[] }])
  fields := #[{ name := "_tagClass", type := (.object "com/example/clearbrace/clearbrace/schema/TagClass"), accessFlags := 18, slot := 0, constantValue := 0 }, { name := "_number", type := .int, accessFlags := 18, slot := 1, constantValue := 0 }, { name := "SHARED_NUMBERS", type := .int, accessFlags := 26, slot := 0, constantValue := 0 }, { name := "SHARED", type := (.array (.array (.object "com/example/clearbrace/clearbrace/schema/Tag"))), accessFlags := 26, slot := 1, constantValue := 0 }]
  methods := #[k2m0, k2m1]
  instanceTypes := #[(.object "com/example/clearbrace/clearbrace/schema/TagClass"), .int]
  staticTypes := #[.int, (.array (.array (.object "com/example/clearbrace/clearbrace/schema/Tag")))]
  resolved := Array.replicate 106 none
  statics := none }

def pool3 : Array CpInfo := pool [(1, .class_ 2), (0, u "java/lang/constant/Constable"), (0, .class_ 4), (0, u "java/lang/Object")] 6

/-- java/lang/constant/Constable -/
def k3 : Class := { plain "java/lang/constant/Constable" (some 0) with
  accessFlags := 1537
  interfaces := #[]
  cf := some (fileOf pool3 1 #[] #[] 1537 3 #[] #[])
  fields := #[]
  methods := #[]
  instanceTypes := #[]
  staticTypes := #[]
  resolved := Array.replicate 11 none
  statics := none }

def pool4 : Array CpInfo := pool [(1, .class_ 2), (0, u "java/lang/Comparable"), (0, .class_ 4), (0, u "java/lang/Object")] 7

/-- java/lang/Comparable -/
def k4 : Class := { plain "java/lang/Comparable" (some 0) with
  accessFlags := 1537
  interfaces := #[]
  cf := some (fileOf pool4 1 #[] #[] 1537 3 #[] #[])
  fields := #[]
  methods := #[]
  instanceTypes := #[]
  staticTypes := #[]
  resolved := Array.replicate 12 none
  statics := none }

def pool5 : Array CpInfo := pool [(1, .class_ 2), (0, u "java/io/Serializable"), (0, .class_ 4), (0, u "java/lang/Object")] 2

/-- java/io/Serializable -/
def k5 : Class := { plain "java/io/Serializable" (some 0) with
  accessFlags := 1537
  interfaces := #[]
  cf := some (fileOf pool5 1 #[] #[] 1537 3 #[] #[])
  fields := #[]
  methods := #[]
  instanceTypes := #[]
  staticTypes := #[]
  resolved := Array.replicate 7 none
  statics := none }

def pool6 : Array CpInfo := pool [(2, .class_ 4), (1, u "java/lang/Enum"), (0, u "name"), (0, u "Ljava/lang/String;"), (2, u "ordinal"), (0, u "I"), (1, .class_ 14), (1, u "java/lang/Object"), (4, u "hash"), (86, .class_ 108), (1, u "java/lang/Enum$EnumDesc"), (2, .class_ 112), (0, u "java/lang/constant/Constable"), (0, .class_ 114), (0, u "java/lang/Comparable"), (0, .class_ 116), (0, u "java/io/Serializable")] 87

/-- java/lang/Enum -/
def k6 : Class := { plain "java/lang/Enum" (some 0) with
  accessFlags := 1057
  interfaces := #[3, 4, 5]
  cf := some (fileOf pool6 2 #[.nestMembers #[106]] #[] 1057 12 #[111, 113, 115] #[{ accessFlags := 18, nameIndex := 5, descriptorIndex := 6, attributes := #[] }, { accessFlags := 18, nameIndex := 9, descriptorIndex := 10, attributes := #[] }, { accessFlags := 2, nameIndex := 19, descriptorIndex := 10, attributes := #[] }])
  fields := #[{ name := "name", type := (.object "java/lang/String"), accessFlags := 18, slot := 0, constantValue := 0 }, { name := "ordinal", type := .int, accessFlags := 18, slot := 1, constantValue := 0 }, { name := "hash", type := .int, accessFlags := 2, slot := 2, constantValue := 0 }]
  methods := #[]
  instanceTypes := #[(.object "java/lang/String"), .int, .int]
  staticTypes := #[]
  resolved := Array.replicate 204 none
  statics := none }

def pool7 : Array CpInfo := pool [(1, .class_ 2), (0, u "com/example/clearbrace/clearbrace/schema/TagClass"), (2, u "UNIVERSAL"), (0, u "Lcom/example/clearbrace/clearbrace/schema/TagClass;"), (2, u "APPLICATION"), (2, u "CONTEXT_SPECIFIC"), (2, u "PRIVATE"), (2, u "$VALUES"), (0, u "[Lcom/example/clearbrace/clearbrace/schema/TagClass;"), (6, .class_ 28), (1, u "java/lang/Enum"), (4, u "BY_BITS"), (2, u "_bits"), (0, u "I")] 47

/-- com/example/clearbrace/clearbrace/schema/TagClass -/
def k7 : Class := { plain "com/example/clearbrace/clearbrace/schema/TagClass" (some 6) with
  accessFlags := 16433
  interfaces := #[]
  cf := some (fileOf pool7 1 #[] #[] 16433 26 #[] #[{ accessFlags := 16409, nameIndex := 5, descriptorIndex := 6, attributes := #[] }, { accessFlags := 16409, nameIndex := 9, descriptorIndex := 6, attributes := #[] }, { accessFlags := 16409, nameIndex := 12, descriptorIndex := 6, attributes := #[] }, { accessFlags := 16409, nameIndex := 15, descriptorIndex := 6, attributes := #[] }, { accessFlags := 18, nameIndex := 36, descriptorIndex := 37, attributes := #[] }, { accessFlags := 26, nameIndex := 33, descriptorIndex := 19, attributes := #[] }, { accessFlags := 4122, nameIndex := 18, descriptorIndex := 19, attributes := #[] }])
  fields := #[{ name := "UNIVERSAL", type := (.object "com/example/clearbrace/clearbrace/schema/TagClass"), accessFlags := 16409, slot := 0, constantValue := 0 }, { name := "APPLICATION", type := (.object "com/example/clearbrace/clearbrace/schema/TagClass"), accessFlags := 16409, slot := 1, constantValue := 0 }, { name := "CONTEXT_SPECIFIC", type := (.object "com/example/clearbrace/clearbrace/schema/TagClass"), accessFlags := 16409, slot := 2, constantValue := 0 }, { name := "PRIVATE", type := (.object "com/example/clearbrace/clearbrace/schema/TagClass"), accessFlags := 16409, slot := 3, constantValue := 0 }, { name := "_bits", type := .int, accessFlags := 18, slot := 3, constantValue := 0 }, { name := "BY_BITS", type := (.array (.object "com/example/clearbrace/clearbrace/schema/TagClass")), accessFlags := 26, slot := 4, constantValue := 0 }, { name := "$VALUES", type := (.array (.object "com/example/clearbrace/clearbrace/schema/TagClass")), accessFlags := 4122, slot := 5, constantValue := 0 }]
  methods := #[]
  instanceTypes := #[(.object "java/lang/String"), .int, .int, .int]
  staticTypes := #[(.object "com/example/clearbrace/clearbrace/schema/TagClass"), (.object "com/example/clearbrace/clearbrace/schema/TagClass"), (.object "com/example/clearbrace/clearbrace/schema/TagClass"), (.object "com/example/clearbrace/clearbrace/schema/TagClass"), (.array (.object "com/example/clearbrace/clearbrace/schema/TagClass")), (.array (.object "com/example/clearbrace/clearbrace/schema/TagClass"))]
  resolved := Array.replicate 85 none
  statics := some 0 }

def pool8 : Array CpInfo := pool [(2, .class_ 4), (1, u "java/lang/CharSequence"), (42, .class_ 48), (0, u "java/lang/CharSequence$1CodePointIterator"), (10, .class_ 60), (0, u "java/lang/CharSequence$1CharIterator"), (5, .class_ 67), (0, u "java/lang/Object")] 63

/-- java/lang/CharSequence -/
def k8 : Class := { plain "java/lang/CharSequence" (some 0) with
  accessFlags := 1537
  interfaces := #[]
  cf := some (fileOf pool8 2 #[.nestMembers #[47, 59]] #[] 1537 66 #[] #[])
  fields := #[]
  methods := #[]
  instanceTypes := #[]
  staticTypes := #[]
  resolved := Array.replicate 131 none
  statics := none }

def pool9 : Array CpInfo := pool [(1, .class_ 2), (0, u "java/lang/constant/ConstantDesc"), (0, .class_ 4), (0, u "java/lang/Object")] 32

/-- java/lang/constant/ConstantDesc -/
def k9 : Class := { plain "java/lang/constant/ConstantDesc" (some 0) with
  accessFlags := 1537
  interfaces := #[]
  cf := some (fileOf pool9 1 #[] #[] 1537 3 #[] #[])
  fields := #[]
  methods := #[]
  instanceTypes := #[]
  staticTypes := #[]
  resolved := Array.replicate 37 none
  statics := none }

def pool10 : Array CpInfo := pool [(1, .methodref 2 3), (0, .class_ 4), (0, .nameAndType 5 6), (0, u "java/lang/Object"), (0, u "<init>"), (0, u "()V"), (2, .fieldref 10 11), (0, .class_ 12), (0, .nameAndType 13 14), (0, u "java/lang/String"), (0, u "value"), (0, u "[B"), (0, .fieldref 10 16), (0, .nameAndType 17 18), (0, u "coder"), (0, u "B"), (2, u "hash"), (0, u "I"), (2, u "hashIsZero"), (0, u "Z"), (0, .methodref 10 28), (0, .nameAndType 5 29), (0, u "([CIILjava/lang/Void;)V"), (8, .fieldref 10 39), (0, .nameAndType 40 26), (0, u "COMPACT_STRINGS"), (1, .class_ 44), (1, u "java/lang/StringUTF16"), (0, u "compress"), (1, .methodref 42 48), (0, .nameAndType 49 50), (0, u "coderFromArrayLen"), (0, u "([BI)B"), (126, .methodref 42 178), (0, .nameAndType 45 179), (0, u "([CII)[B"), (395, .class_ 576), (0, u "java/lang/CharSequence"), (22, u "CASE_INSENSITIVE_ORDER"), (0, u "Ljava/util/Comparator;"), (409, u "([C)V"), (90, u "serialPersistentFields"), (0, u "[Ljava/io/ObjectStreamField;"), (0, .class_ 1104), (0, u "java/lang/String$CaseInsensitiveComparator"), (1, .class_ 1107), (0, u "java/io/Serializable"), (0, .class_ 1109), (0, u "java/lang/Comparable"), (0, .class_ 1111), (0, u "java/lang/constant/Constable"), (0, .class_ 1113), (0, u "java/lang/constant/ConstantDesc"), (2, u "serialVersionUID"), (0, u "J"), (3, u "REPL"), (0, u "C"), (2, u "LATIN1"), (1, u "UTF16")] 323

def k10m0 : Method := { name := "<init>", desc := "()V", sig := { parameters := [], returnType := none }, accessFlags := 1, code := none }
def k10c1 : Code := { maxStack := 5, maxLocals := 2, code := jdk_42_method_3_code, exceptionTable := #[], attributes := #[] }
def k10m1 : Method := { name := "<init>", desc := "([C)V", sig := { parameters := [(.array .char)], returnType := none }, accessFlags := 1, code := some k10c1 }
def k10c2 : Code := { maxStack := 4, maxLocals := 6, code := jdk_42_method_149_code, exceptionTable := #[], attributes := #[] }
def k10m2 : Method := { name := "<init>", desc := "([CIILjava/lang/Void;)V", sig := { parameters := [(.array .char), .int, .int, (.object "java/lang/Void")], returnType := none }, accessFlags := 2, code := some k10c2 }
/-- java/lang/String -/
def k10 : Class := { plain "java/lang/String" (some 0) with
  accessFlags := 49
  interfaces := #[5, 4, 8, 3, 9]
  cf := some (fileOf pool10 10 #[.nestMembers #[1103]] #[{ accessFlags := 1, nameIndex := 5, descriptorIndex := 6, attributes := #[] }, { accessFlags := 1, nameIndex := 5, descriptorIndex := 1010, attributes := #[] }, { accessFlags := 2, nameIndex := 5, descriptorIndex := 29, attributes := #[] }] 49 2 #[1106, 1108, 575, 1110, 1112] #[{ accessFlags := 18, nameIndex := 13, descriptorIndex := 14, attributes := #[] }, { accessFlags := 18, nameIndex := 17, descriptorIndex := 18, attributes := #[] }, { accessFlags := 2, nameIndex := 21, descriptorIndex := 22, attributes := #[] }, { accessFlags := 2, nameIndex := 25, descriptorIndex := 26, attributes := #[] }, { accessFlags := 26, nameIndex := 1116, descriptorIndex := 1117, attributes := #[] }, { accessFlags := 24, nameIndex := 40, descriptorIndex := 26, attributes := #[] }, { accessFlags := 26, nameIndex := 1101, descriptorIndex := 1102, attributes := #[] }, { accessFlags := 26, nameIndex := 1121, descriptorIndex := 1122, attributes := #[] }, { accessFlags := 25, nameIndex := 599, descriptorIndex := 600, attributes := #[] }, { accessFlags := 24, nameIndex := 1125, descriptorIndex := 18, attributes := #[] }, { accessFlags := 24, nameIndex := 1127, descriptorIndex := 18, attributes := #[] }])
  fields := #[{ name := "value", type := (.array .byte), accessFlags := 18, slot := 0, constantValue := 0 }, { name := "coder", type := .byte, accessFlags := 18, slot := 1, constantValue := 0 }, { name := "hash", type := .int, accessFlags := 2, slot := 2, constantValue := 0 }, { name := "hashIsZero", type := .boolean, accessFlags := 2, slot := 3, constantValue := 0 }, { name := "serialVersionUID", type := .long, accessFlags := 26, slot := 0, constantValue := 0 }, { name := "COMPACT_STRINGS", type := .boolean, accessFlags := 24, slot := 1, constantValue := 0 }, { name := "serialPersistentFields", type := (.array (.object "java/io/ObjectStreamField")), accessFlags := 26, slot := 2, constantValue := 0 }, { name := "REPL", type := .char, accessFlags := 26, slot := 3, constantValue := 0 }, { name := "CASE_INSENSITIVE_ORDER", type := (.object "java/util/Comparator"), accessFlags := 25, slot := 4, constantValue := 0 }, { name := "LATIN1", type := .byte, accessFlags := 24, slot := 5, constantValue := 0 }, { name := "UTF16", type := .byte, accessFlags := 24, slot := 6, constantValue := 0 }]
  methods := #[k10m0, k10m1, k10m2]
  instanceTypes := #[(.array .byte), .byte, .int, .boolean]
  staticTypes := #[.long, .boolean, (.array (.object "java/io/ObjectStreamField")), .char, (.object "java/util/Comparator"), .byte, .byte]
  resolved := Array.replicate 1451 none
  statics := some 1 }

def pool11 : Array CpInfo := pool [(2, .class_ 4), (1, u "java/lang/Object"), (0, u "<init>"), (0, u "()V"), (35, .class_ 44), (1, u "java/util/Objects"), (0, u "requireNonNull"), (48, u "(Ljava/lang/Object;Ljava/lang/String;)Ljava/lang/Object;")] 89

def k11m0 : Method := { name := "<init>", desc := "()V", sig := { parameters := [], returnType := none }, accessFlags := 2, code := none }
def k11c1 : Code := { maxStack := 3, maxLocals := 2, code := jdk_31_method_11_code, exceptionTable := #[], attributes := #[] }
def k11m1 : Method := { name := "requireNonNull", desc := "(Ljava/lang/Object;Ljava/lang/String;)Ljava/lang/Object;", sig := { parameters := [(.object "java/lang/Object"), (.object "java/lang/String")], returnType := some (.object "java/lang/Object") }, accessFlags := 9, code := some k11c1 }
/-- java/util/Objects -/
def k11 : Class := { plain "java/util/Objects" (some 0) with
  accessFlags := 49
  interfaces := #[]
  cf := some (fileOf pool11 42 #[] #[{ accessFlags := 2, nameIndex := 5, descriptorIndex := 6, attributes := #[] }, { accessFlags := 9, nameIndex := 45, descriptorIndex := 94, attributes := #[] }] 49 2 #[] #[])
  fields := #[]
  methods := #[k11m0, k11m1]
  instanceTypes := #[]
  staticTypes := #[]
  resolved := Array.replicate 184 none
  statics := none }

def pool12 : Array CpInfo := pool [(1, .methodref 2 3), (0, .class_ 4), (0, .nameAndType 5 6), (0, u "java/lang/Object"), (0, u "<init>"), (0, u "()V"), (1, .class_ 10), (1, u "java/lang/Number"), (2, .class_ 14), (0, u "java/io/Serializable"), (0, u "serialVersionUID"), (0, u "J")] 20

def k12c0 : Code := { maxStack := 1, maxLocals := 1, code := jdk_18_method_1_code, exceptionTable := #[], attributes := #[] }
def k12m0 : Method := { name := "<init>", desc := "()V", sig := { parameters := [], returnType := none }, accessFlags := 1, code := some k12c0 }
/-- java/lang/Number -/
def k12 : Class := { plain "java/lang/Number" (some 0) with
  accessFlags := 1057
  interfaces := #[5]
  cf := some (fileOf pool12 8 #[] #[{ accessFlags := 1, nameIndex := 5, descriptorIndex := 6, attributes := #[] }] 1057 2 #[13] #[{ accessFlags := 26, nameIndex := 15, descriptorIndex := 16, attributes := #[] }])
  fields := #[{ name := "serialVersionUID", type := .long, accessFlags := 26, slot := 0, constantValue := 0 }]
  methods := #[k12m0]
  instanceTypes := #[]
  staticTypes := #[.long]
  resolved := Array.replicate 37 none
  statics := none }

def pool13 : Array CpInfo := pool [(1, .class_ 2), (0, u "java/lang/Integer"), (16, u "digits"), (0, u "[C"), (46, u "<init>"), (17, u "DigitOnes"), (0, u "[B"), (2, u "DigitTens"), (10, .nameAndType 67 101), (0, u "()V"), (85, u "valueOf"), (0, u "(I)Ljava/lang/Integer;"), (0, .class_ 190), (0, u "java/lang/Integer$IntegerCache"), (0, .fieldref 189 192), (0, .nameAndType 193 194), (0, u "high"), (0, u "I"), (0, .fieldref 189 196), (0, .nameAndType 197 198), (0, u "cache"), (0, u "[Ljava/lang/Integer;"), (0, .methodref 1 200), (0, .nameAndType 67 201), (0, u "(I)V"), (0, .methodref 203 100), (0, .class_ 204), (0, u "java/lang/Number"), (0, .fieldref 1 206), (0, .nameAndType 207 194), (0, u "value"), (94, u "TYPE"), (0, u "Ljava/lang/Class;"), (0, .class_ 305), (0, u "java/lang/Comparable"), (0, .class_ 307), (0, u "java/lang/constant/Constable"), (0, .class_ 309), (0, u "java/lang/constant/ConstantDesc"), (0, u "MIN_VALUE"), (1, u "MAX_VALUE"), (3, u "SIZE"), (1, u "BYTES"), (1, u "serialVersionUID"), (0, u "J")] 131

def k13c0 : Code := { maxStack := 3, maxLocals := 1, code := jdk_33_method_22_code, exceptionTable := #[], attributes := #[] }
def k13m0 : Method := { name := "valueOf", desc := "(I)Ljava/lang/Integer;", sig := { parameters := [.int], returnType := some (.object "java/lang/Integer") }, accessFlags := 9, code := some k13c0 }
def k13c1 : Code := { maxStack := 2, maxLocals := 2, code := jdk_33_method_23_code, exceptionTable := #[], attributes := #[] }
def k13m1 : Method := { name := "<init>", desc := "(I)V", sig := { parameters := [.int], returnType := none }, accessFlags := 1, code := some k13c1 }
/-- java/lang/Integer -/
def k13 : Class := { plain "java/lang/Integer" (some 12) with
  accessFlags := 49
  interfaces := #[4, 3, 9]
  cf := some (fileOf pool13 1 #[.nestMembers #[189]] #[{ accessFlags := 9, nameIndex := 187, descriptorIndex := 188, attributes := #[] }, { accessFlags := 1, nameIndex := 67, descriptorIndex := 201, attributes := #[] }] 49 203 #[304, 306, 308] #[{ accessFlags := 25, nameIndex := 310, descriptorIndex := 194, attributes := #[] }, { accessFlags := 25, nameIndex := 312, descriptorIndex := 194, attributes := #[] }, { accessFlags := 25, nameIndex := 302, descriptorIndex := 303, attributes := #[] }, { accessFlags := 24, nameIndex := 19, descriptorIndex := 20, attributes := #[] }, { accessFlags := 24, nameIndex := 89, descriptorIndex := 86, attributes := #[] }, { accessFlags := 24, nameIndex := 85, descriptorIndex := 86, attributes := #[] }, { accessFlags := 18, nameIndex := 207, descriptorIndex := 194, attributes := #[] }, { accessFlags := 25, nameIndex := 316, descriptorIndex := 194, attributes := #[] }, { accessFlags := 25, nameIndex := 318, descriptorIndex := 194, attributes := #[] }, { accessFlags := 26, nameIndex := 320, descriptorIndex := 321, attributes := #[] }])
  fields := #[{ name := "MIN_VALUE", type := .int, accessFlags := 25, slot := 0, constantValue := 0 }, { name := "MAX_VALUE", type := .int, accessFlags := 25, slot := 1, constantValue := 0 }, { name := "TYPE", type := (.object "java/lang/Class"), accessFlags := 25, slot := 2, constantValue := 0 }, { name := "digits", type := (.array .char), accessFlags := 24, slot := 3, constantValue := 0 }, { name := "DigitTens", type := (.array .byte), accessFlags := 24, slot := 4, constantValue := 0 }, { name := "DigitOnes", type := (.array .byte), accessFlags := 24, slot := 5, constantValue := 0 }, { name := "value", type := .int, accessFlags := 18, slot := 0, constantValue := 0 }, { name := "SIZE", type := .int, accessFlags := 25, slot := 6, constantValue := 0 }, { name := "BYTES", type := .int, accessFlags := 25, slot := 7, constantValue := 0 }, { name := "serialVersionUID", type := .long, accessFlags := 26, slot := 8, constantValue := 0 }]
  methods := #[k13m0, k13m1]
  instanceTypes := #[.int]
  staticTypes := #[.int, .int, (.object "java/lang/Class"), (.array .char), (.array .byte), (.array .byte), .int, .int, .long]
  resolved := Array.replicate 453 none
  statics := none }

def pool14 : Array CpInfo := pool [(2, .class_ 4), (1, u "java/lang/Object"), (0, u "<init>"), (0, u "()V"), (0, .class_ 8), (0, u "java/lang/Integer"), (7, .class_ 18), (1, u "java/lang/Integer$IntegerCache"), (0, u "$assertionsDisabled"), (0, u "Z"), (26, u "high"), (0, u "I"), (8, u "archivedCache"), (0, u "[Ljava/lang/Integer;"), (12, u "cache"), (0, u "low")] 27

def k14m0 : Method := { name := "<init>", desc := "()V", sig := { parameters := [], returnType := none }, accessFlags := 2, code := none }
/-- java/lang/Integer$IntegerCache -/
def k14 : Class := { plain "java/lang/Integer$IntegerCache" (some 0) with
  accessFlags := 48
  interfaces := #[]
  cf := some (fileOf pool14 16 #[.nestHost 7] #[{ accessFlags := 2, nameIndex := 5, descriptorIndex := 6, attributes := #[] }] 48 2 #[] #[{ accessFlags := 24, nameIndex := 72, descriptorIndex := 48, attributes := #[] }, { accessFlags := 24, nameIndex := 47, descriptorIndex := 48, attributes := #[] }, { accessFlags := 24, nameIndex := 71, descriptorIndex := 58, attributes := #[] }, { accessFlags := 8, nameIndex := 57, descriptorIndex := 58, attributes := #[] }, { accessFlags := 4120, nameIndex := 19, descriptorIndex := 20, attributes := #[] }])
  fields := #[{ name := "low", type := .int, accessFlags := 24, slot := 0, constantValue := 0 }, { name := "high", type := .int, accessFlags := 24, slot := 1, constantValue := 0 }, { name := "cache", type := (.array (.object "java/lang/Integer")), accessFlags := 24, slot := 2, constantValue := 0 }, { name := "archivedCache", type := (.array (.object "java/lang/Integer")), accessFlags := 8, slot := 3, constantValue := 0 }, { name := "$assertionsDisabled", type := .boolean, accessFlags := 4120, slot := 4, constantValue := 0 }]
  methods := #[k14m0]
  instanceTypes := #[]
  staticTypes := #[.int, .int, (.array (.object "java/lang/Integer")), (.array (.object "java/lang/Integer")), .boolean]
  resolved := Array.replicate 100 none
  statics := some 2 }

def pool15 : Array CpInfo := pool [(6, .class_ 8), (1, u "java/lang/Object"), (0, u "<init>"), (0, u "()V"), (1, .class_ 14), (1, u "java/lang/StringUTF16"), (31, u "$assertionsDisabled"), (0, u "Z"), (13, u "HI_BYTE_SHIFT"), (0, u "I"), (2, u "LO_BYTE_SHIFT"), (49, .methodref 12 116), (0, .nameAndType 117 118), (0, u "compress"), (0, u "([CI[BII)I"), (3, u "([CII)[B"), (138, u "coderFromArrayLen"), (0, u "([BI)B"), (106, .class_ 371), (1, u "java/lang/StringUTF16$LinesSpliterator"), (58, u "MAX_LENGTH"), (196, .class_ 628), (0, u "java/lang/StringUTF16$CodePointsSpliterator"), (0, .class_ 630), (0, u "java/lang/StringUTF16$CharsSpliterator")] 4

def k15m0 : Method := { name := "<init>", desc := "()V", sig := { parameters := [], returnType := none }, accessFlags := 0, code := none }
def k15c1 : Code := { maxStack := 2, maxLocals := 2, code := jdk_52_method_15_code, exceptionTable := #[], attributes := #[] }
def k15m1 : Method := { name := "coderFromArrayLen", desc := "([BI)B", sig := { parameters := [(.array .byte), .int], returnType := some .byte }, accessFlags := 8, code := some k15c1 }
def k15c2 : Code := { maxStack := 5, maxLocals := 6, code := jdk_52_method_16_code, exceptionTable := #[], attributes := #[] }
def k15m2 : Method := { name := "compress", desc := "([CII)[B", sig := { parameters := [(.array .char), .int, .int], returnType := some (.array .byte) }, accessFlags := 9, code := some k15c2 }
def k15c3 : Code := { maxStack := 3, maxLocals := 7, code := jdk_52_method_21_code, exceptionTable := #[], attributes := #[] }
def k15m3 : Method := { name := "compress", desc := "([CI[BII)I", sig := { parameters := [(.array .char), .int, (.array .byte), .int, .int], returnType := some .int }, accessFlags := 9, code := some k15c3 }
/-- java/lang/StringUTF16 -/
def k15 : Class := { plain "java/lang/StringUTF16" (some 0) with
  accessFlags := 48
  interfaces := #[]
  cf := some (fileOf pool15 12 #[.nestMembers #[627, 629, 369]] #[{ accessFlags := 0, nameIndex := 9, descriptorIndex := 10, attributes := #[] }, { accessFlags := 8, nameIndex := 261, descriptorIndex := 262, attributes := #[] }, { accessFlags := 9, nameIndex := 117, descriptorIndex := 122, attributes := #[] }, { accessFlags := 9, nameIndex := 117, descriptorIndex := 118, attributes := #[] }] 48 6 #[] #[{ accessFlags := 26, nameIndex := 61, descriptorIndex := 62, attributes := #[] }, { accessFlags := 26, nameIndex := 65, descriptorIndex := 62, attributes := #[] }, { accessFlags := 24, nameIndex := 430, descriptorIndex := 62, attributes := #[] }, { accessFlags := 4120, nameIndex := 46, descriptorIndex := 47, attributes := #[] }])
  fields := #[{ name := "HI_BYTE_SHIFT", type := .int, accessFlags := 26, slot := 0, constantValue := 0 }, { name := "LO_BYTE_SHIFT", type := .int, accessFlags := 26, slot := 1, constantValue := 0 }, { name := "MAX_LENGTH", type := .int, accessFlags := 24, slot := 2, constantValue := 0 }, { name := "$assertionsDisabled", type := .boolean, accessFlags := 4120, slot := 3, constantValue := 0 }]
  methods := #[k15m0, k15m1, k15m2, k15m3]
  instanceTypes := #[]
  staticTypes := #[.int, .int, .int, .boolean]
  resolved := Array.replicate 635 none
  statics := none }

def pool16 : Array CpInfo := pool [(4, .class_ 6), (1, u "java/lang/Object"), (0, u "<init>"), (0, u "()V"), (5, .class_ 16), (1, u "java/lang/StringLatin1"), (104, u "$assertionsDisabled"), (0, u "Z"), (98, .class_ 223), (1, u "java/lang/StringLatin1$LinesSpliterator"), (166, .class_ 391), (0, u "java/lang/StringLatin1$CharsSpliterator")] 3

def k16m0 : Method := { name := "<init>", desc := "()V", sig := { parameters := [], returnType := none }, accessFlags := 0, code := none }
/-- java/lang/StringLatin1 -/
def k16 : Class := { plain "java/lang/StringLatin1" (some 0) with
  accessFlags := 48
  interfaces := #[]
  cf := some (fileOf pool16 14 #[.nestMembers #[390, 221]] #[{ accessFlags := 0, nameIndex := 7, descriptorIndex := 8, attributes := #[] }] 48 4 #[] #[{ accessFlags := 4120, nameIndex := 121, descriptorIndex := 122, attributes := #[] }])
  fields := #[{ name := "$assertionsDisabled", type := .boolean, accessFlags := 4120, slot := 0, constantValue := 0 }]
  methods := #[k16m0]
  instanceTypes := #[]
  staticTypes := #[.boolean]
  resolved := Array.replicate 395 none
  statics := none }

def pool17 : Array CpInfo := pool [(2, .class_ 4), (1, u "java/lang/Object"), (0, u "<init>"), (0, u "()V"), (17, .class_ 26), (1, u "jdk/internal/util/Preconditions"), (28, .class_ 56), (0, u "jdk/internal/util/Preconditions$4"), (57, .class_ 115), (0, u "jdk/internal/util/Preconditions$1"), (7, u "SIOOBE_FORMATTER"), (0, u "Ljava/util/function/BiFunction;"), (0, .class_ 126), (0, u "jdk/internal/util/Preconditions$2"), (3, u "AIOOBE_FORMATTER"), (0, .class_ 132), (0, u "jdk/internal/util/Preconditions$3"), (3, u "IOOBE_FORMATTER")] 57

def k17m0 : Method := { name := "<init>", desc := "()V", sig := { parameters := [], returnType := none }, accessFlags := 1, code := none }
/-- jdk/internal/util/Preconditions -/
def k17 : Class := { plain "jdk/internal/util/Preconditions" (some 0) with
  accessFlags := 33
  interfaces := #[]
  cf := some (fileOf pool17 24 #[.nestMembers #[55, 131, 125, 114]] #[{ accessFlags := 1, nameIndex := 5, descriptorIndex := 6, attributes := #[] }] 33 2 #[] #[{ accessFlags := 25, nameIndex := 123, descriptorIndex := 124, attributes := #[] }, { accessFlags := 25, nameIndex := 130, descriptorIndex := 124, attributes := #[] }, { accessFlags := 25, nameIndex := 136, descriptorIndex := 124, attributes := #[] }])
  fields := #[{ name := "SIOOBE_FORMATTER", type := (.object "java/util/function/BiFunction"), accessFlags := 25, slot := 0, constantValue := 0 }, { name := "AIOOBE_FORMATTER", type := (.object "java/util/function/BiFunction"), accessFlags := 25, slot := 1, constantValue := 0 }, { name := "IOOBE_FORMATTER", type := (.object "java/util/function/BiFunction"), accessFlags := 25, slot := 2, constantValue := 0 }]
  methods := #[k17m0]
  instanceTypes := #[]
  staticTypes := #[(.object "java/util/function/BiFunction"), (.object "java/util/function/BiFunction"), (.object "java/util/function/BiFunction")]
  resolved := Array.replicate 194 none
  statics := some 3 }

def pool18 : Array CpInfo := pool [(9, u "<init>"), (6, .class_ 18), (1, u "java/lang/Object"), (0, u "()V"), (1, .class_ 23), (1, u "jdk/internal/util/ArraysSupport"), (0, u "LOG2_ARRAY_LONG_INDEX_SCALE"), (0, u "I"), (2, u "U"), (0, u "Ljdk/internal/misc/Unsafe;"), (8, u "BIG_ENDIAN"), (0, u "Z"), (8, u "LOG2_BYTE_BIT_SIZE"), (4, u "LOG2_ARRAY_INT_INDEX_SCALE"), (54, u "JLA"), (0, u "Ljdk/internal/access/JavaLangAccess;"), (11, u "LOG2_ARRAY_BOOLEAN_INDEX_SCALE"), (9, u "LOG2_ARRAY_BYTE_INDEX_SCALE"), (5, u "LOG2_ARRAY_CHAR_INDEX_SCALE"), (5, u "LOG2_ARRAY_SHORT_INDEX_SCALE"), (18, u "LOG2_ARRAY_FLOAT_INDEX_SCALE"), (24, u "LOG2_ARRAY_DOUBLE_INDEX_SCALE"), (89, u "T_BOOLEAN"), (2, u "T_CHAR"), (1, u "T_FLOAT"), (1, u "T_DOUBLE"), (1, u "T_BYTE"), (1, u "T_SHORT"), (1, u "T_INT"), (1, u "T_LONG"), (1, u "SOFT_MAX_ARRAY_LENGTH")] 83

def k18m0 : Method := { name := "<init>", desc := "()V", sig := { parameters := [], returnType := none }, accessFlags := 2, code := none }
/-- jdk/internal/util/ArraysSupport -/
def k18 : Class := { plain "jdk/internal/util/ArraysSupport" (some 0) with
  accessFlags := 33
  interfaces := #[]
  cf := some (fileOf pool18 21 #[] #[{ accessFlags := 2, nameIndex := 9, descriptorIndex := 19, attributes := #[] }] 33 16 #[] #[{ accessFlags := 24, nameIndex := 28, descriptorIndex := 29, attributes := #[] }, { accessFlags := 26, nameIndex := 38, descriptorIndex := 39, attributes := #[] }, { accessFlags := 25, nameIndex := 121, descriptorIndex := 25, attributes := #[] }, { accessFlags := 25, nameIndex := 131, descriptorIndex := 25, attributes := #[] }, { accessFlags := 25, nameIndex := 137, descriptorIndex := 25, attributes := #[] }, { accessFlags := 25, nameIndex := 143, descriptorIndex := 25, attributes := #[] }, { accessFlags := 25, nameIndex := 53, descriptorIndex := 25, attributes := #[] }, { accessFlags := 25, nameIndex := 24, descriptorIndex := 25, attributes := #[] }, { accessFlags := 25, nameIndex := 162, descriptorIndex := 25, attributes := #[] }, { accessFlags := 25, nameIndex := 187, descriptorIndex := 25, attributes := #[] }, { accessFlags := 26, nameIndex := 48, descriptorIndex := 25, attributes := #[] }, { accessFlags := 25, nameIndex := 277, descriptorIndex := 25, attributes := #[] }, { accessFlags := 25, nameIndex := 280, descriptorIndex := 25, attributes := #[] }, { accessFlags := 25, nameIndex := 282, descriptorIndex := 25, attributes := #[] }, { accessFlags := 25, nameIndex := 284, descriptorIndex := 25, attributes := #[] }, { accessFlags := 25, nameIndex := 286, descriptorIndex := 25, attributes := #[] }, { accessFlags := 25, nameIndex := 288, descriptorIndex := 25, attributes := #[] }, { accessFlags := 25, nameIndex := 290, descriptorIndex := 25, attributes := #[] }, { accessFlags := 25, nameIndex := 292, descriptorIndex := 25, attributes := #[] }, { accessFlags := 26, nameIndex := 108, descriptorIndex := 109, attributes := #[] }, { accessFlags := 25, nameIndex := 294, descriptorIndex := 25, attributes := #[] }])
  fields := #[{ name := "U", type := (.object "jdk/internal/misc/Unsafe"), accessFlags := 24, slot := 0, constantValue := 0 }, { name := "BIG_ENDIAN", type := .boolean, accessFlags := 26, slot := 1, constantValue := 0 }, { name := "LOG2_ARRAY_BOOLEAN_INDEX_SCALE", type := .int, accessFlags := 25, slot := 2, constantValue := 0 }, { name := "LOG2_ARRAY_BYTE_INDEX_SCALE", type := .int, accessFlags := 25, slot := 3, constantValue := 0 }, { name := "LOG2_ARRAY_CHAR_INDEX_SCALE", type := .int, accessFlags := 25, slot := 4, constantValue := 0 }, { name := "LOG2_ARRAY_SHORT_INDEX_SCALE", type := .int, accessFlags := 25, slot := 5, constantValue := 0 }, { name := "LOG2_ARRAY_INT_INDEX_SCALE", type := .int, accessFlags := 25, slot := 6, constantValue := 0 }, { name := "LOG2_ARRAY_LONG_INDEX_SCALE", type := .int, accessFlags := 25, slot := 7, constantValue := 0 }, { name := "LOG2_ARRAY_FLOAT_INDEX_SCALE", type := .int, accessFlags := 25, slot := 8, constantValue := 0 }, { name := "LOG2_ARRAY_DOUBLE_INDEX_SCALE", type := .int, accessFlags := 25, slot := 9, constantValue := 0 }, { name := "LOG2_BYTE_BIT_SIZE", type := .int, accessFlags := 26, slot := 10, constantValue := 0 }, { name := "T_BOOLEAN", type := .int, accessFlags := 25, slot := 11, constantValue := 0 }, { name := "T_CHAR", type := .int, accessFlags := 25, slot := 12, constantValue := 0 }, { name := "T_FLOAT", type := .int, accessFlags := 25, slot := 13, constantValue := 0 }, { name := "T_DOUBLE", type := .int, accessFlags := 25, slot := 14, constantValue := 0 }, { name := "T_BYTE", type := .int, accessFlags := 25, slot := 15, constantValue := 0 }, { name := "T_SHORT", type := .int, accessFlags := 25, slot := 16, constantValue := 0 }, { name := "T_INT", type := .int, accessFlags := 25, slot := 17, constantValue := 0 }, { name := "T_LONG", type := .int, accessFlags := 25, slot := 18, constantValue := 0 }, { name := "JLA", type := (.object "jdk/internal/access/JavaLangAccess"), accessFlags := 26, slot := 19, constantValue := 0 }, { name := "SOFT_MAX_ARRAY_LENGTH", type := .int, accessFlags := 25, slot := 20, constantValue := 0 }]
  methods := #[k18m0]
  instanceTypes := #[]
  staticTypes := #[(.object "jdk/internal/misc/Unsafe"), .boolean, .int, .int, .int, .int, .int, .int, .int, .int, .int, .int, .int, .int, .int, .int, .int, .int, .int, (.object "jdk/internal/access/JavaLangAccess"), .int]
  resolved := Array.replicate 378 none
  statics := none }

def pool19 : Array CpInfo := pool [(1, u "java/lang/Cloneable"), (0, .class_ 1), (0, u "java/lang/Object"), (0, .class_ 3)] 3

/-- java/lang/Cloneable -/
def k19 : Class := { plain "java/lang/Cloneable" (some 0) with
  accessFlags := 1537
  interfaces := #[]
  cf := some (fileOf pool19 2 #[] #[] 1537 4 #[] #[])
  fields := #[]
  methods := #[]
  instanceTypes := #[]
  staticTypes := #[]
  resolved := Array.replicate 8 none
  statics := none }

/-- the primitive byte -/
def k20 : Class := { plain "byte" none with kind := .primitive 'B', accessFlags := 0x411 }
/-- [B -/
def k21 : Class := { plain "[B" (some 0) with kind := .array 20 .byte, interfaces := #[19, 5], accessFlags := 1041 }

/-- the primitive char -/
def k22 : Class := { plain "char" none with kind := .primitive 'C', accessFlags := 0x411 }
/-- [C -/
def k23 : Class := { plain "[C" (some 0) with kind := .array 22 .char, interfaces := #[19, 5], accessFlags := 1041 }

/-- the primitive int -/
def k24 : Class := { plain "int" none with kind := .primitive 'I', accessFlags := 0x411 }
/-- [I -/
def k25 : Class := { plain "[I" (some 0) with kind := .array 24 .int, interfaces := #[19, 5], accessFlags := 1041 }

/-- [Ljava/lang/Integer; -/
def k26 : Class := { plain "[Ljava/lang/Integer;" (some 0) with kind := .array 13 (.object "java/lang/Integer"), interfaces := #[19, 5], accessFlags := 1041 }

def heap : Heap := #[{ cls := 7, slots := #[.ref 261, .ref 262, .ref 263, .ref 264, .null, .null], vm := .statics 7 },
  { cls := 10, slots := #[.long 0, .int 1, .null, .int 0, .null, .int 0, .int 0], vm := .statics 10 },
  { cls := 14, slots := #[.int 0, .int 127, .ref 4, .null, .int 0], vm := .statics 14 },
  { cls := 17, slots := #[.null, .null, .null], vm := .statics 17 },
  { cls := 26, slots := #[.ref 5, .ref 6, .ref 7, .ref 8, .ref 9, .ref 10, .ref 11, .ref 12, .ref 13, .ref 14, .ref 15, .ref 16, .ref 17, .ref 18, .ref 19, .ref 20, .ref 21, .ref 22, .ref 23, .ref 24, .ref 25, .ref 26, .ref 27, .ref 28, .ref 29, .ref 30, .ref 31, .ref 32, .ref 33, .ref 34, .ref 35, .ref 36, .ref 37, .ref 38, .ref 39, .ref 40, .ref 41, .ref 42, .ref 43, .ref 44, .ref 45, .ref 46, .ref 47, .ref 48, .ref 49, .ref 50, .ref 51, .ref 52, .ref 53, .ref 54, .ref 55, .ref 56, .ref 57, .ref 58, .ref 59, .ref 60, .ref 61, .ref 62, .ref 63, .ref 64, .ref 65, .ref 66, .ref 67, .ref 68, .ref 69, .ref 70, .ref 71, .ref 72, .ref 73, .ref 74, .ref 75, .ref 76, .ref 77, .ref 78, .ref 79, .ref 80, .ref 81, .ref 82, .ref 83, .ref 84, .ref 85, .ref 86, .ref 87, .ref 88, .ref 89, .ref 90, .ref 91, .ref 92, .ref 93, .ref 94, .ref 95, .ref 96, .ref 97, .ref 98, .ref 99, .ref 100, .ref 101, .ref 102, .ref 103, .ref 104, .ref 105, .ref 106, .ref 107, .ref 108, .ref 109, .ref 110, .ref 111, .ref 112, .ref 113, .ref 114, .ref 115, .ref 116, .ref 117, .ref 118, .ref 119, .ref 120, .ref 121, .ref 122, .ref 123, .ref 124, .ref 125, .ref 126, .ref 127, .ref 128, .ref 129, .ref 130, .ref 131, .ref 132, .ref 133, .ref 134, .ref 135, .ref 136, .ref 137, .ref 138, .ref 139, .ref 140, .ref 141, .ref 142, .ref 143, .ref 144, .ref 145, .ref 146, .ref 147, .ref 148, .ref 149, .ref 150, .ref 151, .ref 152, .ref 153, .ref 154, .ref 155, .ref 156, .ref 157, .ref 158, .ref 159, .ref 160, .ref 161, .ref 162, .ref 163, .ref 164, .ref 165, .ref 166, .ref 167, .ref 168, .ref 169, .ref 170, .ref 171, .ref 172, .ref 173, .ref 174, .ref 175, .ref 176, .ref 177, .ref 178, .ref 179, .ref 180, .ref 181, .ref 182, .ref 183, .ref 184, .ref 185, .ref 186, .ref 187, .ref 188, .ref 189, .ref 190, .ref 191, .ref 192, .ref 193, .ref 194, .ref 195, .ref 196, .ref 197, .ref 198, .ref 199, .ref 200, .ref 201, .ref 202, .ref 203, .ref 204, .ref 205, .ref 206, .ref 207, .ref 208, .ref 209, .ref 210, .ref 211, .ref 212, .ref 213, .ref 214, .ref 215, .ref 216, .ref 217, .ref 218, .ref 219, .ref 220, .ref 221, .ref 222, .ref 223, .ref 224, .ref 225, .ref 226, .ref 227, .ref 228, .ref 229, .ref 230, .ref 231, .ref 232, .ref 233, .ref 234, .ref 235, .ref 236, .ref 237, .ref 238, .ref 239, .ref 240, .ref 241, .ref 242, .ref 243, .ref 244, .ref 245, .ref 246, .ref 247, .ref 248, .ref 249, .ref 250, .ref 251, .ref 252, .ref 253, .ref 254, .ref 255, .ref 256, .ref 257, .ref 258, .ref 259, .ref 260], vm := .none },
  { cls := 13, slots := #[.int (-128)], vm := .none },
  { cls := 13, slots := #[.int (-127)], vm := .none },
  { cls := 13, slots := #[.int (-126)], vm := .none },
  { cls := 13, slots := #[.int (-125)], vm := .none },
  { cls := 13, slots := #[.int (-124)], vm := .none },
  { cls := 13, slots := #[.int (-123)], vm := .none },
  { cls := 13, slots := #[.int (-122)], vm := .none },
  { cls := 13, slots := #[.int (-121)], vm := .none },
  { cls := 13, slots := #[.int (-120)], vm := .none },
  { cls := 13, slots := #[.int (-119)], vm := .none },
  { cls := 13, slots := #[.int (-118)], vm := .none },
  { cls := 13, slots := #[.int (-117)], vm := .none },
  { cls := 13, slots := #[.int (-116)], vm := .none },
  { cls := 13, slots := #[.int (-115)], vm := .none },
  { cls := 13, slots := #[.int (-114)], vm := .none },
  { cls := 13, slots := #[.int (-113)], vm := .none },
  { cls := 13, slots := #[.int (-112)], vm := .none },
  { cls := 13, slots := #[.int (-111)], vm := .none },
  { cls := 13, slots := #[.int (-110)], vm := .none },
  { cls := 13, slots := #[.int (-109)], vm := .none },
  { cls := 13, slots := #[.int (-108)], vm := .none },
  { cls := 13, slots := #[.int (-107)], vm := .none },
  { cls := 13, slots := #[.int (-106)], vm := .none },
  { cls := 13, slots := #[.int (-105)], vm := .none },
  { cls := 13, slots := #[.int (-104)], vm := .none },
  { cls := 13, slots := #[.int (-103)], vm := .none },
  { cls := 13, slots := #[.int (-102)], vm := .none },
  { cls := 13, slots := #[.int (-101)], vm := .none },
  { cls := 13, slots := #[.int (-100)], vm := .none },
  { cls := 13, slots := #[.int (-99)], vm := .none },
  { cls := 13, slots := #[.int (-98)], vm := .none },
  { cls := 13, slots := #[.int (-97)], vm := .none },
  { cls := 13, slots := #[.int (-96)], vm := .none },
  { cls := 13, slots := #[.int (-95)], vm := .none },
  { cls := 13, slots := #[.int (-94)], vm := .none },
  { cls := 13, slots := #[.int (-93)], vm := .none },
  { cls := 13, slots := #[.int (-92)], vm := .none },
  { cls := 13, slots := #[.int (-91)], vm := .none },
  { cls := 13, slots := #[.int (-90)], vm := .none },
  { cls := 13, slots := #[.int (-89)], vm := .none },
  { cls := 13, slots := #[.int (-88)], vm := .none },
  { cls := 13, slots := #[.int (-87)], vm := .none },
  { cls := 13, slots := #[.int (-86)], vm := .none },
  { cls := 13, slots := #[.int (-85)], vm := .none },
  { cls := 13, slots := #[.int (-84)], vm := .none },
  { cls := 13, slots := #[.int (-83)], vm := .none },
  { cls := 13, slots := #[.int (-82)], vm := .none },
  { cls := 13, slots := #[.int (-81)], vm := .none },
  { cls := 13, slots := #[.int (-80)], vm := .none },
  { cls := 13, slots := #[.int (-79)], vm := .none },
  { cls := 13, slots := #[.int (-78)], vm := .none },
  { cls := 13, slots := #[.int (-77)], vm := .none },
  { cls := 13, slots := #[.int (-76)], vm := .none },
  { cls := 13, slots := #[.int (-75)], vm := .none },
  { cls := 13, slots := #[.int (-74)], vm := .none },
  { cls := 13, slots := #[.int (-73)], vm := .none },
  { cls := 13, slots := #[.int (-72)], vm := .none },
  { cls := 13, slots := #[.int (-71)], vm := .none },
  { cls := 13, slots := #[.int (-70)], vm := .none },
  { cls := 13, slots := #[.int (-69)], vm := .none },
  { cls := 13, slots := #[.int (-68)], vm := .none },
  { cls := 13, slots := #[.int (-67)], vm := .none },
  { cls := 13, slots := #[.int (-66)], vm := .none },
  { cls := 13, slots := #[.int (-65)], vm := .none },
  { cls := 13, slots := #[.int (-64)], vm := .none },
  { cls := 13, slots := #[.int (-63)], vm := .none },
  { cls := 13, slots := #[.int (-62)], vm := .none },
  { cls := 13, slots := #[.int (-61)], vm := .none },
  { cls := 13, slots := #[.int (-60)], vm := .none },
  { cls := 13, slots := #[.int (-59)], vm := .none },
  { cls := 13, slots := #[.int (-58)], vm := .none },
  { cls := 13, slots := #[.int (-57)], vm := .none },
  { cls := 13, slots := #[.int (-56)], vm := .none },
  { cls := 13, slots := #[.int (-55)], vm := .none },
  { cls := 13, slots := #[.int (-54)], vm := .none },
  { cls := 13, slots := #[.int (-53)], vm := .none },
  { cls := 13, slots := #[.int (-52)], vm := .none },
  { cls := 13, slots := #[.int (-51)], vm := .none },
  { cls := 13, slots := #[.int (-50)], vm := .none },
  { cls := 13, slots := #[.int (-49)], vm := .none },
  { cls := 13, slots := #[.int (-48)], vm := .none },
  { cls := 13, slots := #[.int (-47)], vm := .none },
  { cls := 13, slots := #[.int (-46)], vm := .none },
  { cls := 13, slots := #[.int (-45)], vm := .none },
  { cls := 13, slots := #[.int (-44)], vm := .none },
  { cls := 13, slots := #[.int (-43)], vm := .none },
  { cls := 13, slots := #[.int (-42)], vm := .none },
  { cls := 13, slots := #[.int (-41)], vm := .none },
  { cls := 13, slots := #[.int (-40)], vm := .none },
  { cls := 13, slots := #[.int (-39)], vm := .none },
  { cls := 13, slots := #[.int (-38)], vm := .none },
  { cls := 13, slots := #[.int (-37)], vm := .none },
  { cls := 13, slots := #[.int (-36)], vm := .none },
  { cls := 13, slots := #[.int (-35)], vm := .none },
  { cls := 13, slots := #[.int (-34)], vm := .none },
  { cls := 13, slots := #[.int (-33)], vm := .none },
  { cls := 13, slots := #[.int (-32)], vm := .none },
  { cls := 13, slots := #[.int (-31)], vm := .none },
  { cls := 13, slots := #[.int (-30)], vm := .none },
  { cls := 13, slots := #[.int (-29)], vm := .none },
  { cls := 13, slots := #[.int (-28)], vm := .none },
  { cls := 13, slots := #[.int (-27)], vm := .none },
  { cls := 13, slots := #[.int (-26)], vm := .none },
  { cls := 13, slots := #[.int (-25)], vm := .none },
  { cls := 13, slots := #[.int (-24)], vm := .none },
  { cls := 13, slots := #[.int (-23)], vm := .none },
  { cls := 13, slots := #[.int (-22)], vm := .none },
  { cls := 13, slots := #[.int (-21)], vm := .none },
  { cls := 13, slots := #[.int (-20)], vm := .none },
  { cls := 13, slots := #[.int (-19)], vm := .none },
  { cls := 13, slots := #[.int (-18)], vm := .none },
  { cls := 13, slots := #[.int (-17)], vm := .none },
  { cls := 13, slots := #[.int (-16)], vm := .none },
  { cls := 13, slots := #[.int (-15)], vm := .none },
  { cls := 13, slots := #[.int (-14)], vm := .none },
  { cls := 13, slots := #[.int (-13)], vm := .none },
  { cls := 13, slots := #[.int (-12)], vm := .none },
  { cls := 13, slots := #[.int (-11)], vm := .none },
  { cls := 13, slots := #[.int (-10)], vm := .none },
  { cls := 13, slots := #[.int (-9)], vm := .none },
  { cls := 13, slots := #[.int (-8)], vm := .none },
  { cls := 13, slots := #[.int (-7)], vm := .none },
  { cls := 13, slots := #[.int (-6)], vm := .none },
  { cls := 13, slots := #[.int (-5)], vm := .none },
  { cls := 13, slots := #[.int (-4)], vm := .none },
  { cls := 13, slots := #[.int (-3)], vm := .none },
  { cls := 13, slots := #[.int (-2)], vm := .none },
  { cls := 13, slots := #[.int (-1)], vm := .none },
  { cls := 13, slots := #[.int (0)], vm := .none },
  { cls := 13, slots := #[.int (1)], vm := .none },
  { cls := 13, slots := #[.int (2)], vm := .none },
  { cls := 13, slots := #[.int (3)], vm := .none },
  { cls := 13, slots := #[.int (4)], vm := .none },
  { cls := 13, slots := #[.int (5)], vm := .none },
  { cls := 13, slots := #[.int (6)], vm := .none },
  { cls := 13, slots := #[.int (7)], vm := .none },
  { cls := 13, slots := #[.int (8)], vm := .none },
  { cls := 13, slots := #[.int (9)], vm := .none },
  { cls := 13, slots := #[.int (10)], vm := .none },
  { cls := 13, slots := #[.int (11)], vm := .none },
  { cls := 13, slots := #[.int (12)], vm := .none },
  { cls := 13, slots := #[.int (13)], vm := .none },
  { cls := 13, slots := #[.int (14)], vm := .none },
  { cls := 13, slots := #[.int (15)], vm := .none },
  { cls := 13, slots := #[.int (16)], vm := .none },
  { cls := 13, slots := #[.int (17)], vm := .none },
  { cls := 13, slots := #[.int (18)], vm := .none },
  { cls := 13, slots := #[.int (19)], vm := .none },
  { cls := 13, slots := #[.int (20)], vm := .none },
  { cls := 13, slots := #[.int (21)], vm := .none },
  { cls := 13, slots := #[.int (22)], vm := .none },
  { cls := 13, slots := #[.int (23)], vm := .none },
  { cls := 13, slots := #[.int (24)], vm := .none },
  { cls := 13, slots := #[.int (25)], vm := .none },
  { cls := 13, slots := #[.int (26)], vm := .none },
  { cls := 13, slots := #[.int (27)], vm := .none },
  { cls := 13, slots := #[.int (28)], vm := .none },
  { cls := 13, slots := #[.int (29)], vm := .none },
  { cls := 13, slots := #[.int (30)], vm := .none },
  { cls := 13, slots := #[.int (31)], vm := .none },
  { cls := 13, slots := #[.int (32)], vm := .none },
  { cls := 13, slots := #[.int (33)], vm := .none },
  { cls := 13, slots := #[.int (34)], vm := .none },
  { cls := 13, slots := #[.int (35)], vm := .none },
  { cls := 13, slots := #[.int (36)], vm := .none },
  { cls := 13, slots := #[.int (37)], vm := .none },
  { cls := 13, slots := #[.int (38)], vm := .none },
  { cls := 13, slots := #[.int (39)], vm := .none },
  { cls := 13, slots := #[.int (40)], vm := .none },
  { cls := 13, slots := #[.int (41)], vm := .none },
  { cls := 13, slots := #[.int (42)], vm := .none },
  { cls := 13, slots := #[.int (43)], vm := .none },
  { cls := 13, slots := #[.int (44)], vm := .none },
  { cls := 13, slots := #[.int (45)], vm := .none },
  { cls := 13, slots := #[.int (46)], vm := .none },
  { cls := 13, slots := #[.int (47)], vm := .none },
  { cls := 13, slots := #[.int (48)], vm := .none },
  { cls := 13, slots := #[.int (49)], vm := .none },
  { cls := 13, slots := #[.int (50)], vm := .none },
  { cls := 13, slots := #[.int (51)], vm := .none },
  { cls := 13, slots := #[.int (52)], vm := .none },
  { cls := 13, slots := #[.int (53)], vm := .none },
  { cls := 13, slots := #[.int (54)], vm := .none },
  { cls := 13, slots := #[.int (55)], vm := .none },
  { cls := 13, slots := #[.int (56)], vm := .none },
  { cls := 13, slots := #[.int (57)], vm := .none },
  { cls := 13, slots := #[.int (58)], vm := .none },
  { cls := 13, slots := #[.int (59)], vm := .none },
  { cls := 13, slots := #[.int (60)], vm := .none },
  { cls := 13, slots := #[.int (61)], vm := .none },
  { cls := 13, slots := #[.int (62)], vm := .none },
  { cls := 13, slots := #[.int (63)], vm := .none },
  { cls := 13, slots := #[.int (64)], vm := .none },
  { cls := 13, slots := #[.int (65)], vm := .none },
  { cls := 13, slots := #[.int (66)], vm := .none },
  { cls := 13, slots := #[.int (67)], vm := .none },
  { cls := 13, slots := #[.int (68)], vm := .none },
  { cls := 13, slots := #[.int (69)], vm := .none },
  { cls := 13, slots := #[.int (70)], vm := .none },
  { cls := 13, slots := #[.int (71)], vm := .none },
  { cls := 13, slots := #[.int (72)], vm := .none },
  { cls := 13, slots := #[.int (73)], vm := .none },
  { cls := 13, slots := #[.int (74)], vm := .none },
  { cls := 13, slots := #[.int (75)], vm := .none },
  { cls := 13, slots := #[.int (76)], vm := .none },
  { cls := 13, slots := #[.int (77)], vm := .none },
  { cls := 13, slots := #[.int (78)], vm := .none },
  { cls := 13, slots := #[.int (79)], vm := .none },
  { cls := 13, slots := #[.int (80)], vm := .none },
  { cls := 13, slots := #[.int (81)], vm := .none },
  { cls := 13, slots := #[.int (82)], vm := .none },
  { cls := 13, slots := #[.int (83)], vm := .none },
  { cls := 13, slots := #[.int (84)], vm := .none },
  { cls := 13, slots := #[.int (85)], vm := .none },
  { cls := 13, slots := #[.int (86)], vm := .none },
  { cls := 13, slots := #[.int (87)], vm := .none },
  { cls := 13, slots := #[.int (88)], vm := .none },
  { cls := 13, slots := #[.int (89)], vm := .none },
  { cls := 13, slots := #[.int (90)], vm := .none },
  { cls := 13, slots := #[.int (91)], vm := .none },
  { cls := 13, slots := #[.int (92)], vm := .none },
  { cls := 13, slots := #[.int (93)], vm := .none },
  { cls := 13, slots := #[.int (94)], vm := .none },
  { cls := 13, slots := #[.int (95)], vm := .none },
  { cls := 13, slots := #[.int (96)], vm := .none },
  { cls := 13, slots := #[.int (97)], vm := .none },
  { cls := 13, slots := #[.int (98)], vm := .none },
  { cls := 13, slots := #[.int (99)], vm := .none },
  { cls := 13, slots := #[.int (100)], vm := .none },
  { cls := 13, slots := #[.int (101)], vm := .none },
  { cls := 13, slots := #[.int (102)], vm := .none },
  { cls := 13, slots := #[.int (103)], vm := .none },
  { cls := 13, slots := #[.int (104)], vm := .none },
  { cls := 13, slots := #[.int (105)], vm := .none },
  { cls := 13, slots := #[.int (106)], vm := .none },
  { cls := 13, slots := #[.int (107)], vm := .none },
  { cls := 13, slots := #[.int (108)], vm := .none },
  { cls := 13, slots := #[.int (109)], vm := .none },
  { cls := 13, slots := #[.int (110)], vm := .none },
  { cls := 13, slots := #[.int (111)], vm := .none },
  { cls := 13, slots := #[.int (112)], vm := .none },
  { cls := 13, slots := #[.int (113)], vm := .none },
  { cls := 13, slots := #[.int (114)], vm := .none },
  { cls := 13, slots := #[.int (115)], vm := .none },
  { cls := 13, slots := #[.int (116)], vm := .none },
  { cls := 13, slots := #[.int (117)], vm := .none },
  { cls := 13, slots := #[.int (118)], vm := .none },
  { cls := 13, slots := #[.int (119)], vm := .none },
  { cls := 13, slots := #[.int (120)], vm := .none },
  { cls := 13, slots := #[.int (121)], vm := .none },
  { cls := 13, slots := #[.int (122)], vm := .none },
  { cls := 13, slots := #[.int (123)], vm := .none },
  { cls := 13, slots := #[.int (124)], vm := .none },
  { cls := 13, slots := #[.int (125)], vm := .none },
  { cls := 13, slots := #[.int (126)], vm := .none },
  { cls := 13, slots := #[.int (127)], vm := .none },
  { cls := 7, slots := #[.null, .int 0, .int 0, .int 0], vm := .none },
  { cls := 7, slots := #[.null, .int 1, .int 0, .int 0], vm := .none },
  { cls := 7, slots := #[.null, .int 2, .int 0, .int 0], vm := .none },
  { cls := 7, slots := #[.null, .int 3, .int 0, .int 0], vm := .none }]
def classes : Array Class := #[k0, k1, k2, k3, k4, k5, k6, k7, k8, k9, k10, k11, k12, k13, k14, k15, k16, k17, k18, k19, k20, k21, k22, k23, k24, k25, k26]
def interned : List (Array UInt16 × Addr) := []
def slotsUsed : Nat := 549
def theMethod : MethodId := ⟨1, 2⟩
def args0 : Array Value := #[.int 5, .int 300, .int 7, .int 700, .int 3]
def aboutOver (below : List Frame) : State where
  vm := { classes := classes, interned := interned.toArray }
  heap := heap
  slotsUsed := slotsUsed
  threads := #[{ frames := .invoking theMethod args0 :: below }]
def below0 : List Frame := [.native { method := ⟨0, 0⟩, args := #[] }]
def about1 : State := aboutOver below0
def p0 : Program := .bare "" "" ""
def e0 : Env := launch0.env 0 0 0
theorem w_frames : about1.frames = Frame.invoking theMethod args0 :: below0 := rfl
set_option maxRecDepth 65536 in
theorem w_args : argsFit about1.vm theMethod args0 = true := by decide +kernel
set_option maxRecDepth 65536 in
theorem w_heap : heapFits about1 = true := by decide +kernel
set_option maxRecDepth 65536 in
theorem w_runnable : about1.curStatus? = some .runnable := by decide +kernel
set_option maxRecDepth 65536 in
theorem w_alone : about1.alone = true := by decide +kernel
set_option maxRecDepth 65536 in
theorem w_named : about1.methodNamed? x = some theMethod := by decide +kernel
set_option maxRecDepth 65536 in
theorem w_hears : about1.hears theMethod below0 = true := by decide +kernel
set_option maxRecDepth 65536 in
theorem w_ripe : about1.ripe theMethod args0 below0 = true := by decide +kernel
theorem w_running : about1.status = .running := rfl
set_option maxRecDepth 65536 in
theorem w_room : about1.hasRoom e0.platform room_1 = true :=
  launch0.hasRoom_least _ room_1 (by decide +kernel) (by decide +kernel) (by decide +kernel) (by decide +kernel) (by decide +kernel) (by decide +kernel)
theorem allAtoms_all (ts : List Jvm.Cond) (a : Array Jvm.Value) (st : Jvm.State) : (allAtoms ts).before a st = ts.all (fun c => c.before a st) := by
  induction ts with
  | nil => rfl
  | cons c t ih =>
    show (Jvm.Cond.and c (allAtoms t)).before a st = _
    rw [Jvm.Cond.before_and, ih, List.all_cons]
def words1 : List Jvm.Cond := Jvm.Cond.code x code maxLocals ret :: tables_1
/-- a 'code' word, met by the world's own term for the bytes: nothing is compared byte by byte -/
theorem code_word {y : MethodName} {bytes : ByteArray} {mx : Nat} {rt : Option FieldType} {a : Array Value} {s : State} {m : MethodId} {meth : Method} {c : Code} (h1 : s.methodNamed? y = some m) (h2 : s.vm.method? m = some meth) (h3 : meth.code = some c) (h4 : c.code = bytes)
    (h5 : (c.maxLocals == mx && c.exceptionTable.isEmpty && decide (c.maxStack ≤ mostOperands) && decide (meth.sig.returnType = rt) && !meth.locks && decide (parseMethodDescriptor y.desc = some meth.sig)) = true) : (Jvm.Cond.code y bytes mx rt).before a s = true := by
  simp only [Bool.and_eq_true, beq_iff_eq, Bool.not_eq_true', decide_eq_true_eq] at h5
  obtain ⟨⟨⟨⟨⟨g1, g2⟩, g3⟩, g4⟩, g5⟩, g6⟩ := h5
  simp [Cond.before, Cond.holds, Cond.value, h1, h2, h3, h4, g1, g2, g3, g4, g5, g6]
def isCode : Jvm.Cond → Bool
  | .code _ _ _ _ => true
  | _ => false
theorem all_split {L : List Jvm.Cond} {P : Jvm.Cond → Bool} (h1 : L.all (fun c => isCode c || P c) = true) (h2 : ∀ c ∈ L.filter isCode, P c = true) : L.all P = true := by
  refine List.all_eq_true.mpr fun c hc => ?_
  have h := List.all_eq_true.mp h1 c hc
  rcases Bool.eq_false_or_eq_true (isCode c) with hi | hi
  · exact h2 c (List.mem_filter.mpr ⟨hc, hi⟩)
  · simpa [hi] using h
set_option maxRecDepth 65536 in
theorem w_c0 : (Jvm.Cond.code x code maxLocals ret).before args0 about1 = true := code_word (m := ⟨1, 2⟩) (meth := k1m2) (c := k1c2) (by decide +kernel) rfl rfl rfl (by decide +kernel)
set_option maxRecDepth 65536 in
theorem w_c1 : (Jvm.Cond.code ({ cls := "com/example/clearbrace/clearbrace/schema/TagEqualsPinLaw", name := "cls", desc := "(I)Lcom/example/clearbrace/clearbrace/schema/TagClass;" } : Jvm.MethodName) method_2_code (1 : Nat) (Option.some (Jvm.ClassFile.FieldType.object "com/example/clearbrace/clearbrace/schema/TagClass"))).before args0 about1 = true := code_word (m := ⟨1, 1⟩) (meth := k1m1) (c := k1c1) (by decide +kernel) rfl rfl rfl (by decide +kernel)
set_option maxRecDepth 65536 in
theorem w_c2 : (Jvm.Cond.code ({ cls := "com/example/clearbrace/clearbrace/schema/Tag", name := "<init>", desc := "(Lcom/example/clearbrace/clearbrace/schema/TagClass;I)V" } : Jvm.MethodName) prog_76_method_1_code (3 : Nat) (Option.none : Option Jvm.ClassFile.FieldType)).before args0 about1 = true := code_word (m := ⟨2, 0⟩) (meth := k2m0) (c := k2c0) (by decide +kernel) rfl rfl rfl (by decide +kernel)
set_option maxRecDepth 65536 in
theorem w_c3 : (Jvm.Cond.code ({ cls := "java/lang/Object", name := "<init>", desc := "()V" } : Jvm.MethodName) object_method_1_code (1 : Nat) (Option.none : Option Jvm.ClassFile.FieldType)).before args0 about1 = true := code_word (m := ⟨0, 0⟩) (meth := k0m0) (c := k0c0) (by decide +kernel) rfl rfl rfl (by decide +kernel)
set_option maxRecDepth 65536 in
theorem w_c4 : (Jvm.Cond.code ({ cls := "java/util/Objects", name := "requireNonNull", desc := "(Ljava/lang/Object;Ljava/lang/String;)Ljava/lang/Object;" } : Jvm.MethodName) jdk_31_method_11_code (2 : Nat) (Option.some (Jvm.ClassFile.FieldType.object "java/lang/Object"))).before args0 about1 = true := code_word (m := ⟨11, 1⟩) (meth := k11m1) (c := k11c1) (by decide +kernel) rfl rfl rfl (by decide +kernel)
set_option maxRecDepth 65536 in
theorem w_c5 : (Jvm.Cond.code ({ cls := "com/example/clearbrace/clearbrace/schema/Tag", name := "equals", desc := "(Ljava/lang/Object;)Z" } : Jvm.MethodName) prog_76_method_6_code (3 : Nat) (Option.some Jvm.ClassFile.FieldType.boolean)).before args0 about1 = true := code_word (m := ⟨2, 1⟩) (meth := k2m1) (c := k2c1) (by decide +kernel) rfl rfl rfl (by decide +kernel)
set_option maxRecDepth 65536 in
theorem w_c6 : (Jvm.Cond.code ({ cls := "java/lang/Integer", name := "valueOf", desc := "(I)Ljava/lang/Integer;" } : Jvm.MethodName) jdk_33_method_22_code (1 : Nat) (Option.some (Jvm.ClassFile.FieldType.object "java/lang/Integer"))).before args0 about1 = true := code_word (m := ⟨13, 0⟩) (meth := k13m0) (c := k13c0) (by decide +kernel) rfl rfl rfl (by decide +kernel)
set_option maxRecDepth 65536 in
theorem w_c7 : (Jvm.Cond.code ({ cls := "java/lang/Integer", name := "<init>", desc := "(I)V" } : Jvm.MethodName) jdk_33_method_23_code (2 : Nat) (Option.none : Option Jvm.ClassFile.FieldType)).before args0 about1 = true := code_word (m := ⟨13, 1⟩) (meth := k13m1) (c := k13c1) (by decide +kernel) rfl rfl rfl (by decide +kernel)
set_option maxRecDepth 65536 in
theorem w_c8 : (Jvm.Cond.code ({ cls := "java/lang/Number", name := "<init>", desc := "()V" } : Jvm.MethodName) jdk_18_method_1_code (1 : Nat) (Option.none : Option Jvm.ClassFile.FieldType)).before args0 about1 = true := code_word (m := ⟨12, 0⟩) (meth := k12m0) (c := k12c0) (by decide +kernel) rfl rfl rfl (by decide +kernel)
set_option maxRecDepth 65536 in
theorem w_c9 : (Jvm.Cond.code ({ cls := "java/lang/String", name := "<init>", desc := "([C)V" } : Jvm.MethodName) jdk_42_method_3_code (2 : Nat) (Option.none : Option Jvm.ClassFile.FieldType)).before args0 about1 = true := code_word (m := ⟨10, 1⟩) (meth := k10m1) (c := k10c1) (by decide +kernel) rfl rfl rfl (by decide +kernel)
set_option maxRecDepth 65536 in
theorem w_c10 : (Jvm.Cond.code ({ cls := "java/lang/String", name := "<init>", desc := "([CIILjava/lang/Void;)V" } : Jvm.MethodName) jdk_42_method_149_code (6 : Nat) (Option.none : Option Jvm.ClassFile.FieldType)).before args0 about1 = true := code_word (m := ⟨10, 2⟩) (meth := k10m2) (c := k10c2) (by decide +kernel) rfl rfl rfl (by decide +kernel)
set_option maxRecDepth 65536 in
theorem w_c11 : (Jvm.Cond.code ({ cls := "java/lang/StringUTF16", name := "compress", desc := "([CII)[B" } : Jvm.MethodName) jdk_52_method_16_code (6 : Nat) (Option.some (Jvm.ClassFile.FieldType.array Jvm.ClassFile.FieldType.byte))).before args0 about1 = true := code_word (m := ⟨15, 2⟩) (meth := k15m2) (c := k15c2) (by decide +kernel) rfl rfl rfl (by decide +kernel)
set_option maxRecDepth 65536 in
theorem w_c12 : (Jvm.Cond.code ({ cls := "java/lang/StringUTF16", name := "compress", desc := "([CI[BII)I" } : Jvm.MethodName) jdk_52_method_21_code (7 : Nat) (Option.some Jvm.ClassFile.FieldType.int)).before args0 about1 = true := code_word (m := ⟨15, 3⟩) (meth := k15m3) (c := k15c3) (by decide +kernel) rfl rfl rfl (by decide +kernel)
set_option maxRecDepth 65536 in
theorem w_c13 : (Jvm.Cond.code ({ cls := "java/lang/StringUTF16", name := "coderFromArrayLen", desc := "([BI)B" } : Jvm.MethodName) jdk_52_method_15_code (2 : Nat) (Option.some Jvm.ClassFile.FieldType.byte)).before args0 about1 = true := code_word (m := ⟨15, 1⟩) (meth := k15m1) (c := k15c1) (by decide +kernel) rfl rfl rfl (by decide +kernel)
def codes1 : List Jvm.Cond := [Jvm.Cond.code x code maxLocals ret, Jvm.Cond.code ({ cls := "com/example/clearbrace/clearbrace/schema/TagEqualsPinLaw", name := "cls", desc := "(I)Lcom/example/clearbrace/clearbrace/schema/TagClass;" } : Jvm.MethodName) method_2_code (1 : Nat) (Option.some (Jvm.ClassFile.FieldType.object "com/example/clearbrace/clearbrace/schema/TagClass")), Jvm.Cond.code ({ cls := "com/example/clearbrace/clearbrace/schema/Tag", name := "<init>", desc := "(Lcom/example/clearbrace/clearbrace/schema/TagClass;I)V" } : Jvm.MethodName) prog_76_method_1_code (3 : Nat) (Option.none : Option Jvm.ClassFile.FieldType), Jvm.Cond.code ({ cls := "java/lang/Object", name := "<init>", desc := "()V" } : Jvm.MethodName) object_method_1_code (1 : Nat) (Option.none : Option Jvm.ClassFile.FieldType), Jvm.Cond.code ({ cls := "java/util/Objects", name := "requireNonNull", desc := "(Ljava/lang/Object;Ljava/lang/String;)Ljava/lang/Object;" } : Jvm.MethodName) jdk_31_method_11_code (2 : Nat) (Option.some (Jvm.ClassFile.FieldType.object "java/lang/Object")), Jvm.Cond.code ({ cls := "com/example/clearbrace/clearbrace/schema/Tag", name := "equals", desc := "(Ljava/lang/Object;)Z" } : Jvm.MethodName) prog_76_method_6_code (3 : Nat) (Option.some Jvm.ClassFile.FieldType.boolean), Jvm.Cond.code ({ cls := "java/lang/Integer", name := "valueOf", desc := "(I)Ljava/lang/Integer;" } : Jvm.MethodName) jdk_33_method_22_code (1 : Nat) (Option.some (Jvm.ClassFile.FieldType.object "java/lang/Integer")), Jvm.Cond.code ({ cls := "java/lang/Integer", name := "<init>", desc := "(I)V" } : Jvm.MethodName) jdk_33_method_23_code (2 : Nat) (Option.none : Option Jvm.ClassFile.FieldType), Jvm.Cond.code ({ cls := "java/lang/Number", name := "<init>", desc := "()V" } : Jvm.MethodName) jdk_18_method_1_code (1 : Nat) (Option.none : Option Jvm.ClassFile.FieldType), Jvm.Cond.code ({ cls := "java/lang/String", name := "<init>", desc := "([C)V" } : Jvm.MethodName) jdk_42_method_3_code (2 : Nat) (Option.none : Option Jvm.ClassFile.FieldType), Jvm.Cond.code ({ cls := "java/lang/String", name := "<init>", desc := "([CIILjava/lang/Void;)V" } : Jvm.MethodName) jdk_42_method_149_code (6 : Nat) (Option.none : Option Jvm.ClassFile.FieldType), Jvm.Cond.code ({ cls := "java/lang/StringUTF16", name := "compress", desc := "([CII)[B" } : Jvm.MethodName) jdk_52_method_16_code (6 : Nat) (Option.some (Jvm.ClassFile.FieldType.array Jvm.ClassFile.FieldType.byte)), Jvm.Cond.code ({ cls := "java/lang/StringUTF16", name := "compress", desc := "([CI[BII)I" } : Jvm.MethodName) jdk_52_method_21_code (7 : Nat) (Option.some Jvm.ClassFile.FieldType.int), Jvm.Cond.code ({ cls := "java/lang/StringUTF16", name := "coderFromArrayLen", desc := "([BI)B" } : Jvm.MethodName) jdk_52_method_15_code (2 : Nat) (Option.some Jvm.ClassFile.FieldType.byte)]
set_option maxRecDepth 65536 in
theorem codes_eq : words1.filter isCode = codes1 := rfl
theorem w_codes : ∀ c ∈ words1.filter isCode, c.before args0 about1 = true := by
  rw [codes_eq]
  intro c hc
  simp only [codes1, List.mem_cons, List.not_mem_nil, or_false] at hc
  rcases hc with rfl | rfl | rfl | rfl | rfl | rfl | rfl | rfl | rfl | rfl | rfl | rfl | rfl | rfl
  · exact w_c0
  · exact w_c1
  · exact w_c2
  · exact w_c3
  · exact w_c4
  · exact w_c5
  · exact w_c6
  · exact w_c7
  · exact w_c8
  · exact w_c9
  · exact w_c10
  · exact w_c11
  · exact w_c12
  · exact w_c13
set_option maxRecDepth 65536 in
theorem w_t1 : (words1.take 24).all (fun c => isCode c || c.before args0 about1) = true := by decide +kernel
set_option maxRecDepth 65536 in
theorem w_t2 : ((words1.drop 24).take 24).all (fun c => isCode c || c.before args0 about1) = true := by decide +kernel
set_option maxRecDepth 65536 in
theorem w_t3 : (((words1.drop 24).drop 24).take 24).all (fun c => isCode c || c.before args0 about1) = true := by decide +kernel
set_option maxRecDepth 65536 in
theorem w_t4 : ((((words1.drop 24).drop 24).drop 24).take 24).all (fun c => isCode c || c.before args0 about1) = true := by decide +kernel
set_option maxRecDepth 65536 in
theorem w_t5 : ((((words1.drop 24).drop 24).drop 24).drop 24).all (fun c => isCode c || c.before args0 about1) = true := by decide +kernel
theorem w_tables : (allAtoms (Jvm.Cond.code x code maxLocals ret :: tables_1)).before args0 about1 = true := by
  rw [allAtoms_all]
  show words1.all (fun c => c.before args0 about1) = true
  refine all_split ?_ w_codes
  rw [← List.take_append_drop 24 words1, List.all_append, w_t1, ← List.take_append_drop 24 (words1.drop 24), List.all_append, w_t2, ← List.take_append_drop 24 ((words1.drop 24).drop 24), List.all_append, w_t3, ← List.take_append_drop 24 (((words1.drop 24).drop 24).drop 24), List.all_append, w_t4, w_t5]
  rfl
set_option maxRecDepth 65536 in
theorem w_rest : rest_1_c.before args0 about1 = true := by decide +kernel
set_option maxRecDepth 65536 in
theorem w_case : (Jvm.Cond.and given_1 narrow_1).before args0 about1 = true := by decide +kernel
theorem w_applies : (headSpec (Jvm.Cond.code x code maxLocals ret :: tables_1) room_1).applies x e0.platform about1 = true :=
  (Spec.applies_iff w_frames).mpr ⟨w_running, w_runnable, w_alone, w_named, w_hears, w_ripe, w_room, w_tables⟩
theorem atStart : AtStart classFile x code maxLocals ret World_1 tables_1 room_1 Calls_1 rest_1 Pre_1 launch0 p0 e0 about1 theMethod args0 below0 :=
  ⟨lists_1, trivial, launch0.admits_env _ _ _, launch0.least_env, fairChoices_fair.cas, fairChoices_fair.clock, w_frames, w_args, w_heap, w_applies, trivial, w_rest, w_case⟩
end start1
theorem witness_1 : WitnessClaimed_1 := ⟨start1.p0, start1.e0, start1.about1, start1.theMethod, start1.args0, start1.below0, start1.atStart⟩
end Jvm.Pilot.@@N@@
