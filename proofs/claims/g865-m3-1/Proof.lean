import JvmDerived
import JvmDerived.Pilot.@@N@@Statement
import JvmDerived.Pilot.@@N@@Code
set_option linter.unusedVariables false
set_option linter.unusedSimpArgs false
namespace Jvm.Pilot.@@N@@
open Jvm Jvm.ClassFile Sem Op Lib Jvm.Free Jvm.Stand Jvm.LawKit Jvm.RoadKit Bundle Jvm.Pilot.@@N@@.Jvm.D
section Own
variable {p : Program} {l : Launch} {e : Env} {R : Room} {s : State} {m : MethodId} {args : Array Value} {below : List Frame} {meth : Method} {c : Code} {T : State} {locs : List Loc} {cells slots : Nat} {Z : State} {a0 : Array Value} {h : Heap}
/-- the goal of a walk is a predicate that may be carried back over steps -/
def Go (p : Program) (e : Env) (below : List Frame) (G : State → Prop) : Prop := ∀ F F' : State, (∀ t, Steps p.tables e below F' t → Steps p.tables e below F t) → G F' → G F
/-- how a walk ends: it returns v -/
def Rt (p : Program) (l : Launch) (e : Env) (R : Room) (s : State) (m : MethodId) (args : Array Value) (below : List Frame) (meth : Method) (c : Code) (Q : Option Value → Heap → List Loc → Prop) (kc ks : Nat) (G : State → Prop) : Prop :=
  ∀ (T : State) (locs : List Loc) (cells slots : Nat) (v : Option Value) (F : State), Stand p l e R s m args below meth c T locs cells slots → cells ≤ kc → slots ≤ ks → (meth.sig.returnType = none → v = none) → Q v T.heap locs →
    (∀ fs, (∀ (f : JFrame) (acts : List Action), f.method = m → f.locked = none → f.entered = [] → (doReturn e (T.setTop f) acts v).1 = T.setFrames fs) → Steps p.tables e below F (T.setFrames fs)) → G F
def Gl (p : Program) (e : Env) (below : List Frame) (s : State) (Q : Option Value → Heap → List Loc → Prop) (kc ks : Nat) (F : State) : Prop :=
  ∃ s₂ o, Steps p.tables e below F s₂ ∧ s₂.status = .running ∧ Ended s₂ below o ∧ ∃ v L, o = .returned v ∧ Q v s₂.heap L ∧ FrameEnd s o s₂ L kc ks
theorem gl_go {Q : Option Value → Heap → List Loc → Prop} {kc ks : Nat} : Go p e below (Gl p e below s Q kc ks) := fun F F' h g => by
  obtain ⟨s₂, o, h1, h2⟩ := g
  exact ⟨s₂, o, h _ h1, h2⟩
theorem gl_rt {Q : Option Value → Heap → List Loc → Prop} {kc ks : Nat} (hlk : meth.locks = false) : Rt p l e R s m args below meth c Q kc ks (Gl p e below s Q kc ks) := fun T locs cells slots v F X hc hs hv hQ st => by
  obtain ⟨fs, hr, hrun, hended, hW, hsame⟩ := X.leave (v := v) hv hlk
  exact ⟨_, _, st fs hr, hrun, hended, v, locs, rfl, hQ, ⟨_, rfl⟩, hW, hsame.mono hc hs⟩
/-- a method's contract, at given arguments and a given heap -/
def Con (l : Launch) (Z : State) (y : MethodName) (bytes : ByteArray) (maxL : Nat) (ret : Option FieldType) (rm : Room) (as' : Array Value) (h : Heap) (Q : Option Value → Heap → List Loc → Prop) : Prop :=
  ∀ ws, MetFree l y (head1 (Jvm.Cond.code y bytes maxL ret :: ws) rm) (fun a U => a = as' ∧ Z.Warmed39 U.vm ∧ U.heap = h) (fun _ _ _ _ _ => True) (fun _ U o U' => ∃ v L, o = .returned v ∧ Q v U'.heap L ∧ FrameEnd U o U' L rm.cells rm.slots)
theorem own_body {y : MethodName} {bytes : ByteArray} {maxL : Nat} {ret : Option FieldType} {rm : Room} {as' : Array Value} {h0 : Heap} {Q : Option Value → Heap → List Loc → Prop} (hp : plainFor y = true)
    (k : ∀ (p : Program) (e : Env) (s : State) (m : MethodId) (below : List Frame) (meth : Method) (c : Code) (s₁ : State), p.tables.exec = Jvm.exec → c.code = bytes → c.maxLocals = maxL → s.vm.findClass y.cls = some m.cls → meth.name = y.name → meth.sig.returnType = ret → Z.Warmed39 s.vm → s₁.heap = h0 →
      Stand p l e rm s m as' below meth c s₁ [] 0 0 → ∀ G : State → Prop, Go p e below G → Rt p l e rm s m as' below meth c Q rm.cells rm.slots G → G (s₁.setTop (entryFrame m as' maxL))) : Con l Z y bytes maxL ret rm as' h0 Q := fun ws => by
  refine MetFree.of_bodySF hp hisR ?_
  intro p e s m args below meth c s₁ Bd hml0 hP hK
  obtain ⟨rfl, hZ, hh⟩ := hP
  exact k p e s m below meth c s₁ Bd.exec Bd.bytes hml0 (findClass_of_methodNamed Bd.named) (name_of_methodNamed Bd.named Bd.method).1 Bd.returns hZ (by rw [← hh, Bd.state]; rfl) (Stand.of_body Bd) (Gl p e below s Q rm.cells rm.slots) gl_go (gl_rt Bd.notSynchronized)
theorem own_pop2L {tb : Tables} [Ours tb] {target : State} {g : JFrame} (h : At T m c below) (hx : tb.exec = Jvm.exec) (hg : g.method = m) {x : Int64} {rest : List Value} (hd : decode c.code g.pc = .ok (.pop2, 1)) (hs : g.stack = .long x :: rest)
    (hr : Steps tb e below (T.setTop { g with pc := g.pc + 1, stack := rest }) target) : Steps tb e below (T.setTop g) target := by
  subst hg
  jvm_step h [h.top, hx, hd, hs, pop2.wp_sem, Value.category]
  exact hr
theorem own_hide {k : Nat} (X : Stand p l e R s m args below meth c T locs cells slots) (N : Fr k locs) : ∃ L, Stand p l e R s m args below meth c T L cells slots ∧ Fr k L := ⟨_, X, N⟩
section Rets
variable {Q : Option Value → Heap → List Loc → Prop} {kc ks : Nat} {G : State → Prop}
theorem own_retI (rt : Rt p l e R s m args below meth c Q kc ks G) (X : Stand p l e R s m args below meth c T locs cells slots) (hx : p.tables.exec = Jvm.exec) {pc : Nat} {Ls : Array Slot} {rest : List Value} (hret : meth.sig.returnType = some .int) {z : Int32} (hd : decode c.code pc = .ok (.ireturn, 1)) (hc : cells ≤ kc) (hs : slots ≤ ks) (hQ : Q (some (.int z)) T.heap locs) : G (T.setTop (mkF m pc Ls (.int z :: rest))) :=
  rt T locs cells slots _ _ X hc hs (fun h => by rw [hret] at h; cases h) hQ fun fs hr => retOut X hx hret rfl (Or.inl ⟨rfl, Or.inl rfl, _, rfl⟩) hd hr
theorem own_retZ (rt : Rt p l e R s m args below meth c Q kc ks G) (X : Stand p l e R s m args below meth c T locs cells slots) (hx : p.tables.exec = Jvm.exec) {pc : Nat} {Ls : Array Slot} {rest : List Value} {t : FieldType} (hret : meth.sig.returnType = some t) (ht : t = .boolean ∨ t = .byte ∨ t = .char ∨ t = .short) {z : Int32} (hd : decode c.code pc = .ok (.ireturn, 1)) (hc : cells ≤ kc) (hs : slots ≤ ks) (hQ : Q (some (.int (nar t z))) T.heap locs) : G (T.setTop (mkF m pc Ls (.int z :: rest))) :=
  rt T locs cells slots _ _ X hc hs (fun h => by rw [hret] at h; cases h) hQ fun fs hr => retN X hx hret ht hd hr
theorem own_retJ (rt : Rt p l e R s m args below meth c Q kc ks G) (X : Stand p l e R s m args below meth c T locs cells slots) (hx : p.tables.exec = Jvm.exec) {pc : Nat} {Ls : Array Slot} {rest : List Value} (hret : meth.sig.returnType = some .long) {z : Int64} (hd : decode c.code pc = .ok (.lreturn, 1)) (hc : cells ≤ kc) (hs : slots ≤ ks) (hQ : Q (some (.long z)) T.heap locs) : G (T.setTop (mkF m pc Ls (.long z :: rest))) :=
  rt T locs cells slots _ _ X hc hs (fun h => by rw [hret] at h; cases h) hQ fun fs hr => retOut X hx hret rfl (Or.inr (Or.inl ⟨rfl, rfl, _, rfl⟩)) hd hr
theorem own_retA (rt : Rt p l e R s m args below meth c Q kc ks G) (X : Stand p l e R s m args below meth c T locs cells slots) (hx : p.tables.exec = Jvm.exec) {pc : Nat} {Ls : Array Slot} {rest : List Value} {t : FieldType} (hret : meth.sig.returnType = some t) (ht : t.isReference = true) {v : Value} (hv : v.isRef = true) (hd : decode c.code pc = .ok (.areturn, 1)) (hc : cells ≤ kc) (hs : slots ≤ ks) (hQ : Q (some v) T.heap locs) : G (T.setTop (mkF m pc Ls (v :: rest))) :=
  rt T locs cells slots _ _ X hc hs (fun h => by rw [hret] at h; cases h) hQ fun fs hr => retOut X hx hret (by cases t <;> cases v <;> first | rfl | (simp [FieldType.isReference, Value.isRef] at ht hv)) (Or.inr (Or.inr (Or.inr (Or.inr ⟨rfl, ht, hv⟩)))) hd hr
theorem own_retV (rt : Rt p l e R s m args below meth c Q kc ks G) (X : Stand p l e R s m args below meth c T locs cells slots) (hx : p.tables.exec = Jvm.exec) {pc : Nat} {Ls : Array Slot} (hret : meth.sig.returnType = none) (hd : decode c.code pc = .ok (.return_, 1)) (hc : cells ≤ kc) (hs : slots ≤ ks) (hQ : Q none T.heap locs) : G (T.setTop (mkF m pc Ls [])) :=
  rt T locs cells slots _ _ X hc hs (fun _ => rfl) hQ fun fs hr => X.returnOut hx hret hd hr
end Rets
theorem own_selpriv {y z : MethodName} {C : String} (hz : z.cls = y.cls) (hs : (Cond.selects C z z).before args s = true) (hpriv : s.PrivateAt y) (hinst : (Cond.instanceMethod y).before args s = true) (hy : y.cls ≠ "java/lang/invoke/MethodHandle" ∧ y.cls ≠ "java/lang/invoke/VarHandle") : (Cond.selects y.cls y y).before args s = true := by
  obtain ⟨c2, r2, m2, -, -, q3, -, kP, hkP, hkPi⟩ := Cond.selects_spec hs
  have q := findClass_of_methodNamed q3
  rw [hz] at q
  exact selects_self_of_private q hkP hkPi hpriv hinst hy
section Calls
variable {G : State → Prop}
theorem own_static (go : Go p e below G) (X : Stand p l e R s m args below meth c T locs cells slots) (hx : p.tables.exec = Jvm.exec) (hZ : Z.Warmed39 s.vm) (eT : T.heap = h) {own : String} {index : Nat} {y : MethodName} {bytes : ByteArray} {maxL : Nat} {ret : Option FieldType} {rm : Room} {as' : Array Value} {Q : Option Value → Heap → List Loc → Prop} (hown : s.vm.findClass own = some m.cls) (w1 : (Cond.methodLink own index y).before a0 Z = true) (w2 : (Cond.static y).before a0 Z = true) (w3 : (Cond.initialized y.cls).before a0 Z = true) (w4 : (Cond.code y bytes maxL ret).before a0 Z = true)
    (hy : y.cls ≠ "java/lang/invoke/MethodHandle" ∧ y.cls ≠ "java/lang/invoke/VarHandle") (hM : Con l Z y bytes maxL ret rm as' h Q) (W : Nat) (hf : rm.frames + 1 ≤ R.frames) (hl : W + (maxL + 11) + rm.locals ≤ R.locals) (hc : cells + rm.cells ≤ R.cells) (hs : slots + rm.slots ≤ R.slots)
    {g : JFrame} (hg : g.method = m) (hsize : g.locals.size = c.maxLocals) (argsL rest : List Value) (has : argsL.toArray = as') (hlen : ∀ sig, parseMethodDescriptor y.desc = some sig → argsL.length = sig.parameters.length)
    (hstack : g.stack = argsL.reverse ++ rest) (hW : 2 * g.monitorRoom + (rest.map fun v => v.category).sum ≤ W) (hd : decode c.code g.pc = .ok (.invokestatic index, 3))
    (k : ∀ (T' : State) (L' : List Loc) (v : Option Value), Stand p l e R s m args below meth c T' (locs ++ L') (cells + rm.cells) (slots + rm.slots) → Q v T'.heap L' → G (T'.setTop { g with pc := g.pc + 3, stack := v.toList ++ rest })) : G (T.setTop g) := by
  obtain ⟨v, _, ⟨T1, L1, k1, n1⟩, -, X1, ⟨Lc, hQ, l1, y1, z1⟩, st⟩ := Jvm.LawKit.callS X hx hown (mvT hZ w1) (mvT hZ w2) (mvT hZ w3) (mvT hZ w4) hy (backOf (R := R) (W := W) (hM []) hZ w4 w3 hf hl) hg hsize hlen hstack hW hd (fun _ _ => ⟨has, eT, hc, hs⟩)
  dsimp only [Pt.U, Pt.locs, Pt.cells, Pt.slots] at X1 l1 y1 z1 st hQ
  subst l1 y1 z1
  exact go _ _ st (k T1 Lc v X1 hQ)
theorem own_init (go : Go p e below G) (X : Stand p l e R s m args below meth c T locs cells slots) (hx : p.tables.exec = Jvm.exec) (hZ : Z.Warmed39 s.vm) (eT : T.heap = h) {own : String} {index : Nat} {y : MethodName} {bytes : ByteArray} {maxL : Nat} {rm : Room} {as' : Array Value} {Q : Option Value → Heap → List Loc → Prop} (hy1 : y.name = "<init>") (hown : s.vm.findClass own = some m.cls) (w1 : (Cond.methodLink own index y).before a0 Z = true) (w2 : (Cond.instanceMethod y).before a0 Z = true) (w3 : (Cond.initialized y.cls).before a0 Z = true) (w4 : (Cond.code y bytes maxL none).before a0 Z = true)
    (hy : y.cls ≠ "java/lang/invoke/MethodHandle" ∧ y.cls ≠ "java/lang/invoke/VarHandle") (hM : Con l Z y bytes maxL none rm as' h Q) (W : Nat) (hf : rm.frames + 1 ≤ R.frames) (hl : W + (maxL + 11) + rm.locals ≤ R.locals) (hc : cells + rm.cells ≤ R.cells) (hs : slots + rm.slots ≤ R.slots)
    {g : JFrame} (hg : g.method = m) (hsize : g.locals.size = c.maxLocals) (a : Addr) (argsL rest : List Value) (has : (.ref a :: argsL).toArray = as') (hlen : ∀ sig, parseMethodDescriptor y.desc = some sig → argsL.length = sig.parameters.length)
    (hstack : g.stack = argsL.reverse ++ .ref a :: rest) (hW : 2 * g.monitorRoom + (rest.map fun v => v.category).sum ≤ W) (hd : decode c.code g.pc = .ok (.invokespecial index, 3))
    (k : ∀ (T' : State) (L' : List Loc) (v : Option Value), Stand p l e R s m args below meth c T' (locs ++ L') (cells + rm.cells) (slots + rm.slots) → Q v T'.heap L' → G (T'.setTop { g with pc := g.pc + 3, stack := v.toList ++ rest })) : G (T.setTop g) := by
  obtain ⟨v, _, ⟨T1, L1, k1, n1⟩, -, X1, ⟨Lc, hQ, l1, y1, z1⟩, st⟩ := X.specialBack hx hy1 hown (mvT hZ w1) (mvT hZ w2) (mvT hZ w4) hy (backOf (R := R) (W := W) (hM []) hZ w4 w3 hf hl) hg hsize (Steps.refl _) (a := a) hlen hstack hW hd (fun _ _ => ⟨has, eT, hc, hs⟩)
  dsimp only [Pt.U, Pt.locs, Pt.cells, Pt.slots] at X1 l1 y1 z1 st hQ
  subst l1 y1 z1
  exact go _ _ (fun t k => st.trans k) (k T1 Lc v X1 hQ)
theorem own_virtual (go : Go p e below G) (X : Stand p l e R s m args below meth c T locs cells slots) (hx : p.tables.exec = Jvm.exec) (hZ : Z.Warmed39 s.vm) (eT : T.heap = h) {own : String} {index : Nat} {y : MethodName} {bytes : ByteArray} {maxL : Nat} {ret : Option FieldType} {rm : Room} {as' : Array Value} {Q : Option Value → Heap → List Loc → Prop} {C : String} {z : MethodName} (hown : s.vm.findClass own = some m.cls) (w1 : (Cond.methodLink own index y).before a0 Z = true) (w2 : (Cond.declares y).before a0 Z = true) (hnf : NotFace s y) (w3 : (Cond.selects C y z).before a0 Z = true) (w4 : (Cond.instanceMethod z).before a0 Z = true) (w5 : (Cond.initialized z.cls).before a0 Z = true) (w6 : (Cond.code z bytes maxL ret).before a0 Z = true)
    (hy : y.cls ≠ "java/lang/invoke/MethodHandle" ∧ y.cls ≠ "java/lang/invoke/VarHandle") (hM : Con l Z z bytes maxL ret rm as' h Q) (W : Nat) (hf : rm.frames + 1 ≤ R.frames) (hl : W + (maxL + 11) + rm.locals ≤ R.locals) (hc : cells + rm.cells ≤ R.cells) (hs : slots + rm.slots ≤ R.slots)
    {a : Addr} (E : Exa Z h a C) {g : JFrame} (hg : g.method = m) (hsize : g.locals.size = c.maxLocals) (argsL rest : List Value) (has : (.ref a :: argsL).toArray = as') (hlen : ∀ sig, parseMethodDescriptor y.desc = some sig → argsL.length = sig.parameters.length)
    (hstack : g.stack = argsL.reverse ++ .ref a :: rest) (hW : 2 * g.monitorRoom + (rest.map fun v => v.category).sum ≤ W) (hd : decode c.code g.pc = .ok (.invokevirtual index, 3))
    (k : ∀ (T' : State) (L' : List Loc) (v : Option Value), Stand p l e R s m args below meth c T' (locs ++ L') (cells + rm.cells) (slots + rm.slots) → Q v T'.heap L' → G (T'.setTop { g with pc := g.pc + 3, stack := v.toList ++ rest })) : G (T.setTop g) := by
  obtain ⟨cq, kq, qa, qb, qc⟩ := isOf hZ eT E
  obtain ⟨v, _, ⟨T1, L1, k1, n1⟩, -, X1, ⟨Lc, hQ, l1, y1, z1⟩, st⟩ := X.virtualBack hx hown (mvT hZ w1) (mvT hZ w2) hnf (mvT hZ w3) (mvT hZ w4) hy (backOf (R := R) (W := W) (hM []) hZ w6 w5 hf hl) qa qc hg hsize (Steps.refl _) hlen hstack hW hd (fun _ _ => ⟨has, eT, hc, hs⟩)
  dsimp only [Pt.U, Pt.locs, Pt.cells, Pt.slots] at X1 l1 y1 z1 st hQ
  subst l1 y1 z1
  exact go _ _ (fun t k => st.trans k) (k T1 Lc v X1 hQ)
theorem own_private (go : Go p e below G) (X : Stand p l e R s m args below meth c T locs cells slots) (hx : p.tables.exec = Jvm.exec) (hZ : Z.Warmed39 s.vm) (eT : T.heap = h) {own : String} {index : Nat} {y : MethodName} {bytes : ByteArray} {maxL : Nat} {ret : Option FieldType} {rm : Room} {as' : Array Value} {Q : Option Value → Heap → List Loc → Prop} (hown : s.vm.findClass own = some m.cls) (w1 : (Cond.methodLink own index y).before a0 Z = true) (w2 : (Cond.instanceMethod y).before a0 Z = true) {C0 : String} {z : MethodName} (w3 : (Cond.selects C0 z z).before a0 Z = true) (hz : z.cls = y.cls) (w4 : (Cond.privateMethod y).before a0 Z = true) (w5 : (Cond.initialized y.cls).before a0 Z = true) (w6 : (Cond.code y bytes maxL ret).before a0 Z = true)
    (hy : y.cls ≠ "java/lang/invoke/MethodHandle" ∧ y.cls ≠ "java/lang/invoke/VarHandle") (hM : Con l Z y bytes maxL ret rm as' h Q) (W : Nat) (hf : rm.frames + 1 ≤ R.frames) (hl : W + (maxL + 11) + rm.locals ≤ R.locals) (hc : cells + rm.cells ≤ R.cells) (hs : slots + rm.slots ≤ R.slots)
    {a : Addr} {C : String} (E : Exa Z h a C) {g : JFrame} (hg : g.method = m) (hsize : g.locals.size = c.maxLocals) (argsL rest : List Value) (has : (.ref a :: argsL).toArray = as') (hlen : ∀ sig, parseMethodDescriptor y.desc = some sig → argsL.length = sig.parameters.length)
    (hstack : g.stack = argsL.reverse ++ .ref a :: rest) (hW : 2 * g.monitorRoom + (rest.map fun v => v.category).sum ≤ W) (hd : decode c.code g.pc = .ok (.invokevirtual index, 3))
    (k : ∀ (T' : State) (L' : List Loc) (v : Option Value), Stand p l e R s m args below meth c T' (locs ++ L') (cells + rm.cells) (slots + rm.slots) → Q v T'.heap L' → G (T'.setTop { g with pc := g.pc + 3, stack := v.toList ++ rest })) : G (T.setTop g) := by
  obtain ⟨cq, q1, q2⟩ := E.cell
  obtain ⟨v, _, ⟨T1, L1, k1, n1⟩, -, X1, ⟨Lc, hQ, l1, y1, z1⟩, st⟩ := X.privateBack hx hown (mvT hZ w1) (mvT hZ w2) (own_selpriv hz (mvT hZ w3) (Cond.privateMethod_at (mvP hZ w4 (args := #[]))) (mvT hZ w2) hy) (Cond.privateMethod_at (mvP hZ w4 (args := #[]))) (mvT hZ w6) hy (backOf (R := R) (W := W) (hM []) hZ w6 w5 hf hl) hg hsize (Steps.refl _) (a := a) (by rw [eT]; exact q1) q2 hlen hstack hW hd (fun _ _ => ⟨has, eT, hc, hs⟩)
  dsimp only [Pt.U, Pt.locs, Pt.cells, Pt.slots] at X1 l1 y1 z1 st hQ
  subst l1 y1 z1
  exact go _ _ (fun t k => st.trans k) (k T1 Lc v X1 hQ)
theorem own_interface (go : Go p e below G) (X : Stand p l e R s m args below meth c T locs cells slots) (hx : p.tables.exec = Jvm.exec) (hZ : Z.Warmed39 s.vm) (eT : T.heap = h) {own : String} {index : Nat} {y : MethodName} {bytes : ByteArray} {maxL : Nat} {ret : Option FieldType} {rm : Room} {as' : Array Value} {Q : Option Value → Heap → List Loc → Prop} {C : String} {z : MethodName} {count : Nat} (hown : s.vm.findClass own = some m.cls) (w1 : (Cond.methodLink own index y).before a0 Z = true) (w2 : (Cond.declares y).before a0 Z = true) (w2b : (Cond.interfaceMethod y.cls y.cls y.name y.desc).before args s = true) (w3 : (Cond.selects C y z).before a0 Z = true) (w4 : (Cond.instanceMethod z).before a0 Z = true) (w4b : (Cond.publicMethod z).before a0 Z = true) (w4c : (Cond.unhidden C y.name y.desc).before a0 Z = true) (w4d : (Cond.castable C y.cls).before a0 Z = true) (w5 : (Cond.initialized z.cls).before a0 Z = true) (w6 : (Cond.code z bytes maxL ret).before a0 Z = true)
    (hy : y.cls ≠ "java/lang/invoke/MethodHandle" ∧ y.cls ≠ "java/lang/invoke/VarHandle") (hM : Con l Z z bytes maxL ret rm as' h Q) (W : Nat) (hf : rm.frames + 1 ≤ R.frames) (hl : W + (maxL + 11) + rm.locals ≤ R.locals) (hc : cells + rm.cells ≤ R.cells) (hs : slots + rm.slots ≤ R.slots)
    {a : Addr} (E : Exa Z h a C) {g : JFrame} (hg : g.method = m) (hsize : g.locals.size = c.maxLocals) (argsL rest : List Value) (has : (.ref a :: argsL).toArray = as') (hlen : ∀ sig, parseMethodDescriptor y.desc = some sig → argsL.length = sig.parameters.length)
    (hstack : g.stack = argsL.reverse ++ .ref a :: rest) (hW : 2 * g.monitorRoom + (rest.map fun v => v.category).sum ≤ W) (hd : decode c.code g.pc = .ok (.invokeinterface index count, 5))
    (k : ∀ (T' : State) (L' : List Loc) (v : Option Value), Stand p l e R s m args below meth c T' (locs ++ L') (cells + rm.cells) (slots + rm.slots) → Q v T'.heap L' → G (T'.setTop { g with pc := g.pc + 5, stack := v.toList ++ rest })) : G (T.setTop g) := by
  obtain ⟨cq, kq, qa, qb, qc⟩ := isOf hZ eT E
  obtain ⟨v, _, ⟨T1, L1, k1, n1⟩, -, X1, ⟨Lc, hQ, l1, y1, z1⟩, st⟩ := X.interfaceBack hx hown (mvT hZ w1) (mvT hZ w2) w2b (mvT hZ w3) (mvT hZ w4) (mvT hZ w4b) (mvT hZ w4c) (mvT hZ w4d) hy (backOf (R := R) (W := W) (hM []) hZ w6 w5 hf hl) qa qb qc hg hsize (Steps.refl _) hlen hstack hW hd (fun _ _ => ⟨has, eT, hc, hs⟩)
  dsimp only [Pt.U, Pt.locs, Pt.cells, Pt.slots] at X1 l1 y1 z1 st hQ
  subst l1 y1 z1
  exact go _ _ (fun t k => st.trans k) (k T1 Lc v X1 hQ)
end Calls
end Own
section OwnArr
variable {p : Program} {l : Launch} {e : Env} {R : Room} {s : State} {m : MethodId} {args : Array Value} {below : List Frame} {meth : Method} {c : Code} {T : State} {locs : List Loc} {cells slots : Nat} {Z : State} {a0 : Array Value} {h h' : Heap} {a b : Addr} {ty : FieldType} {n sl : Nat} {f : Nat → Value} {v w : Value} {ws : List Addr}
/-- an array: its kind, its length, what lies in it -/
def Ary (Z : State) (h : Heap) (a : Addr) (ty : FieldType) (n : Nat) (f : Nat → Value) : Prop := ∃ c : Cell, Arr Z h a c ty ∧ c.slots.size = n ∧ n < 2147483648 ∧ (∀ i, i < n → c.slots[i]? = some (f i)) ∧ ∀ i, i < n → fits ty (f i) = true
theorem Ary.lt (F : Ary Z h a ty n f) : a < h.size := by obtain ⟨c, A, -⟩ := F; exact A.lt
theorem own_ary_ns (F : Ary Z h a ty n f) : ∃ c : Cell, h[a]? = some c ∧ c.vm.isStatics = false := by obtain ⟨c, A, -⟩ := F; exact ⟨c, A.1, A.plain⟩
theorem Ary.ext (F : Ary Z h a ty n f) (E : Ext h h') : Ary Z h' a ty n f := by obtain ⟨c, A, r⟩ := F; exact ⟨c, A.ext E, r⟩
theorem Ary.other (F : Ary Z h b ty n f) (W : Wr h h' a sl v) (q : b ≠ a) : Ary Z h' b ty n f := by obtain ⟨c, A, r⟩ := F; exact ⟨c, A.other W q, r⟩
theorem Ary.keep (F : Ary Z h a ty n f) (K : Keep h h' ws) (q : a ∉ ws) : Ary Z h' a ty n f := by obtain ⟨c, A, r⟩ := F; exact ⟨c, ⟨K.2.1 a c A.1 q, A.2⟩, r⟩
theorem Ary.cong {g : Nat → Value} (F : Ary Z h a ty n f) (q : ∀ i, i < n → f i = g i) : Ary Z h a ty n g := by
  obtain ⟨c, A, r1, r2, r3, r4⟩ := F
  exact ⟨c, A, r1, r2, fun i hi => by rw [← q i hi]; exact r3 i hi, fun i hi => by rw [← q i hi]; exact r4 i hi⟩
theorem Ary.same (W : Wr h h' a sl v) (F : Ary Z h a ty n f) (hv : fits ty v = true) : Ary Z h' a ty n (fun q => if q = sl then v else f q) := by
  obtain ⟨c, A, r1, r2, r3, r4⟩ := F
  refine ⟨_, A.same W, (sz_set _ _ _).trans r1, r2, fun i hi => ?_, fun i hi => ?_⟩
  · show (c.slots.setIfInBounds sl v)[i]? = _
    by_cases q : i = sl
    · subst q; simp [r1, hi]
    · rw [Array.getElem?_setIfInBounds_ne (fun z => q z.symm), r3 i hi]; simp [q]
  · show fits ty (if i = sl then v else f i) = true
    by_cases q : i = sl
    · simp [q, hv]
    · simp [q, r4 i hi]
theorem Ary.new {cA : ClassId} {z : Int32} (A : Arr Z h a (newA cA ty z) ty) (q : ¬ z < 0) : Ary Z h a ty z.toNatClampNeg (fun _ => defaultValue ty) :=
  ⟨_, A, sz_new _ _ _, (back32 q).2, fun i hi => by simp [newA, hi], fun i _ => by cases ty <;> rfl⟩
theorem Ary.ints (F : Ary Z h a ty n f) (ht : ty = .int ∨ ty = .boolean ∨ ty = .byte ∨ ty = .char ∨ ty = .short) : ∃ gg : Nat → Int32, Ary Z h a ty n (fun i => .int (gg i)) := by
  refine ⟨fun i => match f i with | .int y => y | _ => 0, F.cong fun i hi => ?_⟩
  obtain ⟨c, -, -, -, -, r4⟩ := F
  obtain ⟨y, hy⟩ := fit_I (r4 i hi) ht
  show f i = Value.int (match f i with | .int y => y | _ => 0)
  rw [hy]
theorem ix_of {j : Int32} {i : Nat} (hi : j.toInt = i) : j.toNatClampNeg = i := by simp [Int32.toNatClampNeg, hi]
theorem ix_in {j : Int32} {i k : Nat} (hi : j.toInt = i) (hk : i < k) : ¬ (j < 0 ∨ k ≤ j.toNatClampNeg) := by
  rw [ix_of hi]
  intro q
  rcases q with q | q
  · rw [Int32.lt_iff_toInt_lt, hi] at q
    have : (0 : Int32).toInt = 0 := rfl
    omega
  · omega
section St
variable {G : State → Prop}
theorem own_iastore (go : Go p e below G) (X : Stand p l e R s m args below meth c T locs cells slots) (hx : p.tables.exec = Jvm.exec) (hZ : Z.Warmed39 s.vm) (eT : T.heap = h) {j x : Int32} (i : Nat) (hi : j.toInt = i) (hlt : i < n) {g : JFrame} (hg : g.method = m) {rest : List Value} (F : Ary Z h a .int n f) (hs : g.stack = .int x :: .int j :: .ref a :: rest) (hd : decode c.code g.pc = .ok (.iastore, 1))
    (k : ∀ (T' : State) (h' : Heap), Stand p l e R s m args below meth c T' (locs ++ [⟨a, i⟩]) cells slots → T'.heap = h' → Wr h h' a i (.int x) → Ary Z h' a .int n (fun q => if q = i then .int x else f q) → G (T'.setTop { g with pc := g.pc + 1, stack := rest })) : G (T.setTop g) := by
  obtain ⟨cl, A, r1, r2, r3, r4⟩ := F
  have hj : ¬ (j < 0 ∨ cl.slots.size ≤ j.toNatClampNeg) := by rw [r1]; exact ix_in hi hlt
  obtain ⟨T1, h1, X1, e1, W1, st⟩ := stI X hx hZ eT A hj hg hs hd
  rw [ix_of hi] at X1 W1
  exact go _ _ st (k T1 h1 X1 e1 W1 (Ary.same W1 ⟨cl, A, r1, r2, r3, r4⟩ rfl))
theorem own_bastore (go : Go p e below G) (X : Stand p l e R s m args below meth c T locs cells slots) (hx : p.tables.exec = Jvm.exec) (hZ : Z.Warmed39 s.vm) (eT : T.heap = h) {j x : Int32} (i : Nat) (hi : j.toInt = i) (hlt : i < n) {g : JFrame} (hg : g.method = m) {rest : List Value} (F : Ary Z h a .byte n f) (hs : g.stack = .int x :: .int j :: .ref a :: rest) (hd : decode c.code g.pc = .ok (.bastore, 1))
    (k : ∀ (T' : State) (h' : Heap), Stand p l e R s m args below meth c T' (locs ++ [⟨a, i⟩]) cells slots → T'.heap = h' → Wr h h' a i (.int (nar .byte x)) → Ary Z h' a .byte n (fun q => if q = i then .int (nar .byte x) else f q) → G (T'.setTop { g with pc := g.pc + 1, stack := rest })) : G (T.setTop g) := by
  obtain ⟨cl, A, r1, r2, r3, r4⟩ := F
  have hj : ¬ (j < 0 ∨ cl.slots.size ≤ j.toNatClampNeg) := by rw [r1]; exact ix_in hi hlt
  obtain ⟨T1, h1, X1, e1, W1, st⟩ := stB X hx hZ eT A hj hg hs hd
  rw [ix_of hi] at X1 W1
  exact go _ _ st (k T1 h1 X1 e1 W1 (Ary.same W1 ⟨cl, A, r1, r2, r3, r4⟩ (fits_nar_byte _)))
theorem own_zastore (go : Go p e below G) (X : Stand p l e R s m args below meth c T locs cells slots) (hx : p.tables.exec = Jvm.exec) (hZ : Z.Warmed39 s.vm) (eT : T.heap = h) {j x : Int32} (i : Nat) (hi : j.toInt = i) (hlt : i < n) {g : JFrame} (hg : g.method = m) {rest : List Value} (F : Ary Z h a .boolean n f) (hs : g.stack = .int x :: .int j :: .ref a :: rest) (hd : decode c.code g.pc = .ok (.bastore, 1))
    (k : ∀ (T' : State) (h' : Heap), Stand p l e R s m args below meth c T' (locs ++ [⟨a, i⟩]) cells slots → T'.heap = h' → Wr h h' a i (.int (nar .boolean x)) → Ary Z h' a .boolean n (fun q => if q = i then .int (nar .boolean x) else f q) → G (T'.setTop { g with pc := g.pc + 1, stack := rest })) : G (T.setTop g) := by
  obtain ⟨cl, A, r1, r2, r3, r4⟩ := F
  have hj : ¬ (j < 0 ∨ cl.slots.size ≤ j.toNatClampNeg) := by rw [r1]; exact ix_in hi hlt
  obtain ⟨T1, h1, X1, e1, W1, st⟩ := stZ X hx hZ eT A hj hg hs hd
  rw [ix_of hi] at X1 W1
  exact go _ _ st (k T1 h1 X1 e1 W1 (Ary.same W1 ⟨cl, A, r1, r2, r3, r4⟩ (fits_nar_bool _)))
theorem own_iaload (go : Go p e below G) (X : Stand p l e R s m args below meth c T locs cells slots) (hx : p.tables.exec = Jvm.exec) (hZ : Z.Warmed39 s.vm) (eT : T.heap = h) {j : Int32} (i : Nat) (hi : j.toInt = i) (hlt : i < n) {g : JFrame} (hg : g.method = m) {rest : List Value} (F : Ary Z h a .int n f) (hs : g.stack = .int j :: .ref a :: rest) (hd : decode c.code g.pc = .ok (.iaload, 1)) (k : G (T.setTop { g with pc := g.pc + 1, stack := f i :: rest })) : G (T.setTop g) := by
  obtain ⟨cl, A, r1, r2, r3, r4⟩ := F
  have hj : ¬ (j < 0 ∨ cl.slots.size ≤ j.toNatClampNeg) := by rw [r1]; exact ix_in hi hlt
  exact go _ _ (fun t => X.iaload hx (by rw [eT]; exact A.1) (State.isArrayOf_alike hZ.alike A.2.1) A.2.2 hj (by rw [ix_of hi]; exact r3 i hlt) hg hs hd t) k
theorem own_baload (go : Go p e below G) (X : Stand p l e R s m args below meth c T locs cells slots) (hx : p.tables.exec = Jvm.exec) (hZ : Z.Warmed39 s.vm) (eT : T.heap = h) {j : Int32} (i : Nat) (hi : j.toInt = i) (hlt : i < n) {g : JFrame} (hg : g.method = m) {rest : List Value} (F : Ary Z h a .byte n f) (hs : g.stack = .int j :: .ref a :: rest) (hd : decode c.code g.pc = .ok (.baload, 1)) (k : G (T.setTop { g with pc := g.pc + 1, stack := f i :: rest })) : G (T.setTop g) := by
  obtain ⟨cl, A, r1, r2, r3, r4⟩ := F
  have hj : ¬ (j < 0 ∨ cl.slots.size ≤ j.toNatClampNeg) := by rw [r1]; exact ix_in hi hlt
  exact go _ _ (fun t => X.baloadBytes hx (by rw [eT]; exact A.1) (State.isArrayOf_alike hZ.alike A.2.1) A.2.2 hj (by rw [ix_of hi]; exact r3 i hlt) hg hs hd t) k
theorem own_zaload (go : Go p e below G) (X : Stand p l e R s m args below meth c T locs cells slots) (hx : p.tables.exec = Jvm.exec) (hZ : Z.Warmed39 s.vm) (eT : T.heap = h) {j : Int32} (i : Nat) (hi : j.toInt = i) (hlt : i < n) {g : JFrame} (hg : g.method = m) {rest : List Value} (F : Ary Z h a .boolean n f) (hs : g.stack = .int j :: .ref a :: rest) (hd : decode c.code g.pc = .ok (.baload, 1)) (k : G (T.setTop { g with pc := g.pc + 1, stack := f i :: rest })) : G (T.setTop g) := by
  obtain ⟨cl, A, r1, r2, r3, r4⟩ := F
  have hj : ¬ (j < 0 ∨ cl.slots.size ≤ j.toNatClampNeg) := by rw [r1]; exact ix_in hi hlt
  exact go _ _ (fun t => X.baloadBooleans hx (by rw [eT]; exact A.1) (State.isArrayOf_alike hZ.alike A.2.1) A.2.2 hj (by rw [ix_of hi]; exact r3 i hlt) hg hs hd t) k
theorem own_arrlen (go : Go p e below G) (X : Stand p l e R s m args below meth c T locs cells slots) (hx : p.tables.exec = Jvm.exec) (hZ : Z.Warmed39 s.vm) (eT : T.heap = h) {g : JFrame} (hg : g.method = m) {rest : List Value} (F : Ary Z h a ty n f) (hs : g.stack = .ref a :: rest) (hd : decode c.code g.pc = .ok (.arraylength, 1)) (k : G (T.setTop { g with pc := g.pc + 1, stack := .int n.toInt32 :: rest })) : G (T.setTop g) := by
  obtain ⟨cl, A, r1, r2, r3, r4⟩ := F
  subst r1
  exact go _ _ (fun t => X.arraylength hx (by rw [eT]; exact A.1) (State.isArrayOf_alike hZ.alike A.2.1) hg hs hd t) k
theorem own_newarr (go : Go p e below G) (X : Stand p l e R s m args below meth c T locs cells slots) (hx : p.tables.exec = Jvm.exec) (hZ : Z.Warmed39 s.vm) (eT : T.heap = h) {g : JFrame} (hg : g.method = m) {rest : List Value} {aty : ArrayType} (w : (Cond.arrayClass (newarray.typeOf aty)).before a0 Z = true) {z : Int32} (nn : Nat) (hz : z.toInt = nn) (hd : decode c.code g.pc = .ok (.newarray aty, 2)) (hs : g.stack = .int z :: rest)
    (cap : Nat) (hcap : nn ≤ cap) (hb : cap * 8 ≤ 536870912) (hc : cells + 1 ≤ R.cells) (hl : slots + cap ≤ R.slots)
    (k : ∀ (T' : State) (h' : Heap) (a : Addr), Stand p l e R s m args below meth c T' locs (cells + 1) (slots + cap) → T'.heap = h' → Ext h h' → a = h.size → Ary Z h' a (newarray.typeOf aty) nn (fun _ => defaultValue (newarray.typeOf aty)) → G (T'.setTop { g with pc := g.pc + 2, stack := .ref a :: rest })) : G (T.setTop g) := by
  have q : ¬ z < 0 := by
    rw [Int32.lt_iff_toInt_lt, hz]
    have : (0 : Int32).toInt = 0 := rfl
    omega
  obtain ⟨T1, h1, cA, X1, e1, E1, A1, st⟩ := newP X hx hZ w eT hg hd hs q (cap := cap) (by rw [ix_of hz]; exact hcap) hb hc hl
  have F := Ary.new A1 q
  rw [ix_of hz] at F
  exact go _ _ st (k T1 h1 _ X1 e1 E1 rfl F)
theorem own_aastoreN (go : Go p e below G) (X : Stand p l e R s m args below meth c T locs cells slots) (hx : p.tables.exec = Jvm.exec) (hZ : Z.Warmed39 s.vm) (eT : T.heap = h) {j : Int32} (i : Nat) (hi : j.toInt = i) (hlt : i < n) {g : JFrame} (hg : g.method = m) {rest : List Value} (F : Ary Z h a ty n f) (hty : ty.isReference = true) (hs : g.stack = .null :: .int j :: .ref a :: rest) (hd : decode c.code g.pc = .ok (.aastore, 1))
    (k : ∀ (T' : State) (h' : Heap), Stand p l e R s m args below meth c T' (locs ++ [⟨a, i⟩]) cells slots → T'.heap = h' → Wr h h' a i .null → Ary Z h' a ty n (fun q => if q = i then .null else f q) → G (T'.setTop { g with pc := g.pc + 1, stack := rest })) : G (T.setTop g) := by
  obtain ⟨cl, A, r1, r2, r3, r4⟩ := F
  have hj : ¬ (j < 0 ∨ cl.slots.size ≤ j.toNatClampNeg) := by rw [r1]; exact ix_in hi hlt
  obtain ⟨T1, h1, X1, e1, W1, st⟩ := stR X hx hZ eT A hj hty (Or.inl rfl) hg hs hd
  rw [ix_of hi] at X1 W1
  exact go _ _ st (k T1 h1 X1 e1 W1 (Ary.same W1 ⟨cl, A, r1, r2, r3, r4⟩ (by cases ty <;> first | rfl | (simp [FieldType.isReference] at hty))))
theorem own_newref (go : Go p e below G) (X : Stand p l e R s m args below meth c T locs cells slots) (hx : p.tables.exec = Jvm.exec) (hZ : Z.Warmed39 s.vm) (eT : T.heap = h) {g : JFrame} (hg : g.method = m) {rest : List Value} {own C : String} {index : Nat} (hown : s.vm.findClass own = some m.cls) (w1 : (Cond.classLink own index C).before a0 Z = true) (w2 : (Cond.arrayOver (.object C)).before a0 Z = true) {z : Int32} (nn : Nat) (hz : z.toInt = nn) (hd : decode c.code g.pc = .ok (.anewarray index, 3)) (hs : g.stack = .int z :: rest)
    (cap : Nat) (hcap : nn ≤ cap) (hb : cap * 8 ≤ 536870912) (hc : cells + 1 ≤ R.cells) (hl : slots + cap ≤ R.slots)
    (k : ∀ (T' : State) (h' : Heap) (a : Addr), Stand p l e R s m args below meth c T' locs (cells + 1) (slots + cap) → T'.heap = h' → Ext h h' → a = h.size → Ary Z h' a (.object C) nn (fun _ => .null) → G (T'.setTop { g with pc := g.pc + 3, stack := .ref a :: rest })) : G (T.setTop g) := by
  have q : ¬ z < 0 := by
    rw [Int32.lt_iff_toInt_lt, hz]
    have : (0 : Int32).toInt = 0 := rfl
    omega
  obtain ⟨T1, h1, cA, X1, e1, E1, A1, -, st⟩ := newR X hx hZ hown w1 w2 eT hg hd hs q (cap := cap) (by rw [ix_of hz]; exact hcap) hb hc hl
  have F := Ary.new A1 q
  rw [ix_of hz] at F
  exact go _ _ st (k T1 h1 _ X1 e1 E1 rfl F)
end St
end OwnArr
section OwnSta
variable {args : Array Value} {s Z : State} {C n d K : String} {a b : Addr} {h h' : Heap} {v w : Value} {t : Term} {ws : List Addr}
theorem own_sta (hx : (Jvm.Cond.exactly (Term.static C n d) K).value args s none s [] = some true) (w1 : (Jvm.Cond.initialized C).before args s = true) (w2 : (Jvm.Cond.laysStatic C n d).before args s = true) :
    ∃ a, Sta s s.heap C n d (.ref a) ∧ Exa s s.heap a K ∧ (Term.static C n d).eval args s none [] s = some (.ref a) := by
  obtain ⟨a, ev⟩ := exa_v hx
  exact ⟨a, Sta.start ev (Or.inr ⟨w1, w2⟩), Exa.start ev hx, ev⟩
theorem own_fieldeq {k : Int32} (ev : t.eval args s none [] s = some (.ref a)) (hq : (Jvm.Cond.eq (.field t C n d) (.int k)).value args s none s [] = some true) : Fld s s.heap a C n d (.int k) := by
  obtain ⟨x, y, ex, ey, k1, k2⟩ := cmp_v (Or.inl hq)
  have ey' := Option.some.inj ((Term.int_eval k).symm.trans ey)
  subst ey'
  obtain ⟨z, rfl⟩ := k2
  have := gotT (Cond.eq_ints ex ey) hq
  subst this
  rw [fld_at ev] at ex
  exact Fld.start ex
theorem own_sta_keep (F : Sta Z h C n d v) (K : Keep h h' ws) (q : ∀ w ∈ ws, ∃ c : Cell, h[w]? = some c ∧ c.vm.isStatics = false) : Sta Z h' C n d v := by
  obtain ⟨cf, i, k, f, st, cell, h1, h2, h3, h4, h5, h6, h7⟩ := F
  refine ⟨cf, i, k, f, st, cell, h1, h2, h3, h4, K.2.1 st cell h5 (fun hm => ?_), h6, h7⟩
  obtain ⟨c, e1, e2⟩ := q st hm
  cases h5.symm.trans e1
  rw [h6] at e2
  cases e2
theorem own_exa_ns (E : Exa Z h a C) : ∃ c : Cell, h[a]? = some c ∧ c.vm.isStatics = false := by
  obtain ⟨cell, k, h1, -, -, h4, -⟩ := E
  exact ⟨cell, h1, h4⟩
end OwnSta
section OwnTab
variable {args : Array Value} {s : State} {a : Addr} {c : Cell}
theorem own_len {t : Term} {k : Int32} (ev : t.eval args s none [] s = some (.ref a)) (hat : s.arrayAt? a = some c) (hq : (Jvm.Cond.eq (.length t) (.int k)).value args s none s [] = some true) : (c.slots.size : Int) = k.toInt ∧ c.slots.size < 2 ^ 31 := by
  obtain ⟨x, y, ex, ey, -, -⟩ := cmp_v (Or.inl hq)
  by_cases hl : c.slots.size < 2 ^ 31
  · have q := gotT (Cond.eq_ints (len_f ev hat hl) (Term.int_eval k)) hq
    rw [← q, len_toInt hl]
    exact ⟨rfl, hl⟩
  · simp [Term.eval, ev, hat, hl] at ex
end OwnTab

def b2i (b : Bool) : Int32 := if b then 1 else 0
theorem nar_b2i (b : Bool) : nar .boolean (b2i b) = b2i b := by cases b <;> rfl
theorem b2i_if (b : Bool) : b2i b = if b = true then 1 else 0 := by cases b <;> rfl
theorem own_lt {u v : Int32} {i j : Nat} (h1 : u.toInt = i) (h2 : v.toInt = j) : u < v ↔ i < j := by rw [Int32.lt_iff_toInt_lt, h1, h2]; omega
theorem own_eq {u v : Int32} {i j : Nat} (h1 : u.toInt = i) (h2 : v.toInt = j) : u = v ↔ i = j := by rw [← Int32.toInt_inj, h1, h2]; omega
theorem own_add {u v : Int32} {i j : Nat} (h1 : u.toInt = i) (h2 : v.toInt = j) (hi : i + j < 1000) : (u + v).toInt = ((i + j : Nat) : Int) := by
  have q := c_iadd u v
  have r := rng32 (u + v)
  omega
theorem own_sub {u v : Int32} {i j : Nat} (h1 : u.toInt = i) (h2 : v.toInt = j) (hi : j ≤ i) (hi2 : i < 1000) : (u - v).toInt = ((i - j : Nat) : Int) := by
  have q := c_isub u v
  have r := rng32 (u - v)
  omega
theorem own_lit {u : Int32} {n : Nat} (k : Int32) {kk : Nat} (hk : k.toInt = kk) (h : u.toInt = n) : u = k ↔ n = kk := by rw [← Int32.toInt_inj, h, hk]; omega
theorem own_n4 {u nn : Int32} (h : nn = 1 + (u &&& 3)) : ∃ N : Nat, nn.toInt = N ∧ 1 ≤ N ∧ N ≤ 4 := by
  have e1 : (u &&& 3).toInt = u.toInt % (2 ^ 2 : Nat) := c_mask u _ 2 (by decide) (by decide)
  have q := c_iadd 1 (u &&& 3)
  have r := rng32 (1 + (u &&& 3))
  have o : (1 : Int32).toInt = 1 := rfl
  rw [← h] at q r
  exact ⟨nn.toInt.toNat, by omega, by omega, by omega⟩
theorem own_n4c {nn : Int32} {N : Nat} (h : nn.toInt = N) (h1 : 1 ≤ N) (h4 : N ≤ 4) : nn = 1 ∨ nn = 2 ∨ nn = 3 ∨ nn = 4 := by
  simp only [← Int32.toInt_inj, h, show (1 : Int32).toInt = 1 from rfl, show (2 : Int32).toInt = 2 from rfl, show (3 : Int32).toInt = 3 from rfl, show (4 : Int32).toInt = 4 from rfl]
  omega
theorem own_nz {nn : Int32} {N : Nat} (h : nn.toInt = N) (h1 : 1 ≤ N) : nn ≠ 0 := by
  intro z; rw [z] at h; have : (0 : Int32).toInt = 0 := rfl; omega
theorem own_rem {u d y : Int32} {D : Nat} (hd : d.toInt = D) (h1 : 1 ≤ D) (hy : y = (u &&& 2147483647) % d) : ∃ i : Nat, y.toInt = i ∧ i < D := by
  have e1 : (u &&& 2147483647).toInt = u.toInt % (2 ^ 31 : Nat) := c_mask u _ 31 (by decide) (by decide)
  have q := (c_iremV (u &&& 2147483647) d).1 (by omega) (by omega)
  rw [← hy] at q
  exact ⟨y.toInt.toNat, by omega, by omega⟩
theorem own_j {iv rv nn jv : Int32} {iN rN N : Nat} (hi : iv.toInt = iN) (hr : rv.toInt = rN) (hn : nn.toInt = N) (h1 : iN < N) (h2 : rN < N - 1) (h3 : N ≤ 4) (hj : jv = (iv + 1 + rv) % nn) : ∃ jN : Nat, jv.toInt = jN ∧ jN < N ∧ jN ≠ iN := by
  have e : (iv + 1 + rv).toInt = ((iN + 1 + rN : Nat) : Int) := own_add (own_add hi (j := 1) rfl (by omega)) hr (by omega)
  have q := (c_iremV (iv + 1 + rv) nn).1 (by omega) (by omega)
  rw [← hj, e] at q
  refine ⟨jv.toInt.toNat, by omega, by omega, ?_⟩
  by_cases c : iN + 1 + rN < N
  · have := q.2.2.2.1 (by omega); omega
  · have := q.2.2.2.2 (by omega) (by omega); omega
def gb1 (i : Nat) (q : Nat) : Bool := decide (q = i)
def gb2 (i j : Nat) (q : Nat) : Bool := decide (q = i ∨ q = j)
theorem own_g0 {n i : Nat} : ∀ q, q < n → (fun q => if q = i then Value.int (nar .boolean 1) else (fun q => Value.int (b2i ((fun _ => false) q))) q) q = (fun q => Value.int (b2i (gb1 i q))) q := by
  intro q _
  show (if q = i then Value.int (nar .boolean 1) else Value.int (b2i false)) = Value.int (b2i (gb1 i q))
  unfold gb1
  by_cases h : q = i <;> simp [h, b2i, nar]
theorem own_gs {n i : Nat} {gb : Nat → Bool} : ∀ q, q < n → (fun q => if q = i then Value.int (nar .boolean 1) else (fun q => Value.int (b2i (gb q))) q) q = (fun q => Value.int (b2i (if q = i then true else gb q))) q := by
  intro q _
  show (if q = i then Value.int (nar .boolean 1) else Value.int (b2i (gb q))) = Value.int (b2i (if q = i then true else gb q))
  by_cases h : q = i <;> simp [h, b2i, nar]
theorem own_gz {n : Nat} : ∀ q, q < n → (fun _ => defaultValue .boolean) q = (fun q => Value.int (b2i ((fun _ => false) q))) q := fun q _ => rfl
theorem own_iff {b : Bool} {P : Prop} [Decidable P] (h : b = true ↔ P) : b2i b = if P then 1 else 0 := by
  by_cases p : P
  · rw [if_pos p, h.mpr p]; rfl
  · rw [if_neg p]; cases b
    · rfl
    · exact absurd (h.mp rfl) p
theorem own_ov {ov : Int32} (h : ov = 0 ∨ ov = 1) : nar .boolean ov = ov := by rcases h with rfl | rfl <;> rfl
theorem own_ovn {ov : Int32} (h : ov = 0 ∨ ov = 1) : narrow .boolean (.int ov) = .int ov := by rcases h with rfl | rfl <;> rfl
theorem own_ovf {ov : Int32} (h : ov = 0 ∨ ov = 1) : fits .boolean (.int ov) = true := by rcases h with rfl | rfl <;> rfl

theorem own_tt {b : Bool} (h : b = true) : (1 : Int32) = b2i b := by rw [h]; rfl
theorem own_ff {b : Bool} (h : ¬ b = true) : (0 : Int32) = b2i b := by cases b; rfl; exact absurd rfl h
theorem own_ntt {b : Bool} (h : b = true) : (0 : Int32) = b2i (!b) := by rw [h]; rfl
theorem own_nff {b : Bool} (h : ¬ b = true) : (1 : Int32) = b2i (!b) := by cases b; rfl; exact absurd rfl h

theorem own_min {x y mv : Int32} {i j : Nat} (hx : x.toInt = i) (hy : y.toInt = j) (h : mv = (if y < x then y else x)) : ∃ mN : Nat, mv.toInt = mN ∧ mN ≤ i ∧ mN ≤ j := by
  by_cases c : y < x
  · rw [if_pos c] at h; rw [own_lt hy hx] at c; exact ⟨j, by rw [h]; exact hy, by omega, Nat.le_refl _⟩
  · rw [if_neg c] at h; rw [own_lt hy hx] at c; exact ⟨i, by rw [h]; exact hx, Nat.le_refl _, by omega⟩
theorem own_mo {k2 x : Int32} (h : ¬ x < k2) : (if k2 < x then (0 : Int32) else 1) = if k2 = x then 1 else 0 := by
  by_cases c : k2 = x
  · rw [c, if_neg Int32.lt_irrefl, if_pos rfl]
  · rw [if_neg c]
    by_cases d : k2 < x
    · rw [if_pos d]
    · exact absurd (Int32.le_antisymm (Int32.not_lt.mp h) (Int32.not_lt.mp d)) c
theorem d1_0 : decode jdk_38_method_2_code 0 = .ok (.aload_n 0, 1) := by decide +kernel
theorem d1_1 : decode jdk_38_method_2_code 1 = .ok (.invokespecial 1, 3) := by decide +kernel
theorem d1_4 : decode jdk_38_method_2_code 4 = .ok (.aload_n 0, 1) := by decide +kernel
theorem d1_5 : decode jdk_38_method_2_code 5 = .ok (.getstatic 39, 3) := by decide +kernel
theorem d1_8 : decode jdk_38_method_2_code 8 = .ok (.putfield 9, 3) := by decide +kernel
theorem d1_11 : decode jdk_38_method_2_code 11 = .ok (.return_, 1) := by decide +kernel
theorem d2_0 : decode jdk_39_method_1_code 0 = .ok (.aload_n 0, 1) := by decide +kernel
theorem d2_1 : decode jdk_39_method_1_code 1 = .ok (.invokespecial 1, 3) := by decide +kernel
theorem d2_4 : decode jdk_39_method_1_code 4 = .ok (.aload_n 0, 1) := by decide +kernel
theorem d2_5 : decode jdk_39_method_1_code 5 = .ok (.iconst 0, 1) := by decide +kernel
theorem d2_6 : decode jdk_39_method_1_code 6 = .ok (.putfield 7, 3) := by decide +kernel
theorem d2_9 : decode jdk_39_method_1_code 9 = .ok (.return_, 1) := by decide +kernel
theorem d3_0 : decode jdk_22_method_1_code 0 = .ok (.aload_n 0, 1) := by decide +kernel
theorem d3_1 : decode jdk_22_method_1_code 1 = .ok (.invokespecial 1, 3) := by decide +kernel
theorem d3_4 : decode jdk_22_method_1_code 4 = .ok (.return_, 1) := by decide +kernel
theorem d5_0 : decode jdk_38_method_25_code 0 = .ok (.aload_n 0, 1) := by decide +kernel
theorem d5_1 : decode jdk_38_method_25_code 1 = .ok (.dup, 1) := by decide +kernel
theorem d5_2 : decode jdk_38_method_25_code 2 = .ok (.getfield 63, 3) := by decide +kernel
theorem d5_5 : decode jdk_38_method_25_code 5 = .ok (.iconst 1, 1) := by decide +kernel
theorem d5_6 : decode jdk_38_method_25_code 6 = .ok (.iadd, 1) := by decide +kernel
theorem d5_7 : decode jdk_38_method_25_code 7 = .ok (.putfield 63, 3) := by decide +kernel
theorem d5_10 : decode jdk_38_method_25_code 10 = .ok (.aload_n 0, 1) := by decide +kernel
theorem d5_11 : decode jdk_38_method_25_code 11 = .ok (.aload_n 1, 1) := by decide +kernel
theorem d5_12 : decode jdk_38_method_25_code 12 = .ok (.aload_n 0, 1) := by decide +kernel
theorem d5_13 : decode jdk_38_method_25_code 13 = .ok (.getfield 9, 3) := by decide +kernel
theorem d5_16 : decode jdk_38_method_25_code 16 = .ok (.aload_n 0, 1) := by decide +kernel
theorem d5_17 : decode jdk_38_method_25_code 17 = .ok (.getfield 48, 3) := by decide +kernel
theorem d5_20 : decode jdk_38_method_25_code 20 = .ok (.invokevirtual 131, 3) := by decide +kernel
theorem d5_23 : decode jdk_38_method_25_code 23 = .ok (.iconst 1, 1) := by decide +kernel
theorem d5_24 : decode jdk_38_method_25_code 24 = .ok (.ireturn, 1) := by decide +kernel
theorem d6_0 : decode jdk_38_method_24_code 0 = .ok (.iload_n 3, 1) := by decide +kernel
theorem d6_1 : decode jdk_38_method_24_code 1 = .ok (.aload_n 2, 1) := by decide +kernel
theorem d6_2 : decode jdk_38_method_24_code 2 = .ok (.arraylength, 1) := by decide +kernel
theorem d6_3 : decode jdk_38_method_24_code 3 = .ok (.if_icmp .ne 8, 3) := by decide +kernel
theorem d6_6 : decode jdk_38_method_24_code 6 = .ok (.aload_n 0, 1) := by decide +kernel
theorem d6_7 : decode jdk_38_method_24_code 7 = .ok (.invokevirtual 129, 3) := by decide +kernel
theorem d6_10 : decode jdk_38_method_24_code 10 = .ok (.astore_n 2, 1) := by decide +kernel
theorem d6_11 : decode jdk_38_method_24_code 11 = .ok (.aload_n 2, 1) := by decide +kernel
theorem d6_12 : decode jdk_38_method_24_code 12 = .ok (.iload_n 3, 1) := by decide +kernel
theorem d6_13 : decode jdk_38_method_24_code 13 = .ok (.aload_n 1, 1) := by decide +kernel
theorem d6_14 : decode jdk_38_method_24_code 14 = .ok (.aastore, 1) := by decide +kernel
theorem d6_15 : decode jdk_38_method_24_code 15 = .ok (.aload_n 0, 1) := by decide +kernel
theorem d6_16 : decode jdk_38_method_24_code 16 = .ok (.iload_n 3, 1) := by decide +kernel
theorem d6_17 : decode jdk_38_method_24_code 17 = .ok (.iconst 1, 1) := by decide +kernel
theorem d6_18 : decode jdk_38_method_24_code 18 = .ok (.iadd, 1) := by decide +kernel
theorem d6_19 : decode jdk_38_method_24_code 19 = .ok (.putfield 48, 3) := by decide +kernel
theorem d6_22 : decode jdk_38_method_24_code 22 = .ok (.return_, 1) := by decide +kernel
theorem d7_0 : decode jdk_38_method_7_code 0 = .ok (.aload_n 0, 1) := by decide +kernel
theorem d7_1 : decode jdk_38_method_7_code 1 = .ok (.aload_n 0, 1) := by decide +kernel
theorem d7_2 : decode jdk_38_method_7_code 2 = .ok (.getfield 48, 3) := by decide +kernel
theorem d7_5 : decode jdk_38_method_7_code 5 = .ok (.iconst 1, 1) := by decide +kernel
theorem d7_6 : decode jdk_38_method_7_code 6 = .ok (.iadd, 1) := by decide +kernel
theorem d7_7 : decode jdk_38_method_7_code 7 = .ok (.invokevirtual 69, 3) := by decide +kernel
theorem d7_10 : decode jdk_38_method_7_code 10 = .ok (.areturn, 1) := by decide +kernel
theorem d8_0 : decode jdk_38_method_6_code 0 = .ok (.aload_n 0, 1) := by decide +kernel
theorem d8_1 : decode jdk_38_method_6_code 1 = .ok (.getfield 9, 3) := by decide +kernel
theorem d8_4 : decode jdk_38_method_6_code 4 = .ok (.arraylength, 1) := by decide +kernel
theorem d8_5 : decode jdk_38_method_6_code 5 = .ok (.istore_n 2, 1) := by decide +kernel
theorem d8_6 : decode jdk_38_method_6_code 6 = .ok (.iload_n 2, 1) := by decide +kernel
theorem d8_7 : decode jdk_38_method_6_code 7 = .ok (.ifCond .gt 13, 3) := by decide +kernel
theorem d8_10 : decode jdk_38_method_6_code 10 = .ok (.aload_n 0, 1) := by decide +kernel
theorem d8_11 : decode jdk_38_method_6_code 11 = .ok (.getfield 9, 3) := by decide +kernel
theorem d8_14 : decode jdk_38_method_6_code 14 = .ok (.getstatic 39, 3) := by decide +kernel
theorem d8_17 : decode jdk_38_method_6_code 17 = .ok (.if_acmp .eq 28, 3) := by decide +kernel
theorem d8_45 : decode jdk_38_method_6_code 45 = .ok (.aload_n 0, 1) := by decide +kernel
theorem d8_46 : decode jdk_38_method_6_code 46 = .ok (.bipush 10, 2) := by decide +kernel
theorem d8_48 : decode jdk_38_method_6_code 48 = .ok (.iload_n 1, 1) := by decide +kernel
theorem d8_49 : decode jdk_38_method_6_code 49 = .ok (.invokestatic 79, 3) := by decide +kernel
theorem d8_52 : decode jdk_38_method_6_code 52 = .ok (.anewarray 7, 3) := by decide +kernel
theorem d8_55 : decode jdk_38_method_6_code 55 = .ok (.dup_x1, 1) := by decide +kernel
theorem d8_56 : decode jdk_38_method_6_code 56 = .ok (.putfield 9, 3) := by decide +kernel
theorem d8_59 : decode jdk_38_method_6_code 59 = .ok (.areturn, 1) := by decide +kernel
theorem d9_0 : decode jdk_29_method_65_code 0 = .ok (.iload_n 0, 1) := by decide +kernel
theorem d9_1 : decode jdk_29_method_65_code 1 = .ok (.iload_n 1, 1) := by decide +kernel
theorem d9_2 : decode jdk_29_method_65_code 2 = .ok (.if_icmp .lt 7, 3) := by decide +kernel
theorem d9_5 : decode jdk_29_method_65_code 5 = .ok (.iload_n 0, 1) := by decide +kernel
theorem d9_6 : decode jdk_29_method_65_code 6 = .ok (.goto 4, 3) := by decide +kernel
theorem d9_9 : decode jdk_29_method_65_code 9 = .ok (.iload_n 1, 1) := by decide +kernel
theorem d9_10 : decode jdk_29_method_65_code 10 = .ok (.ireturn, 1) := by decide +kernel
theorem d10_0 : decode prog_21_method_1_code 0 = .ok (.aload_n 0, 1) := by decide +kernel
theorem d10_1 : decode prog_21_method_1_code 1 = .ok (.invokespecial 1, 3) := by decide +kernel
theorem d10_4 : decode prog_21_method_1_code 4 = .ok (.aload_n 0, 1) := by decide +kernel
theorem d10_5 : decode prog_21_method_1_code 5 = .ok (.aload_n 1, 1) := by decide +kernel
theorem d10_6 : decode prog_21_method_1_code 6 = .ok (.putfield 7, 3) := by decide +kernel
theorem d10_9 : decode prog_21_method_1_code 9 = .ok (.aload_n 0, 1) := by decide +kernel
theorem d10_10 : decode prog_21_method_1_code 10 = .ok (.iload_n 2, 1) := by decide +kernel
theorem d10_11 : decode prog_21_method_1_code 11 = .ok (.putfield 13, 3) := by decide +kernel
theorem d10_14 : decode prog_21_method_1_code 14 = .ok (.aload_n 0, 1) := by decide +kernel
theorem d10_15 : decode prog_21_method_1_code 15 = .ok (.aload_n 1, 1) := by decide +kernel
theorem d10_16 : decode prog_21_method_1_code 16 = .ok (.invokeinterface 17 1, 5) := by decide +kernel
theorem d10_21 : decode prog_21_method_1_code 21 = .ok (.newarray .boolean, 2) := by decide +kernel
theorem d10_23 : decode prog_21_method_1_code 23 = .ok (.putfield 23, 3) := by decide +kernel
theorem d10_26 : decode prog_21_method_1_code 26 = .ok (.return_, 1) := by decide +kernel
theorem d11_0 : decode jdk_38_method_8_code 0 = .ok (.aload_n 0, 1) := by decide +kernel
theorem d11_1 : decode jdk_38_method_8_code 1 = .ok (.getfield 48, 3) := by decide +kernel
theorem d11_4 : decode jdk_38_method_8_code 4 = .ok (.ireturn, 1) := by decide +kernel
theorem d12_0 : decode prog_21_method_3_code 0 = .ok (.aload_n 0, 1) := by decide +kernel
theorem d12_1 : decode prog_21_method_3_code 1 = .ok (.getfield 23, 3) := by decide +kernel
theorem d12_4 : decode prog_21_method_3_code 4 = .ok (.iload_n 1, 1) := by decide +kernel
theorem d12_5 : decode prog_21_method_3_code 5 = .ok (.baload, 1) := by decide +kernel
theorem d12_6 : decode prog_21_method_3_code 6 = .ok (.ireturn, 1) := by decide +kernel
theorem d13_0 : decode prog_21_method_4_code 0 = .ok (.aload_n 0, 1) := by decide +kernel
theorem d13_1 : decode prog_21_method_4_code 1 = .ok (.getfield 23, 3) := by decide +kernel
theorem d13_4 : decode prog_21_method_4_code 4 = .ok (.iload_n 1, 1) := by decide +kernel
theorem d13_5 : decode prog_21_method_4_code 5 = .ok (.iconst 1, 1) := by decide +kernel
theorem d13_6 : decode prog_21_method_4_code 6 = .ok (.bastore, 1) := by decide +kernel
theorem d13_7 : decode prog_21_method_4_code 7 = .ok (.aload_n 0, 1) := by decide +kernel
theorem d13_8 : decode prog_21_method_4_code 8 = .ok (.dup, 1) := by decide +kernel
theorem d13_9 : decode prog_21_method_4_code 9 = .ok (.getfield 47, 3) := by decide +kernel
theorem d13_12 : decode prog_21_method_4_code 12 = .ok (.iconst 1, 1) := by decide +kernel
theorem d13_13 : decode prog_21_method_4_code 13 = .ok (.iadd, 1) := by decide +kernel
theorem d13_14 : decode prog_21_method_4_code 14 = .ok (.putfield 47, 3) := by decide +kernel
theorem d13_17 : decode prog_21_method_4_code 17 = .ok (.aload_n 0, 1) := by decide +kernel
theorem d13_18 : decode prog_21_method_4_code 18 = .ok (.iload_n 1, 1) := by decide +kernel
theorem d13_19 : decode prog_21_method_4_code 19 = .ok (.iconst 1, 1) := by decide +kernel
theorem d13_20 : decode prog_21_method_4_code 20 = .ok (.iadd, 1) := by decide +kernel
theorem d13_21 : decode prog_21_method_4_code 21 = .ok (.putfield 27, 3) := by decide +kernel
theorem d13_24 : decode prog_21_method_4_code 24 = .ok (.return_, 1) := by decide +kernel
theorem d14_0 : decode prog_21_method_7_code 0 = .ok (.aload_n 0, 1) := by decide +kernel
theorem d14_1 : decode prog_21_method_7_code 1 = .ok (.getfield 13, 3) := by decide +kernel
theorem d14_4 : decode prog_21_method_7_code 4 = .ok (.ifCond .eq 27, 3) := by decide +kernel
theorem d14_7 : decode prog_21_method_7_code 7 = .ok (.aload_n 0, 1) := by decide +kernel
theorem d14_8 : decode prog_21_method_7_code 8 = .ok (.getfield 27, 3) := by decide +kernel
theorem d14_11 : decode prog_21_method_7_code 11 = .ok (.aload_n 0, 1) := by decide +kernel
theorem d14_12 : decode prog_21_method_7_code 12 = .ok (.getfield 7, 3) := by decide +kernel
theorem d14_15 : decode prog_21_method_7_code 15 = .ok (.invokeinterface 17 1, 5) := by decide +kernel
theorem d14_20 : decode prog_21_method_7_code 20 = .ok (.if_icmp .ge 7, 3) := by decide +kernel
theorem d14_23 : decode prog_21_method_7_code 23 = .ok (.iconst 1, 1) := by decide +kernel
theorem d14_24 : decode prog_21_method_7_code 24 = .ok (.goto 28, 3) := by decide +kernel
theorem d14_27 : decode prog_21_method_7_code 27 = .ok (.iconst 0, 1) := by decide +kernel
theorem d14_28 : decode prog_21_method_7_code 28 = .ok (.goto 24, 3) := by decide +kernel
theorem d14_31 : decode prog_21_method_7_code 31 = .ok (.aload_n 0, 1) := by decide +kernel
theorem d14_32 : decode prog_21_method_7_code 32 = .ok (.getfield 47, 3) := by decide +kernel
theorem d14_35 : decode prog_21_method_7_code 35 = .ok (.aload_n 0, 1) := by decide +kernel
theorem d14_36 : decode prog_21_method_7_code 36 = .ok (.getfield 7, 3) := by decide +kernel
theorem d14_39 : decode prog_21_method_7_code 39 = .ok (.invokeinterface 17 1, 5) := by decide +kernel
theorem d14_44 : decode prog_21_method_7_code 44 = .ok (.if_icmp .ge 7, 3) := by decide +kernel
theorem d14_47 : decode prog_21_method_7_code 47 = .ok (.iconst 1, 1) := by decide +kernel
theorem d14_48 : decode prog_21_method_7_code 48 = .ok (.goto 4, 3) := by decide +kernel
theorem d14_51 : decode prog_21_method_7_code 51 = .ok (.iconst 0, 1) := by decide +kernel
theorem d14_52 : decode prog_21_method_7_code 52 = .ok (.ireturn, 1) := by decide +kernel
theorem d15_0 : decode prog_21_method_5_code 0 = .ok (.aload_n 0, 1) := by decide +kernel
theorem d15_1 : decode prog_21_method_5_code 1 = .ok (.getfield 13, 3) := by decide +kernel
theorem d15_4 : decode prog_21_method_5_code 4 = .ok (.ifCond .ne 18, 3) := by decide +kernel
theorem d15_7 : decode prog_21_method_5_code 7 = .ok (.aload_n 0, 1) := by decide +kernel
theorem d15_8 : decode prog_21_method_5_code 8 = .ok (.getfield 23, 3) := by decide +kernel
theorem d15_11 : decode prog_21_method_5_code 11 = .ok (.iload_n 1, 1) := by decide +kernel
theorem d15_12 : decode prog_21_method_5_code 12 = .ok (.baload, 1) := by decide +kernel
theorem d15_13 : decode prog_21_method_5_code 13 = .ok (.ifCond .ne 7, 3) := by decide +kernel
theorem d15_16 : decode prog_21_method_5_code 16 = .ok (.iconst 1, 1) := by decide +kernel
theorem d15_17 : decode prog_21_method_5_code 17 = .ok (.goto 4, 3) := by decide +kernel
theorem d15_20 : decode prog_21_method_5_code 20 = .ok (.iconst 0, 1) := by decide +kernel
theorem d15_21 : decode prog_21_method_5_code 21 = .ok (.ireturn, 1) := by decide +kernel
theorem d15_22 : decode prog_21_method_5_code 22 = .ok (.iload_n 1, 1) := by decide +kernel
theorem d15_23 : decode prog_21_method_5_code 23 = .ok (.aload_n 0, 1) := by decide +kernel
theorem d15_24 : decode prog_21_method_5_code 24 = .ok (.getfield 27, 3) := by decide +kernel
theorem d15_27 : decode prog_21_method_5_code 27 = .ok (.if_icmp .ge 5, 3) := by decide +kernel
theorem d15_30 : decode prog_21_method_5_code 30 = .ok (.iconst 0, 1) := by decide +kernel
theorem d15_31 : decode prog_21_method_5_code 31 = .ok (.ireturn, 1) := by decide +kernel
theorem d15_32 : decode prog_21_method_5_code 32 = .ok (.aload_n 0, 1) := by decide +kernel
theorem d15_33 : decode prog_21_method_5_code 33 = .ok (.getfield 27, 3) := by decide +kernel
theorem d15_36 : decode prog_21_method_5_code 36 = .ok (.istore_n 2, 1) := by decide +kernel
theorem d15_37 : decode prog_21_method_5_code 37 = .ok (.iload_n 2, 1) := by decide +kernel
theorem d15_38 : decode prog_21_method_5_code 38 = .ok (.iload_n 1, 1) := by decide +kernel
theorem d15_39 : decode prog_21_method_5_code 39 = .ok (.if_icmp .ge 30, 3) := by decide +kernel
theorem d15_69 : decode prog_21_method_5_code 69 = .ok (.iconst 1, 1) := by decide +kernel
theorem d15_70 : decode prog_21_method_5_code 70 = .ok (.ireturn, 1) := by decide +kernel
theorem d16_0 : decode jdk_29_method_69_code 0 = .ok (.iload_n 0, 1) := by decide +kernel
theorem d16_1 : decode jdk_29_method_69_code 1 = .ok (.iload_n 1, 1) := by decide +kernel
theorem d16_2 : decode jdk_29_method_69_code 2 = .ok (.if_icmp .gt 7, 3) := by decide +kernel
theorem d16_5 : decode jdk_29_method_69_code 5 = .ok (.iload_n 0, 1) := by decide +kernel
theorem d16_6 : decode jdk_29_method_69_code 6 = .ok (.goto 4, 3) := by decide +kernel
theorem d16_9 : decode jdk_29_method_69_code 9 = .ok (.iload_n 1, 1) := by decide +kernel
theorem d16_10 : decode jdk_29_method_69_code 10 = .ok (.ireturn, 1) := by decide +kernel
theorem pd_0 : parseMethodDescriptor "()V" = some ⟨[], none⟩ := by decide +kernel
theorem pd_1 : parseMethodDescriptor "(II)I" = some ⟨[.int, .int], some .int⟩ := by decide +kernel
theorem pd_2 : parseMethodDescriptor "(I)[Ljava/lang/Object;" = some ⟨[.int], some (.array (.object "java/lang/Object"))⟩ := by decide +kernel
theorem pd_3 : parseMethodDescriptor "()[Ljava/lang/Object;" = some ⟨[], some (.array (.object "java/lang/Object"))⟩ := by decide +kernel
theorem pd_4 : parseMethodDescriptor "(Ljava/lang/Object;[Ljava/lang/Object;I)V" = some ⟨[(.object "java/lang/Object"), (.array (.object "java/lang/Object")), .int], none⟩ := by decide +kernel
theorem pd_5 : parseMethodDescriptor "()I" = some ⟨[], some .int⟩ := by decide +kernel
theorem pd_6 : parseMethodDescriptor "(Ljava/lang/Object;)Z" = some ⟨[(.object "java/lang/Object")], some .boolean⟩ := by decide +kernel
theorem pd_7 : parseMethodDescriptor "(Ljava/util/List;Z)V" = some ⟨[(.object "java/util/List"), .boolean], none⟩ := by decide +kernel
theorem pd_8 : parseMethodDescriptor "(I)Z" = some ⟨[.int], some .boolean⟩ := by decide +kernel
theorem pd_9 : parseMethodDescriptor "(I)V" = some ⟨[.int], none⟩ := by decide +kernel
theorem pd_10 : parseMethodDescriptor "()Z" = some ⟨[], some .boolean⟩ := by decide +kernel
theorem pn_9 : plainFor (⟨"java/lang/Math", "max", "(II)I"⟩ : MethodName) = true := by first | (exact plainFor_of_name (show plainName "java/lang/Math" = true by first | (simp [plainName, overriddenIn]; done) | decide +kernel)) | decide +kernel
theorem ef_rm_max (m : MethodId) (x0 : Int32) (x1 : Int32) : entryFrame m #[(.int x0), (.int x1)] 2 = mkF m 0 #[.val (.int x0), .val (.int x1)] [] := by first | (simp [entryFrame, mkF, argsToLocals, Value.category]; done) | rfl
set_option maxRecDepth 65536 in
set_option maxHeartbeats 40000000 in
theorem rm_max (l : Launch) (Z : State) (a0 : Array Value) (hw : ∀ d ∈ tables_1, d.before a0 Z = true) (u0 u1 : Int32) (h0 : Heap) (n0 : Nat) (Z0 : n0 ≤ h0.size)  :
    Con l Z (⟨"java/lang/Math", "max", "(II)I"⟩ : MethodName) jdk_29_method_65_code 2 (some .int) ({ frames := 0, cells := 0, slots := 0, locals := 0 } : Room) #[(.int u0), (.int u1)] h0 (fun v h L => v = some (.int (if u0 < u1 then u1 else u0)) ∧ Fr n0 L ∧ h = h0) := by
  refine own_body pn_9 ?_
  intro p e s m below meth c s₁ hx hby hml hown hnm hret hZ e0 X0 G go rt
  have N0 := Fr.nil n0
  rw [ef_rm_max m u0 u1]
  show G (s₁.setTop (mkF m 0 #[.val (.int u0), .val (.int u1)] []))
  refine go _ _ (fun t' k' => XS.iloadN X0.here hx rfl (hb hby d9_0) rfl  k') ?_
  show G (s₁.setTop (mkF m 1 #[.val (.int u0), .val (.int u1)] [(.int u0)]))
  refine go _ _ (fun t' k' => XS.iloadN X0.here hx rfl (hb hby d9_1) rfl  k') ?_
  show G (s₁.setTop (mkF m 2 #[.val (.int u0), .val (.int u1)] [(.int u1), (.int u0)]))
  by_cases c101 : u0 < u1
  · refine go _ _ (fun t' k' => XS.icmpYes X0.here hx rfl (pc0 := 2) (pc' := 9) rfl (hb hby d9_2) rfl (Free.XT.ii_lt_t c101) (by decide) (by decide) k') ?_
    show G (s₁.setTop (mkF m 9 #[.val (.int u0), .val (.int u1)] []))
    refine go _ _ (fun t' k' => XS.iloadN X0.here hx rfl (hb hby d9_9) rfl  k') ?_
    show G (s₁.setTop (mkF m 10 #[.val (.int u0), .val (.int u1)] [(.int u1)]))
    refine own_retI rt X0 hx hret (hb hby d9_10) (by decide) (by decide) ?_
    exact ⟨by simp [c101], N0, e0⟩
  · refine go _ _ (fun t' k' => XS.icmpNo X0.here hx rfl (hb hby d9_2) rfl (Free.XT.ii_lt_f c101) k') ?_
    show G (s₁.setTop (mkF m 5 #[.val (.int u0), .val (.int u1)] []))
    refine go _ _ (fun t' k' => XS.iloadN X0.here hx rfl (hb hby d9_5) rfl  k') ?_
    show G (s₁.setTop (mkF m 6 #[.val (.int u0), .val (.int u1)] [(.int u0)]))
    refine go _ _ (fun t' k' => XS.goto X0.here hx rfl (pc0 := 6) (pc' := 10) rfl (hb hby d9_6) (by decide) (by decide) k') ?_
    show G (s₁.setTop (mkF m 10 #[.val (.int u0), .val (.int u1)] [(.int u0)]))
    refine own_retI rt X0 hx hret (hb hby d9_10) (by decide) (by decide) ?_
    exact ⟨by simp [c101], N0, e0⟩
theorem pn_16 : plainFor (⟨"java/lang/Math", "min", "(II)I"⟩ : MethodName) = true := by first | (exact plainFor_of_name (show plainName "java/lang/Math" = true by first | (simp [plainName, overriddenIn]; done) | decide +kernel)) | decide +kernel
theorem ef_rm_min (m : MethodId) (x0 : Int32) (x1 : Int32) : entryFrame m #[(.int x0), (.int x1)] 2 = mkF m 0 #[.val (.int x0), .val (.int x1)] [] := by first | (simp [entryFrame, mkF, argsToLocals, Value.category]; done) | rfl
set_option maxRecDepth 65536 in
set_option maxHeartbeats 40000000 in
theorem rm_min (l : Launch) (Z : State) (a0 : Array Value) (hw : ∀ d ∈ tables_1, d.before a0 Z = true) (u0 u1 : Int32) (h0 : Heap) (n0 : Nat) (Z0 : n0 ≤ h0.size)  :
    Con l Z (⟨"java/lang/Math", "min", "(II)I"⟩ : MethodName) jdk_29_method_69_code 2 (some .int) ({ frames := 0, cells := 0, slots := 0, locals := 0 } : Room) #[(.int u0), (.int u1)] h0 (fun v h L => v = some (.int (if u1 < u0 then u1 else u0)) ∧ Fr n0 L ∧ h = h0) := by
  refine own_body pn_16 ?_
  intro p e s m below meth c s₁ hx hby hml hown hnm hret hZ e0 X0 G go rt
  have N0 := Fr.nil n0
  rw [ef_rm_min m u0 u1]
  show G (s₁.setTop (mkF m 0 #[.val (.int u0), .val (.int u1)] []))
  refine go _ _ (fun t' k' => XS.iloadN X0.here hx rfl (hb hby d16_0) rfl  k') ?_
  show G (s₁.setTop (mkF m 1 #[.val (.int u0), .val (.int u1)] [(.int u0)]))
  refine go _ _ (fun t' k' => XS.iloadN X0.here hx rfl (hb hby d16_1) rfl  k') ?_
  show G (s₁.setTop (mkF m 2 #[.val (.int u0), .val (.int u1)] [(.int u1), (.int u0)]))
  by_cases c102 : u1 < u0
  · refine go _ _ (fun t' k' => XS.icmpYes X0.here hx rfl (pc0 := 2) (pc' := 9) rfl (hb hby d16_2) rfl (Free.XT.ii_gt_t c102) (by decide) (by decide) k') ?_
    show G (s₁.setTop (mkF m 9 #[.val (.int u0), .val (.int u1)] []))
    refine go _ _ (fun t' k' => XS.iloadN X0.here hx rfl (hb hby d16_9) rfl  k') ?_
    show G (s₁.setTop (mkF m 10 #[.val (.int u0), .val (.int u1)] [(.int u1)]))
    refine own_retI rt X0 hx hret (hb hby d16_10) (by decide) (by decide) ?_
    exact ⟨by simp [c102], N0, e0⟩
  · refine go _ _ (fun t' k' => XS.icmpNo X0.here hx rfl (hb hby d16_2) rfl (Free.XT.ii_gt_f c102) k') ?_
    show G (s₁.setTop (mkF m 5 #[.val (.int u0), .val (.int u1)] []))
    refine go _ _ (fun t' k' => XS.iloadN X0.here hx rfl (hb hby d16_5) rfl  k') ?_
    show G (s₁.setTop (mkF m 6 #[.val (.int u0), .val (.int u1)] [(.int u0)]))
    refine go _ _ (fun t' k' => XS.goto X0.here hx rfl (pc0 := 6) (pc' := 10) rfl (hb hby d16_6) (by decide) (by decide) k') ?_
    show G (s₁.setTop (mkF m 10 #[.val (.int u0), .val (.int u1)] [(.int u0)]))
    refine own_retI rt X0 hx hret (hb hby d16_10) (by decide) (by decide) ?_
    exact ⟨by simp [c102], N0, e0⟩
theorem pn_3 : plainFor (⟨"java/util/AbstractCollection", "<init>", "()V"⟩ : MethodName) = true := by first | (exact plainFor_of_name (show plainName "java/util/AbstractCollection" = true by first | (simp [plainName, overriddenIn]; done) | decide +kernel)) | decide +kernel
theorem ef_rm_ac (m : MethodId) (x0 : Addr) : entryFrame m #[(.ref x0)] 1 = mkF m 0 #[.val (.ref x0)] [] := by first | (simp [entryFrame, mkF, argsToLocals, Value.category]; done) | rfl
set_option maxRecDepth 65536 in
set_option maxHeartbeats 40000000 in
theorem rm_ac (l : Launch) (Z : State) (a0 : Array Value) (hw : ∀ d ∈ tables_1, d.before a0 Z = true) (r0 : Addr) (h0 : Heap) (n0 : Nat) (Z0 : n0 ≤ h0.size)  :
    Con l Z (⟨"java/util/AbstractCollection", "<init>", "()V"⟩ : MethodName) jdk_22_method_1_code 1 none ({ frames := 1, cells := 0, slots := 0, locals := 12 } : Room) #[(.ref r0)] h0 (fun v h L => v = none ∧ Fr n0 L ∧ h = h0) := by
  refine own_body pn_3 ?_
  intro p e s m below meth c s₁ hx hby hml hown hnm hret hZ e0 X0 G go rt
  have N0 := Fr.nil n0
  rw [ef_rm_ac m r0]
  show G (s₁.setTop (mkF m 0 #[.val (.ref r0)] []))
  refine go _ _ (fun t' k' => XS.aloadN X0.here hx rfl (hb hby d3_0) rfl rfl  k') ?_
  show G (s₁.setTop (mkF m 1 #[.val (.ref r0)] [(.ref r0)]))
  obtain ⟨T103, X103, e103, st103⟩ := initO X0 hx hZ hown (hw _ (List.mem_of_getElem? (i := 19) rfl)) (hw _ (List.mem_of_getElem? (i := 20) rfl)) (hw _ (List.mem_of_getElem? (i := 21) rfl)) e0 (g := (mkF m 1 #[.val (.ref r0)] [(.ref r0)])) rfl (by rw [hml]; rfl) rfl (hb hby d3_1) (by decide) (W := 0) (by show 2 * 0 + _ ≤ _; exact Nat.le_of_eq rfl) (by decide)
  refine go _ _ st103 ?_
  show G (T103.setTop (mkF m 4 #[.val (.ref r0)] []))
  refine own_retV rt X103 hx hret (hb hby d3_4) (by decide) (by decide) ?_
  exact ⟨rfl, N0, e103⟩
theorem pn_2 : plainFor (⟨"java/util/AbstractList", "<init>", "()V"⟩ : MethodName) = true := by first | (exact plainFor_of_name (show plainName "java/util/AbstractList" = true by first | (simp [plainName, overriddenIn]; done) | decide +kernel)) | decide +kernel
theorem ef_rm_ab (m : MethodId) (x0 : Addr) : entryFrame m #[(.ref x0)] 1 = mkF m 0 #[.val (.ref x0)] [] := by first | (simp [entryFrame, mkF, argsToLocals, Value.category]; done) | rfl
set_option maxRecDepth 65536 in
set_option maxHeartbeats 40000000 in
theorem rm_ab (l : Launch) (Z : State) (a0 : Array Value) (hw : ∀ d ∈ tables_1, d.before a0 Z = true) (r0 : Addr) (h0 : Heap) (n0 : Nat) (Z0 : n0 ≤ h0.size) (g_r0 : n0 ≤ r0) (E0 : Exa Z h0 r0 "java/util/ArrayList") (F0 : Fld Z h0 r0 "java/util/ArrayList" "elementData" "[Ljava/lang/Object;" .null) (F1 : Fld Z h0 r0 "java/util/ArrayList" "size" "I" (.int (0 : Int32))) (F2 : Fld Z h0 r0 "java/util/AbstractList" "modCount" "I" (.int (0 : Int32))) :
    Con l Z (⟨"java/util/AbstractList", "<init>", "()V"⟩ : MethodName) jdk_39_method_1_code 1 none ({ frames := 2, cells := 0, slots := 0, locals := 24 } : Room) #[(.ref r0)] h0 (fun v h L => v = none ∧ Fr n0 L ∧ Keep h0 h [r0] ∧ Fld Z h r0 "java/util/ArrayList" "elementData" "[Ljava/lang/Object;" .null ∧ Fld Z h r0 "java/util/ArrayList" "size" "I" (.int (0 : Int32)) ∧ Fld Z h r0 "java/util/AbstractList" "modCount" "I" (.int (0 : Int32))) := by
  refine own_body pn_2 ?_
  intro p e s m below meth c s₁ hx hby hml hown hnm hret hZ e0 X0 G go rt
  have N0 := Fr.nil n0
  rw [ef_rm_ab m r0]
  show G (s₁.setTop (mkF m 0 #[.val (.ref r0)] []))
  refine go _ _ (fun t' k' => XS.aloadN X0.here hx rfl (hb hby d2_0) rfl rfl  k') ?_
  show G (s₁.setTop (mkF m 1 #[.val (.ref r0)] [(.ref r0)]))
  refine own_init go X0 hx hZ e0 rfl hown (hw _ (List.mem_of_getElem? (i := 13) rfl)) (hw _ (List.mem_of_getElem? (i := 14) rfl)) (hw _ (List.mem_of_getElem? (i := 17) rfl)) (hw _ (List.mem_of_getElem? (i := 18) rfl)) (by decide) (rm_ac l Z a0 hw r0 h0 n0 Z0) 0 (by decide) (by decide) (by decide) (by decide) (g := (mkF m 1 #[.val (.ref r0)] [(.ref r0)])) rfl (by rw [hml]; rfl) r0 [] [] rfl (lenOf pd_0 rfl) rfl (by show 2 * 0 + _ ≤ _; exact Nat.le_of_eq rfl) (hb hby d2_1) ?_
  intro T104 L104 v104 X104 q104
  obtain ⟨rfl, N104, hh104⟩ := q104
  obtain ⟨lc104, X104h, N104h⟩ := own_hide X104 (Fr.app N0 N104)
  show G (T104.setTop (mkF m 4 #[.val (.ref r0)] []))
  refine go _ _ (fun t' k' => XS.aloadN X104h.here hx rfl (hb hby d2_4) rfl rfl  k') ?_
  show G (T104.setTop (mkF m 5 #[.val (.ref r0)] [(.ref r0)]))
  refine go _ _ (fun t' k' => XS.iconst X104h.here hx rfl (hb hby d2_5) k') ?_
  show G (T104.setTop (mkF m 6 #[.val (.ref r0)] [(.int (0 : Int32)), (.ref r0)]))
  obtain ⟨T105, h105, X105, e105, W105, st105⟩ := putF X104h hx hZ hown (host := "") (Or.inl (hw _ (List.mem_of_getElem? (i := 22) rfl))) Via.refl hh104 F2 E0 (Or.inl (hw _ (List.mem_of_getElem? (i := 23) rfl))) (hw _ (List.mem_of_getElem? (i := 2) rfl)) (ty := .int) (by decide) rfl rfl (g := (mkF m 6 #[.val (.ref r0)] [(.int (0 : Int32)), (.ref r0)])) rfl rfl (hb hby d2_6)
  have F105 := F2.same W105
  have K106 : Keep h0 h105 [r0] := (Keep.refl h0 [r0]).wr W105 (Or.inl (List.mem_of_getElem? (i := 0) rfl))
  obtain ⟨lc105, X105h, N105h⟩ := own_hide X105 (Fr.snoc X105 N104h g_r0)
  have Z107 : n0 ≤ h105.size := Nat.le_trans Z0 (Nat.le_of_eq W105.size.symm)
  refine go _ _ st105 ?_
  show G (T105.setTop (mkF m 9 #[.val (.ref r0)] []))
  refine own_retV rt X105h hx hret (hb hby d2_9) (by decide) (by decide) ?_
  have f108 := (F0.other W105 (Or.inr (slot_ne (Or.inl (hw _ (List.mem_of_getElem? (i := 26) rfl))) (Or.inl (hw _ (List.mem_of_getElem? (i := 23) rfl))) (by decide) (t := (.array (.object "java/lang/Object"))) (t' := .int) (by decide) (by decide))))
  have f109 := (F1.other W105 (Or.inr (slot_ne (Or.inl (hw _ (List.mem_of_getElem? (i := 35) rfl))) (Or.inl (hw _ (List.mem_of_getElem? (i := 23) rfl))) (by decide) (t := .int) (t' := .int) (by decide) (by decide))))
  rw [e105]
  exact ⟨rfl, N105h, K106, f108, f109, F105⟩
theorem pn_1 : plainFor (⟨"java/util/ArrayList", "<init>", "()V"⟩ : MethodName) = true := by first | (exact plainFor_of_name (show plainName "java/util/ArrayList" = true by first | (simp [plainName, overriddenIn]; done) | decide +kernel)) | decide +kernel
theorem ef_rm_ai (m : MethodId) (x0 : Addr) : entryFrame m #[(.ref x0)] 1 = mkF m 0 #[.val (.ref x0)] [] := by first | (simp [entryFrame, mkF, argsToLocals, Value.category]; done) | rfl
set_option maxRecDepth 65536 in
set_option maxHeartbeats 40000000 in
theorem rm_ai (l : Launch) (Z : State) (a0 : Array Value) (hw : ∀ d ∈ tables_1, d.before a0 Z = true) (r0 rd : Addr) (h0 : Heap) (n0 : Nat) (Z0 : n0 ≤ h0.size) (g_r0 : n0 ≤ r0) (Sd : Sta Z h0 "java/util/ArrayList" "DEFAULTCAPACITY_EMPTY_ELEMENTDATA" "[Ljava/lang/Object;" (.ref rd)) (E0 : Exa Z h0 r0 "java/util/ArrayList") (F0 : Fld Z h0 r0 "java/util/ArrayList" "elementData" "[Ljava/lang/Object;" .null) (F1 : Fld Z h0 r0 "java/util/ArrayList" "size" "I" (.int (0 : Int32))) (F2 : Fld Z h0 r0 "java/util/AbstractList" "modCount" "I" (.int (0 : Int32))) :
    Con l Z (⟨"java/util/ArrayList", "<init>", "()V"⟩ : MethodName) jdk_38_method_2_code 1 none ({ frames := 3, cells := 0, slots := 0, locals := 36 } : Room) #[(.ref r0)] h0 (fun v h L => v = none ∧ Fr n0 L ∧ Keep h0 h [r0] ∧ Fld Z h r0 "java/util/ArrayList" "elementData" "[Ljava/lang/Object;" (.ref rd) ∧ Fld Z h r0 "java/util/ArrayList" "size" "I" (.int 0) ∧ Fld Z h r0 "java/util/AbstractList" "modCount" "I" (.int 0)) := by
  refine own_body pn_1 ?_
  intro p e s m below meth c s₁ hx hby hml hown hnm hret hZ e0 X0 G go rt
  have N0 := Fr.nil n0
  rw [ef_rm_ai m r0]
  show G (s₁.setTop (mkF m 0 #[.val (.ref r0)] []))
  refine go _ _ (fun t' k' => XS.aloadN X0.here hx rfl (hb hby d1_0) rfl rfl  k') ?_
  show G (s₁.setTop (mkF m 1 #[.val (.ref r0)] [(.ref r0)]))
  refine own_init go X0 hx hZ e0 rfl hown (hw _ (List.mem_of_getElem? (i := 7) rfl)) (hw _ (List.mem_of_getElem? (i := 8) rfl)) (hw _ (List.mem_of_getElem? (i := 11) rfl)) (hw _ (List.mem_of_getElem? (i := 12) rfl)) (by decide) (rm_ab l Z a0 hw r0 h0 n0 Z0 g_r0 E0 F0 F1 F2) 0 (by decide) (by decide) (by decide) (by decide) (g := (mkF m 1 #[.val (.ref r0)] [(.ref r0)])) rfl (by rw [hml]; rfl) r0 [] [] rfl (lenOf pd_0 rfl) rfl (by show 2 * 0 + _ ≤ _; exact Nat.le_of_eq rfl) (hb hby d1_1) ?_
  intro T110 L110 v110 X110 q110
  obtain ⟨rfl, N110, K110, Fa110, Fb110, Fc110⟩ := q110
  have ns111 : ∀ w ∈ [r0], ∃ c : Cell, h0[w]? = some c ∧ c.vm.isStatics = false := (allS (own_exa_ns E0) all0)
  obtain ⟨lc110, X110h, N110h⟩ := own_hide X110 (Fr.app N0 N110)
  have K112 : Keep h0 T110.heap [r0] := (Keep.refl h0 [r0]).trans K110 (allS (Or.inl (List.mem_of_getElem? (i := 0) rfl)) all0)
  have Z113 : n0 ≤ T110.heap.size := Nat.le_trans Z0 K110.1
  show G (T110.setTop (mkF m 4 #[.val (.ref r0)] []))
  refine go _ _ (fun t' k' => XS.aloadN X110h.here hx rfl (hb hby d1_4) rfl rfl  k') ?_
  show G (T110.setTop (mkF m 5 #[.val (.ref r0)] [(.ref r0)]))
  have f114 := (own_sta_keep Sd K110 ns111)
  obtain ⟨T115, X115, e115, st115⟩ := getS X110h hx hZ hown (host := "") (hw _ (List.mem_of_getElem? (i := 24) rfl)) Via.refl rfl f114 (g := (mkF m 5 #[.val (.ref r0)] [(.ref r0)])) rfl (hb hby d1_5)
  refine go _ _ st115 ?_
  show G (T115.setTop (mkF m 8 #[.val (.ref r0)] [(.ref rd), (.ref r0)]))
  have f116 := (E0.keep K110)
  obtain ⟨T117, h117, X117, e117, W117, st117⟩ := putF X115 hx hZ hown (host := "") (Or.inl (hw _ (List.mem_of_getElem? (i := 25) rfl))) Via.refl e115 Fa110 f116 (Or.inl (hw _ (List.mem_of_getElem? (i := 26) rfl))) (hw _ (List.mem_of_getElem? (i := 2) rfl)) (ty := (.array (.object "java/lang/Object"))) (by decide) rfl rfl (g := (mkF m 8 #[.val (.ref r0)] [(.ref rd), (.ref r0)])) rfl rfl (hb hby d1_8)
  have F117 := Fa110.same W117
  have K118 : Keep h0 h117 [r0] := K112.wr W117 (Or.inl (List.mem_of_getElem? (i := 0) rfl))
  obtain ⟨lc117, X117h, N117h⟩ := own_hide X117 (Fr.snoc X117 N110h g_r0)
  have Z119 : n0 ≤ h117.size := Nat.le_trans Z113 (Nat.le_of_eq W117.size.symm)
  refine go _ _ st117 ?_
  show G (T117.setTop (mkF m 11 #[.val (.ref r0)] []))
  refine own_retV rt X117h hx hret (hb hby d1_11) (by decide) (by decide) ?_
  have f120 := (Fb110.other W117 (Or.inr (slot_ne (Or.inl (hw _ (List.mem_of_getElem? (i := 35) rfl))) (Or.inl (hw _ (List.mem_of_getElem? (i := 26) rfl))) (by decide) (t := .int) (t' := (.array (.object "java/lang/Object"))) (by decide) (by decide))))
  have f121 := (Fc110.other W117 (Or.inr (slot_ne (Or.inl (hw _ (List.mem_of_getElem? (i := 23) rfl))) (Or.inl (hw _ (List.mem_of_getElem? (i := 26) rfl))) (by decide) (t := .int) (t' := (.array (.object "java/lang/Object"))) (by decide) (by decide))))
  rw [e117]
  exact ⟨rfl, N117h, K118, F117, f120, f121⟩
theorem pn_8 : plainFor (⟨"java/util/ArrayList", "grow", "(I)[Ljava/lang/Object;"⟩ : MethodName) = true := by first | (exact plainFor_of_name (show plainName "java/util/ArrayList" = true by first | (simp [plainName, overriddenIn]; done) | decide +kernel)) | decide +kernel
theorem ef_rm_g1 (m : MethodId) (x0 : Addr) (x1 : Int32) : entryFrame m #[(.ref x0), (.int x1)] 4 = mkF m 0 #[.val (.ref x0), .val (.int x1), .unset, .unset] [] := by first | (simp [entryFrame, mkF, argsToLocals, Value.category]; done) | rfl
set_option maxRecDepth 65536 in
set_option maxHeartbeats 40000000 in
theorem rm_g1 (l : Launch) (Z : State) (a0 : Array Value) (hw : ∀ d ∈ tables_1, d.before a0 Z = true) (r0 rd : Addr) (f : Nat → Value) (mc : Int32) (h0 : Heap) (n0 : Nat) (Z0 : n0 ≤ h0.size) (g_r0 : n0 ≤ r0) (Sd : Sta Z h0 "java/util/ArrayList" "DEFAULTCAPACITY_EMPTY_ELEMENTDATA" "[Ljava/lang/Object;" (.ref rd)) (E0 : Exa Z h0 r0 "java/util/ArrayList") (F0 : Fld Z h0 r0 "java/util/ArrayList" "elementData" "[Ljava/lang/Object;" (.ref rd)) (F1 : Fld Z h0 r0 "java/util/ArrayList" "size" "I" (.int 0)) (F2 : Fld Z h0 r0 "java/util/AbstractList" "modCount" "I" (.int mc)) (Ad : Ary Z h0 rd (.object "java/lang/Object") 0 f) (nd : rd ≠ r0) :
    Con l Z (⟨"java/util/ArrayList", "grow", "(I)[Ljava/lang/Object;"⟩ : MethodName) jdk_38_method_6_code 4 (some (.array (.object "java/lang/Object"))) ({ frames := 1, cells := 1, slots := 10, locals := 14 } : Room) #[(.ref r0), (.int (1 : Int32))] h0 (fun v h L => ∃ el : Addr, v = some (.ref el) ∧ Fr n0 L ∧ Keep h0 h [r0] ∧ Fld Z h r0 "java/util/ArrayList" "elementData" "[Ljava/lang/Object;" (.ref el) ∧ Fld Z h r0 "java/util/ArrayList" "size" "I" (.int 0) ∧ Fld Z h r0 "java/util/AbstractList" "modCount" "I" (.int mc) ∧ Ary Z h el (.object "java/lang/Object") 10 (fun _ => .null) ∧ n0 ≤ el ∧ h0.size ≤ el) := by
  refine own_body pn_8 ?_
  intro p e s m below meth c s₁ hx hby hml hown hnm hret hZ e0 X0 G go rt
  have N0 := Fr.nil n0
  rw [ef_rm_g1 m r0 (1 : Int32)]
  show G (s₁.setTop (mkF m 0 #[.val (.ref r0), .val (.int (1 : Int32)), .unset, .unset] []))
  refine go _ _ (fun t' k' => XS.aloadN X0.here hx rfl (hb hby d8_0) rfl rfl  k') ?_
  show G (s₁.setTop (mkF m 1 #[.val (.ref r0), .val (.int (1 : Int32)), .unset, .unset] [(.ref r0)]))
  obtain ⟨T122, X122, e122, st122⟩ := getF X0 hx hZ hown (host := "") (Or.inl (hw _ (List.mem_of_getElem? (i := 25) rfl))) Via.refl e0 F0 (g := (mkF m 1 #[.val (.ref r0), .val (.int (1 : Int32)), .unset, .unset] [(.ref r0)])) rfl rfl (hb hby d8_1)
  refine go _ _ st122 ?_
  show G (T122.setTop (mkF m 4 #[.val (.ref r0), .val (.int (1 : Int32)), .unset, .unset] [(.ref rd)]))
  refine own_arrlen go X122 hx hZ e122 (g := (mkF m 4 #[.val (.ref r0), .val (.int (1 : Int32)), .unset, .unset] [(.ref rd)])) rfl Ad rfl (hb hby d8_4) ?_
  show G (T122.setTop (mkF m 5 #[.val (.ref r0), .val (.int (1 : Int32)), .unset, .unset] [(.int (0 : Int32))]))
  refine go _ _ (fun t' k' => XS.istoreN X122.here hx rfl (hb hby d8_5) rfl (l' := #[.val (.ref r0), .val (.int (1 : Int32)), .val (.int (0 : Int32)), .unset]) rfl k') ?_
  show G (T122.setTop (mkF m 6 #[.val (.ref r0), .val (.int (1 : Int32)), .val (.int (0 : Int32)), .unset] []))
  refine go _ _ (fun t' k' => XS.iloadN X122.here hx rfl (hb hby d8_6) rfl  k') ?_
  show G (T122.setTop (mkF m 7 #[.val (.ref r0), .val (.int (1 : Int32)), .val (.int (0 : Int32)), .unset] [(.int (0 : Int32))]))
  refine go _ _ (fun t' k' => XS.ifNo X122.here hx rfl (hb hby d8_7) rfl (Free.XT.i0_gt_f (by decide)) k') ?_
  show G (T122.setTop (mkF m 10 #[.val (.ref r0), .val (.int (1 : Int32)), .val (.int (0 : Int32)), .unset] []))
  refine go _ _ (fun t' k' => XS.aloadN X122.here hx rfl (hb hby d8_10) rfl rfl  k') ?_
  show G (T122.setTop (mkF m 11 #[.val (.ref r0), .val (.int (1 : Int32)), .val (.int (0 : Int32)), .unset] [(.ref r0)]))
  obtain ⟨T123, X123, e123, st123⟩ := getF X122 hx hZ hown (host := "") (Or.inl (hw _ (List.mem_of_getElem? (i := 25) rfl))) Via.refl e122 F0 (g := (mkF m 11 #[.val (.ref r0), .val (.int (1 : Int32)), .val (.int (0 : Int32)), .unset] [(.ref r0)])) rfl rfl (hb hby d8_11)
  refine go _ _ st123 ?_
  show G (T123.setTop (mkF m 14 #[.val (.ref r0), .val (.int (1 : Int32)), .val (.int (0 : Int32)), .unset] [(.ref rd)]))
  obtain ⟨T124, X124, e124, st124⟩ := getS X123 hx hZ hown (host := "") (hw _ (List.mem_of_getElem? (i := 24) rfl)) Via.refl e123 Sd (g := (mkF m 14 #[.val (.ref r0), .val (.int (1 : Int32)), .val (.int (0 : Int32)), .unset] [(.ref rd)])) rfl (hb hby d8_14)
  refine go _ _ st124 ?_
  show G (T124.setTop (mkF m 17 #[.val (.ref r0), .val (.int (1 : Int32)), .val (.int (0 : Int32)), .unset] [(.ref rd), (.ref rd)]))
  refine go _ _ (fun t' k' => Jvm.RoadKit.acmp (g := (mkF m 17 #[.val (.ref r0), .val (.int (1 : Int32)), .val (.int (0 : Int32)), .unset] [(.ref rd), (.ref rd)])) X124 hx rfl (x := (.ref rd)) (y := (.ref rd)) rfl rfl (rest := []) (pc0 := 17) (pc' := 45) (same := true) rfl (hb hby d8_17) rfl (decide_eq_true rfl) (by decide) (by decide) k') ?_
  show G (T124.setTop (mkF m 45 #[.val (.ref r0), .val (.int (1 : Int32)), .val (.int (0 : Int32)), .unset] []))
  refine go _ _ (fun t' k' => XS.aloadN X124.here hx rfl (hb hby d8_45) rfl rfl  k') ?_
  show G (T124.setTop (mkF m 46 #[.val (.ref r0), .val (.int (1 : Int32)), .val (.int (0 : Int32)), .unset] [(.ref r0)]))
  refine go _ _ (fun t' k' => XS.bipush X124.here hx rfl (hb hby d8_46) k') ?_
  show G (T124.setTop (mkF m 48 #[.val (.ref r0), .val (.int (1 : Int32)), .val (.int (0 : Int32)), .unset] [(.int (10 : Int32)), (.ref r0)]))
  refine go _ _ (fun t' k' => XS.iloadN X124.here hx rfl (hb hby d8_48) rfl  k') ?_
  show G (T124.setTop (mkF m 49 #[.val (.ref r0), .val (.int (1 : Int32)), .val (.int (0 : Int32)), .unset] [(.int (1 : Int32)), (.int (10 : Int32)), (.ref r0)]))
  refine own_static go X124 hx hZ e124 hown (hw _ (List.mem_of_getElem? (i := 51) rfl)) (hw _ (List.mem_of_getElem? (i := 52) rfl)) (hw _ (List.mem_of_getElem? (i := 53) rfl)) (hw _ (List.mem_of_getElem? (i := 54) rfl)) (by decide) (rm_max l Z a0 hw (10 : Int32) (1 : Int32) h0 n0 Z0) 1 (by decide) (by decide) (by decide) (by decide) (g := (mkF m 49 #[.val (.ref r0), .val (.int (1 : Int32)), .val (.int (0 : Int32)), .unset] [(.int (1 : Int32)), (.int (10 : Int32)), (.ref r0)])) rfl (by rw [hml]; rfl) [(.int (10 : Int32)), (.int (1 : Int32))] [(.ref r0)] rfl (lenOf pd_1 rfl) rfl (by show 2 * 0 + _ ≤ _; exact Nat.le_of_eq rfl) (hb hby d8_49) ?_
  intro T125 L125 v125 X125 q125
  obtain ⟨rfl, N125, hh125⟩ := q125
  obtain ⟨lc125, X125h, N125h⟩ := own_hide X125 (Fr.app N0 N125)
  show G (T125.setTop (mkF m 52 #[.val (.ref r0), .val (.int (1 : Int32)), .val (.int (0 : Int32)), .unset] [(.int (10 : Int32)), (.ref r0)]))
  refine own_newref go X125h hx hZ hh125 (g := (mkF m 52 #[.val (.ref r0), .val (.int (1 : Int32)), .val (.int (0 : Int32)), .unset] [(.int (10 : Int32)), (.ref r0)])) rfl hown (hw _ (List.mem_of_getElem? (i := 55) rfl)) (hw _ (List.mem_of_getElem? (i := 56) rfl)) 10 rfl (hb hby d8_52) rfl 10 (by decide) (by decide) (by decide) (by decide) ?_
  intro T126 h126 b126 X126 e126 E126 g126 A126
  have ne127 : r0 ≠ b126 := Nat.ne_of_lt (by rw [g126]; exact E0.lt)
  have ne128 : rd ≠ b126 := Nat.ne_of_lt (by rw [g126]; exact Ad.lt)
  have g_b126 : n0 ≤ b126 := Nat.le_trans Z0 (Nat.le_of_eq g126.symm)
  have sz_b126 : h0.size ≤ b126 := Nat.le_of_eq g126.symm
  have Z129 : n0 ≤ h126.size := Nat.le_trans Z0 E126.1
  have K130 : Keep h0 h126 [r0] := (Keep.refl h0 [r0]).ext E126
  show G (T126.setTop (mkF m 55 #[.val (.ref r0), .val (.int (1 : Int32)), .val (.int (0 : Int32)), .unset] [(.ref b126), (.ref r0)]))
  refine go _ _ (fun t' k' => XS.dupX1 X126.here hx rfl (hb hby d8_55) rfl rfl rfl k') ?_
  show G (T126.setTop (mkF m 56 #[.val (.ref r0), .val (.int (1 : Int32)), .val (.int (0 : Int32)), .unset] [(.ref b126), (.ref r0), (.ref b126)]))
  have f131 := (F0.ext E126)
  have f132 := (E0.ext E126)
  obtain ⟨T133, h133, X133, e133, W133, st133⟩ := putF X126 hx hZ hown (host := "") (Or.inl (hw _ (List.mem_of_getElem? (i := 25) rfl))) Via.refl e126 f131 f132 (Or.inl (hw _ (List.mem_of_getElem? (i := 26) rfl))) (hw _ (List.mem_of_getElem? (i := 2) rfl)) (ty := (.array (.object "java/lang/Object"))) (by decide) rfl rfl (g := (mkF m 56 #[.val (.ref r0), .val (.int (1 : Int32)), .val (.int (0 : Int32)), .unset] [(.ref b126), (.ref r0), (.ref b126)])) rfl rfl (hb hby d8_56)
  have F133 := f131.same W133
  have K134 : Keep h0 h133 [r0] := K130.wr W133 (Or.inl (List.mem_of_getElem? (i := 0) rfl))
  obtain ⟨lc133, X133h, N133h⟩ := own_hide X133 (Fr.snoc X133 N125h g_r0)
  have Z135 : n0 ≤ h133.size := Nat.le_trans Z129 (Nat.le_of_eq W133.size.symm)
  refine go _ _ st133 ?_
  show G (T133.setTop (mkF m 59 #[.val (.ref r0), .val (.int (1 : Int32)), .val (.int (0 : Int32)), .unset] [(.ref b126)]))
  refine own_retA rt X133h hx hret rfl rfl (hb hby d8_59) (by decide) (by decide) ?_
  have f136 := ((F1.ext E126).other W133 (Or.inr (slot_ne (Or.inl (hw _ (List.mem_of_getElem? (i := 35) rfl))) (Or.inl (hw _ (List.mem_of_getElem? (i := 26) rfl))) (by decide) (t := .int) (t' := (.array (.object "java/lang/Object"))) (by decide) (by decide))))
  have f137 := ((F2.ext E126).other W133 (Or.inr (slot_ne (Or.inl (hw _ (List.mem_of_getElem? (i := 23) rfl))) (Or.inl (hw _ (List.mem_of_getElem? (i := 26) rfl))) (by decide) (t := .int) (t' := (.array (.object "java/lang/Object"))) (by decide) (by decide))))
  have f138 := (A126.other W133 (Ne.symm ne127))
  rw [e133]
  exact ⟨_, rfl, N133h, K134, F133, f136, f137, f138, g_b126, sz_b126⟩
theorem pn_7 : plainFor (⟨"java/util/ArrayList", "grow", "()[Ljava/lang/Object;"⟩ : MethodName) = true := by first | (exact plainFor_of_name (show plainName "java/util/ArrayList" = true by first | (simp [plainName, overriddenIn]; done) | decide +kernel)) | decide +kernel
theorem ef_rm_g0 (m : MethodId) (x0 : Addr) : entryFrame m #[(.ref x0)] 1 = mkF m 0 #[.val (.ref x0)] [] := by first | (simp [entryFrame, mkF, argsToLocals, Value.category]; done) | rfl
set_option maxRecDepth 65536 in
set_option maxHeartbeats 40000000 in
theorem rm_g0 (l : Launch) (Z : State) (a0 : Array Value) (hw : ∀ d ∈ tables_1, d.before a0 Z = true) (r0 rd : Addr) (f : Nat → Value) (mc : Int32) (h0 : Heap) (n0 : Nat) (Z0 : n0 ≤ h0.size) (g_r0 : n0 ≤ r0) (Sd : Sta Z h0 "java/util/ArrayList" "DEFAULTCAPACITY_EMPTY_ELEMENTDATA" "[Ljava/lang/Object;" (.ref rd)) (E0 : Exa Z h0 r0 "java/util/ArrayList") (F0 : Fld Z h0 r0 "java/util/ArrayList" "elementData" "[Ljava/lang/Object;" (.ref rd)) (F1 : Fld Z h0 r0 "java/util/ArrayList" "size" "I" (.int 0)) (F2 : Fld Z h0 r0 "java/util/AbstractList" "modCount" "I" (.int mc)) (Ad : Ary Z h0 rd (.object "java/lang/Object") 0 f) (nd : rd ≠ r0) :
    Con l Z (⟨"java/util/ArrayList", "grow", "()[Ljava/lang/Object;"⟩ : MethodName) jdk_38_method_7_code 1 (some (.array (.object "java/lang/Object"))) ({ frames := 2, cells := 1, slots := 10, locals := 29 } : Room) #[(.ref r0)] h0 (fun v h L => ∃ el : Addr, v = some (.ref el) ∧ Fr n0 L ∧ Keep h0 h [r0] ∧ Fld Z h r0 "java/util/ArrayList" "elementData" "[Ljava/lang/Object;" (.ref el) ∧ Fld Z h r0 "java/util/ArrayList" "size" "I" (.int 0) ∧ Fld Z h r0 "java/util/AbstractList" "modCount" "I" (.int mc) ∧ Ary Z h el (.object "java/lang/Object") 10 (fun _ => .null) ∧ n0 ≤ el ∧ h0.size ≤ el) := by
  refine own_body pn_7 ?_
  intro p e s m below meth c s₁ hx hby hml hown hnm hret hZ e0 X0 G go rt
  have N0 := Fr.nil n0
  rw [ef_rm_g0 m r0]
  show G (s₁.setTop (mkF m 0 #[.val (.ref r0)] []))
  refine go _ _ (fun t' k' => XS.aloadN X0.here hx rfl (hb hby d7_0) rfl rfl  k') ?_
  show G (s₁.setTop (mkF m 1 #[.val (.ref r0)] [(.ref r0)]))
  refine go _ _ (fun t' k' => XS.aloadN X0.here hx rfl (hb hby d7_1) rfl rfl  k') ?_
  show G (s₁.setTop (mkF m 2 #[.val (.ref r0)] [(.ref r0), (.ref r0)]))
  obtain ⟨T139, X139, e139, st139⟩ := getF X0 hx hZ hown (host := "") (Or.inl (hw _ (List.mem_of_getElem? (i := 34) rfl))) Via.refl e0 F1 (g := (mkF m 2 #[.val (.ref r0)] [(.ref r0), (.ref r0)])) rfl rfl (hb hby d7_2)
  refine go _ _ st139 ?_
  show G (T139.setTop (mkF m 5 #[.val (.ref r0)] [(.int (0 : Int32)), (.ref r0)]))
  refine go _ _ (fun t' k' => XS.iconst X139.here hx rfl (hb hby d7_5) k') ?_
  show G (T139.setTop (mkF m 6 #[.val (.ref r0)] [(.int (1 : Int32)), (.int (0 : Int32)), (.ref r0)]))
  refine go _ _ (fun t' k' => XS.iadd X139.here hx rfl (hb hby d7_6) rfl k') ?_
  show G (T139.setTop (mkF m 7 #[.val (.ref r0)] [(.int ((0 : Int32) + (1 : Int32))), (.ref r0)]))
  show G (T139.setTop (mkF m 7 #[.val (.ref r0)] [(.int (1 : Int32)), (.ref r0)]))
  refine own_private go X139 hx hZ e139 hown (hw _ (List.mem_of_getElem? (i := 46) rfl)) (hw _ (List.mem_of_getElem? (i := 47) rfl)) (hw _ (List.mem_of_getElem? (i := 30) rfl)) rfl (hw _ (List.mem_of_getElem? (i := 48) rfl)) (hw _ (List.mem_of_getElem? (i := 3) rfl)) (hw _ (List.mem_of_getElem? (i := 50) rfl)) (by decide) (rm_g1 l Z a0 hw r0 rd f mc h0 n0 Z0 g_r0 Sd E0 F0 F1 F2 Ad nd) 0 (by decide) (by decide) (by decide) (by decide) E0 (g := (mkF m 7 #[.val (.ref r0)] [(.int (1 : Int32)), (.ref r0)])) rfl (by rw [hml]; rfl) [(.int (1 : Int32))] [] rfl (lenOf pd_2 rfl) rfl (by show 2 * 0 + _ ≤ _; exact Nat.le_of_eq rfl) (hb hby d7_7) ?_
  intro T140 L140 v140 X140 q140
  obtain ⟨el140, rfl, N140, K140, Fa140, Fb140, Fc140, Ae140, g_el140, sz_q140⟩ := q140
  have sz_el140 : h0.size ≤ el140 := Nat.le_trans (Nat.le_refl _) sz_q140
  have ne_el140 : el140 ≠ r0 := Ne.symm (Nat.ne_of_lt (Nat.lt_of_lt_of_le E0.lt sz_q140))
  have ns141 : ∀ w ∈ [r0], ∃ c : Cell, h0[w]? = some c ∧ c.vm.isStatics = false := (allS (own_exa_ns E0) all0)
  obtain ⟨lc140, X140h, N140h⟩ := own_hide X140 (Fr.app N0 N140)
  have K142 : Keep h0 T140.heap [r0] := (Keep.refl h0 [r0]).trans K140 (allS (Or.inl (List.mem_of_getElem? (i := 0) rfl)) all0)
  have Z143 : n0 ≤ T140.heap.size := Nat.le_trans Z0 K140.1
  show G (T140.setTop (mkF m 10 #[.val (.ref r0)] [(.ref el140)]))
  refine own_retA rt X140h hx hret rfl rfl (hb hby d7_10) (by decide) (by decide) ?_
  exact ⟨_, rfl, N140h, K142, Fa140, Fb140, Fc140, Ae140, g_el140, sz_el140⟩
theorem pn_6 : plainFor (⟨"java/util/ArrayList", "add", "(Ljava/lang/Object;[Ljava/lang/Object;I)V"⟩ : MethodName) = true := by first | (exact plainFor_of_name (show plainName "java/util/ArrayList" = true by first | (simp [plainName, overriddenIn]; done) | decide +kernel)) | decide +kernel
theorem ef_rm_f3 (m : MethodId) (x0 : Addr) (x2 : Addr) (x3 : Int32) : entryFrame m #[(.ref x0), .null, (.ref x2), (.int x3)] 4 = mkF m 0 #[.val (.ref x0), .val .null, .val (.ref x2), .val (.int x3)] [] := by first | (simp [entryFrame, mkF, argsToLocals, Value.category]; done) | rfl
set_option maxRecDepth 65536 in
set_option maxHeartbeats 40000000 in
theorem rm_f3 (l : Launch) (Z : State) (a0 : Array Value) (hw : ∀ d ∈ tables_1, d.before a0 Z = true) (r0 rd : Addr) (f : Nat → Value) (mc : Int32) (h0 : Heap) (n0 : Nat) (Z0 : n0 ≤ h0.size) (g_r0 : n0 ≤ r0) (Sd : Sta Z h0 "java/util/ArrayList" "DEFAULTCAPACITY_EMPTY_ELEMENTDATA" "[Ljava/lang/Object;" (.ref rd)) (E0 : Exa Z h0 r0 "java/util/ArrayList") (F0 : Fld Z h0 r0 "java/util/ArrayList" "elementData" "[Ljava/lang/Object;" (.ref rd)) (F1 : Fld Z h0 r0 "java/util/ArrayList" "size" "I" (.int 0)) (F2 : Fld Z h0 r0 "java/util/AbstractList" "modCount" "I" (.int mc)) (Ad : Ary Z h0 rd (.object "java/lang/Object") 0 f) (nd : rd ≠ r0) :
    Con l Z (⟨"java/util/ArrayList", "add", "(Ljava/lang/Object;[Ljava/lang/Object;I)V"⟩ : MethodName) jdk_38_method_24_code 4 none ({ frames := 3, cells := 1, slots := 10, locals := 41 } : Room) #[(.ref r0), .null, (.ref rd), (.int (0 : Int32))] h0 (fun v h L => v = none ∧ Fr n0 L ∧ Keep h0 h [r0] ∧ ∃ el2 : Addr, Fld Z h r0 "java/util/ArrayList" "elementData" "[Ljava/lang/Object;" (.ref el2) ∧ Fld Z h r0 "java/util/ArrayList" "size" "I" (.int 1) ∧ Fld Z h r0 "java/util/AbstractList" "modCount" "I" (.int mc) ∧ (∃ f2, Ary Z h el2 (.object "java/lang/Object") 10 f2) ∧ n0 ≤ el2 ∧ h0.size ≤ el2 ∧ el2 ≠ r0) := by
  refine own_body pn_6 ?_
  intro p e s m below meth c s₁ hx hby hml hown hnm hret hZ e0 X0 G go rt
  have N0 := Fr.nil n0
  rw [ef_rm_f3 m r0 rd (0 : Int32)]
  show G (s₁.setTop (mkF m 0 #[.val (.ref r0), .val .null, .val (.ref rd), .val (.int (0 : Int32))] []))
  refine go _ _ (fun t' k' => XS.iloadN X0.here hx rfl (hb hby d6_0) rfl  k') ?_
  show G (s₁.setTop (mkF m 1 #[.val (.ref r0), .val .null, .val (.ref rd), .val (.int (0 : Int32))] [(.int (0 : Int32))]))
  refine go _ _ (fun t' k' => XS.aloadN X0.here hx rfl (hb hby d6_1) rfl rfl  k') ?_
  show G (s₁.setTop (mkF m 2 #[.val (.ref r0), .val .null, .val (.ref rd), .val (.int (0 : Int32))] [(.ref rd), (.int (0 : Int32))]))
  refine own_arrlen go X0 hx hZ e0 (g := (mkF m 2 #[.val (.ref r0), .val .null, .val (.ref rd), .val (.int (0 : Int32))] [(.ref rd), (.int (0 : Int32))])) rfl Ad rfl (hb hby d6_2) ?_
  show G (s₁.setTop (mkF m 3 #[.val (.ref r0), .val .null, .val (.ref rd), .val (.int (0 : Int32))] [(.int (0 : Int32)), (.int (0 : Int32))]))
  refine go _ _ (fun t' k' => XS.icmpNo X0.here hx rfl (hb hby d6_3) rfl (Free.XT.ii_ne_f (by decide)) k') ?_
  show G (s₁.setTop (mkF m 6 #[.val (.ref r0), .val .null, .val (.ref rd), .val (.int (0 : Int32))] []))
  refine go _ _ (fun t' k' => XS.aloadN X0.here hx rfl (hb hby d6_6) rfl rfl  k') ?_
  show G (s₁.setTop (mkF m 7 #[.val (.ref r0), .val .null, .val (.ref rd), .val (.int (0 : Int32))] [(.ref r0)]))
  refine own_private go X0 hx hZ e0 hown (hw _ (List.mem_of_getElem? (i := 41) rfl)) (hw _ (List.mem_of_getElem? (i := 42) rfl)) (hw _ (List.mem_of_getElem? (i := 30) rfl)) rfl (hw _ (List.mem_of_getElem? (i := 43) rfl)) (hw _ (List.mem_of_getElem? (i := 3) rfl)) (hw _ (List.mem_of_getElem? (i := 45) rfl)) (by decide) (rm_g0 l Z a0 hw r0 rd f mc h0 n0 Z0 g_r0 Sd E0 F0 F1 F2 Ad nd) 0 (by decide) (by decide) (by decide) (by decide) E0 (g := (mkF m 7 #[.val (.ref r0), .val .null, .val (.ref rd), .val (.int (0 : Int32))] [(.ref r0)])) rfl (by rw [hml]; rfl) [] [] rfl (lenOf pd_3 rfl) rfl (by show 2 * 0 + _ ≤ _; exact Nat.le_of_eq rfl) (hb hby d6_7) ?_
  intro T144 L144 v144 X144 q144
  obtain ⟨el144, rfl, N144, K144, Fa144, Fb144, Fc144, Ae144, g_el144, sz_q144⟩ := q144
  have sz_el144 : h0.size ≤ el144 := Nat.le_trans (Nat.le_refl _) sz_q144
  have ne_el144 : el144 ≠ r0 := Ne.symm (Nat.ne_of_lt (Nat.lt_of_lt_of_le E0.lt sz_q144))
  have ns145 : ∀ w ∈ [r0], ∃ c : Cell, h0[w]? = some c ∧ c.vm.isStatics = false := (allS (own_exa_ns E0) all0)
  obtain ⟨lc144, X144h, N144h⟩ := own_hide X144 (Fr.app N0 N144)
  have K146 : Keep h0 T144.heap [r0] := (Keep.refl h0 [r0]).trans K144 (allS (Or.inl (List.mem_of_getElem? (i := 0) rfl)) all0)
  have Z147 : n0 ≤ T144.heap.size := Nat.le_trans Z0 K144.1
  show G (T144.setTop (mkF m 10 #[.val (.ref r0), .val .null, .val (.ref rd), .val (.int (0 : Int32))] [(.ref el144)]))
  refine go _ _ (fun t' k' => XS.astoreN X144h.here hx rfl (hb hby d6_10) rfl rfl (l' := #[.val (.ref r0), .val .null, .val (.ref el144), .val (.int (0 : Int32))]) rfl k') ?_
  show G (T144.setTop (mkF m 11 #[.val (.ref r0), .val .null, .val (.ref el144), .val (.int (0 : Int32))] []))
  refine go _ _ (fun t' k' => XS.aloadN X144h.here hx rfl (hb hby d6_11) rfl rfl  k') ?_
  show G (T144.setTop (mkF m 12 #[.val (.ref r0), .val .null, .val (.ref el144), .val (.int (0 : Int32))] [(.ref el144)]))
  refine go _ _ (fun t' k' => XS.iloadN X144h.here hx rfl (hb hby d6_12) rfl  k') ?_
  show G (T144.setTop (mkF m 13 #[.val (.ref r0), .val .null, .val (.ref el144), .val (.int (0 : Int32))] [(.int (0 : Int32)), (.ref el144)]))
  refine go _ _ (fun t' k' => XS.aloadN X144h.here hx rfl (hb hby d6_13) rfl rfl  k') ?_
  show G (T144.setTop (mkF m 14 #[.val (.ref r0), .val .null, .val (.ref el144), .val (.int (0 : Int32))] [.null, (.int (0 : Int32)), (.ref el144)]))
  refine own_aastoreN go X144h hx hZ rfl 0 rfl (by decide) (g := (mkF m 14 #[.val (.ref r0), .val .null, .val (.ref el144), .val (.int (0 : Int32))] [.null, (.int (0 : Int32)), (.ref el144)])) rfl Ae144 rfl rfl (hb hby d6_14) ?_
  intro T148 h148 X148 e148 W148 A148
  have K149 : Keep h0 h148 [r0] := K146.wr W148 (Or.inr sz_el144)
  obtain ⟨lc148, X148h, N148h⟩ := own_hide X148 (Fr.snoc X148 N144h g_el144)
  have Z150 : n0 ≤ h148.size := Nat.le_trans Z147 (Nat.le_of_eq W148.size.symm)
  show G (T148.setTop (mkF m 15 #[.val (.ref r0), .val .null, .val (.ref el144), .val (.int (0 : Int32))] []))
  refine go _ _ (fun t' k' => XS.aloadN X148h.here hx rfl (hb hby d6_15) rfl rfl  k') ?_
  show G (T148.setTop (mkF m 16 #[.val (.ref r0), .val .null, .val (.ref el144), .val (.int (0 : Int32))] [(.ref r0)]))
  refine go _ _ (fun t' k' => XS.iloadN X148h.here hx rfl (hb hby d6_16) rfl  k') ?_
  show G (T148.setTop (mkF m 17 #[.val (.ref r0), .val .null, .val (.ref el144), .val (.int (0 : Int32))] [(.int (0 : Int32)), (.ref r0)]))
  refine go _ _ (fun t' k' => XS.iconst X148h.here hx rfl (hb hby d6_17) k') ?_
  show G (T148.setTop (mkF m 18 #[.val (.ref r0), .val .null, .val (.ref el144), .val (.int (0 : Int32))] [(.int (1 : Int32)), (.int (0 : Int32)), (.ref r0)]))
  refine go _ _ (fun t' k' => XS.iadd X148h.here hx rfl (hb hby d6_18) rfl k') ?_
  show G (T148.setTop (mkF m 19 #[.val (.ref r0), .val .null, .val (.ref el144), .val (.int (0 : Int32))] [(.int ((0 : Int32) + (1 : Int32))), (.ref r0)]))
  have f151 := (Fb144.other W148 (Or.inl (Ne.symm ne_el144)))
  have f152 := ((E0.keep K144).wr W148)
  obtain ⟨T153, h153, X153, e153, W153, st153⟩ := putF X148h hx hZ hown (host := "") (Or.inl (hw _ (List.mem_of_getElem? (i := 34) rfl))) Via.refl e148 f151 f152 (Or.inl (hw _ (List.mem_of_getElem? (i := 35) rfl))) (hw _ (List.mem_of_getElem? (i := 2) rfl)) (ty := .int) (by decide) rfl rfl (g := (mkF m 19 #[.val (.ref r0), .val .null, .val (.ref el144), .val (.int (0 : Int32))] [(.int ((0 : Int32) + (1 : Int32))), (.ref r0)])) rfl rfl (hb hby d6_19)
  have F153 := f151.same W153
  have K154 : Keep h0 h153 [r0] := K149.wr W153 (Or.inl (List.mem_of_getElem? (i := 0) rfl))
  obtain ⟨lc153, X153h, N153h⟩ := own_hide X153 (Fr.snoc X153 N148h g_r0)
  have Z155 : n0 ≤ h153.size := Nat.le_trans Z150 (Nat.le_of_eq W153.size.symm)
  refine go _ _ st153 ?_
  show G (T153.setTop (mkF m 22 #[.val (.ref r0), .val .null, .val (.ref el144), .val (.int (0 : Int32))] []))
  refine own_retV rt X153h hx hret (hb hby d6_22) (by decide) (by decide) ?_
  have f156 := ((Fa144.other W148 (Or.inl (Ne.symm ne_el144))).other W153 (Or.inr (slot_ne (Or.inl (hw _ (List.mem_of_getElem? (i := 26) rfl))) (Or.inl (hw _ (List.mem_of_getElem? (i := 35) rfl))) (by decide) (t := (.array (.object "java/lang/Object"))) (t' := .int) (by decide) (by decide))))
  have f157 := ((Fc144.other W148 (Or.inl (Ne.symm ne_el144))).other W153 (Or.inr (slot_ne (Or.inl (hw _ (List.mem_of_getElem? (i := 23) rfl))) (Or.inl (hw _ (List.mem_of_getElem? (i := 35) rfl))) (by decide) (t := .int) (t' := .int) (by decide) (by decide))))
  have f158 := (A148.other W153 ne_el144)
  rw [e153]
  exact ⟨rfl, N153h, K154, _, f156, F153, f157, ⟨_, f158⟩, g_el144, sz_el144, ne_el144⟩
theorem ef_rm_m3 (m : MethodId) (x0 : Addr) (x2 : Addr) (x3 : Int32) : entryFrame m #[(.ref x0), .null, (.ref x2), (.int x3)] 4 = mkF m 0 #[.val (.ref x0), .val .null, .val (.ref x2), .val (.int x3)] [] := by first | (simp [entryFrame, mkF, argsToLocals, Value.category]; done) | rfl
set_option maxRecDepth 65536 in
set_option maxHeartbeats 40000000 in
theorem rm_m3 (l : Launch) (Z : State) (a0 : Array Value) (hw : ∀ d ∈ tables_1, d.before a0 Z = true) (r0 el : Addr) (sz sz2 : Int32) (sn : Nat) (f : Nat → Value) (mc : Int32) (h0 : Heap) (n0 : Nat) (Z0 : n0 ≤ h0.size) (g_r0 : n0 ≤ r0) (g_el : n0 ≤ el) (E0 : Exa Z h0 r0 "java/util/ArrayList") (F0 : Fld Z h0 r0 "java/util/ArrayList" "elementData" "[Ljava/lang/Object;" (.ref el)) (F1 : Fld Z h0 r0 "java/util/ArrayList" "size" "I" (.int sz)) (F2 : Fld Z h0 r0 "java/util/AbstractList" "modCount" "I" (.int mc)) (Ae : Ary Z h0 el (.object "java/lang/Object") 10 f) (nd : el ≠ r0) (hsz : sz.toInt = sn) (hs9 : sn < 10) (hs2 : sz + 1 = sz2) :
    Con l Z (⟨"java/util/ArrayList", "add", "(Ljava/lang/Object;[Ljava/lang/Object;I)V"⟩ : MethodName) jdk_38_method_24_code 4 none ({ frames := 0, cells := 0, slots := 0, locals := 0 } : Room) #[(.ref r0), .null, (.ref el), (.int sz)] h0 (fun v h L => v = none ∧ Fr n0 L ∧ Keep h0 h [r0, el] ∧ Fld Z h r0 "java/util/ArrayList" "elementData" "[Ljava/lang/Object;" (.ref el) ∧ Fld Z h r0 "java/util/ArrayList" "size" "I" (.int sz2) ∧ Fld Z h r0 "java/util/AbstractList" "modCount" "I" (.int mc) ∧ ∃ f2, Ary Z h el (.object "java/lang/Object") 10 f2) := by
  refine own_body pn_6 ?_
  intro p e s m below meth c s₁ hx hby hml hown hnm hret hZ e0 X0 G go rt
  have N0 := Fr.nil n0
  rw [ef_rm_m3 m r0 el sz]
  show G (s₁.setTop (mkF m 0 #[.val (.ref r0), .val .null, .val (.ref el), .val (.int sz)] []))
  refine go _ _ (fun t' k' => XS.iloadN X0.here hx rfl (hb hby d6_0) rfl  k') ?_
  show G (s₁.setTop (mkF m 1 #[.val (.ref r0), .val .null, .val (.ref el), .val (.int sz)] [(.int sz)]))
  refine go _ _ (fun t' k' => XS.aloadN X0.here hx rfl (hb hby d6_1) rfl rfl  k') ?_
  show G (s₁.setTop (mkF m 2 #[.val (.ref r0), .val .null, .val (.ref el), .val (.int sz)] [(.ref el), (.int sz)]))
  refine own_arrlen go X0 hx hZ e0 (g := (mkF m 2 #[.val (.ref r0), .val .null, .val (.ref el), .val (.int sz)] [(.ref el), (.int sz)])) rfl Ae rfl (hb hby d6_2) ?_
  show G (s₁.setTop (mkF m 3 #[.val (.ref r0), .val .null, .val (.ref el), .val (.int sz)] [(.int (10 : Int32)), (.int sz)]))
  refine go _ _ (fun t' k' => XS.icmpYes X0.here hx rfl (pc0 := 3) (pc' := 11) rfl (hb hby d6_3) rfl (Free.XT.ii_ne_t (fun z => absurd ((own_lit 10 (kk := 10) rfl hsz).mp z) (by omega))) (by decide) (by decide) k') ?_
  show G (s₁.setTop (mkF m 11 #[.val (.ref r0), .val .null, .val (.ref el), .val (.int sz)] []))
  refine go _ _ (fun t' k' => XS.aloadN X0.here hx rfl (hb hby d6_11) rfl rfl  k') ?_
  show G (s₁.setTop (mkF m 12 #[.val (.ref r0), .val .null, .val (.ref el), .val (.int sz)] [(.ref el)]))
  refine go _ _ (fun t' k' => XS.iloadN X0.here hx rfl (hb hby d6_12) rfl  k') ?_
  show G (s₁.setTop (mkF m 13 #[.val (.ref r0), .val .null, .val (.ref el), .val (.int sz)] [(.int sz), (.ref el)]))
  refine go _ _ (fun t' k' => XS.aloadN X0.here hx rfl (hb hby d6_13) rfl rfl  k') ?_
  show G (s₁.setTop (mkF m 14 #[.val (.ref r0), .val .null, .val (.ref el), .val (.int sz)] [.null, (.int sz), (.ref el)]))
  refine own_aastoreN go X0 hx hZ e0 sn hsz hs9 (g := (mkF m 14 #[.val (.ref r0), .val .null, .val (.ref el), .val (.int sz)] [.null, (.int sz), (.ref el)])) rfl Ae rfl rfl (hb hby d6_14) ?_
  intro T159 h159 X159 e159 W159 A159
  have K160 : Keep h0 h159 [r0, el] := (Keep.refl h0 [r0, el]).wr W159 (Or.inl (List.mem_of_getElem? (i := 1) rfl))
  obtain ⟨lc159, X159h, N159h⟩ := own_hide X159 (Fr.snoc X159 N0 g_el)
  have Z161 : n0 ≤ h159.size := Nat.le_trans Z0 (Nat.le_of_eq W159.size.symm)
  show G (T159.setTop (mkF m 15 #[.val (.ref r0), .val .null, .val (.ref el), .val (.int sz)] []))
  refine go _ _ (fun t' k' => XS.aloadN X159h.here hx rfl (hb hby d6_15) rfl rfl  k') ?_
  show G (T159.setTop (mkF m 16 #[.val (.ref r0), .val .null, .val (.ref el), .val (.int sz)] [(.ref r0)]))
  refine go _ _ (fun t' k' => XS.iloadN X159h.here hx rfl (hb hby d6_16) rfl  k') ?_
  show G (T159.setTop (mkF m 17 #[.val (.ref r0), .val .null, .val (.ref el), .val (.int sz)] [(.int sz), (.ref r0)]))
  refine go _ _ (fun t' k' => XS.iconst X159h.here hx rfl (hb hby d6_17) k') ?_
  show G (T159.setTop (mkF m 18 #[.val (.ref r0), .val .null, .val (.ref el), .val (.int sz)] [(.int (1 : Int32)), (.int sz), (.ref r0)]))
  refine go _ _ (fun t' k' => XS.iadd X159h.here hx rfl (hb hby d6_18) rfl k') ?_
  show G (T159.setTop (mkF m 19 #[.val (.ref r0), .val .null, .val (.ref el), .val (.int sz)] [(.int (sz + (1 : Int32))), (.ref r0)]))
  have f162 := (F1.other W159 (Or.inl (Ne.symm nd)))
  have f163 := (E0.wr W159)
  obtain ⟨T164, h164, X164, e164, W164, st164⟩ := putF X159h hx hZ hown (host := "") (Or.inl (hw _ (List.mem_of_getElem? (i := 34) rfl))) Via.refl e159 f162 f163 (Or.inl (hw _ (List.mem_of_getElem? (i := 35) rfl))) (hw _ (List.mem_of_getElem? (i := 2) rfl)) (ty := .int) (by decide) rfl rfl (g := (mkF m 19 #[.val (.ref r0), .val .null, .val (.ref el), .val (.int sz)] [(.int (sz + (1 : Int32))), (.ref r0)])) rfl rfl (hb hby d6_19)
  have F164 := f162.same W164
  have K165 : Keep h0 h164 [r0, el] := K160.wr W164 (Or.inl (List.mem_of_getElem? (i := 0) rfl))
  obtain ⟨lc164, X164h, N164h⟩ := own_hide X164 (Fr.snoc X164 N159h g_r0)
  have Z166 : n0 ≤ h164.size := Nat.le_trans Z161 (Nat.le_of_eq W164.size.symm)
  refine go _ _ st164 ?_
  show G (T164.setTop (mkF m 22 #[.val (.ref r0), .val .null, .val (.ref el), .val (.int sz)] []))
  refine own_retV rt X164h hx hret (hb hby d6_22) (by decide) (by decide) ?_
  have f167 := ((F0.other W159 (Or.inl (Ne.symm nd))).other W164 (Or.inr (slot_ne (Or.inl (hw _ (List.mem_of_getElem? (i := 26) rfl))) (Or.inl (hw _ (List.mem_of_getElem? (i := 35) rfl))) (by decide) (t := (.array (.object "java/lang/Object"))) (t' := .int) (by decide) (by decide))))
  have f168 := ((F2.other W159 (Or.inl (Ne.symm nd))).other W164 (Or.inr (slot_ne (Or.inl (hw _ (List.mem_of_getElem? (i := 23) rfl))) (Or.inl (hw _ (List.mem_of_getElem? (i := 35) rfl))) (by decide) (t := .int) (t' := .int) (by decide) (by decide))))
  have f169 := (A159.other W164 nd)
  rw [e164]
  exact ⟨rfl, N164h, K165, f167, hs2 ▸ F164, f168, _, f169⟩
theorem pn_5 : plainFor (⟨"java/util/ArrayList", "add", "(Ljava/lang/Object;)Z"⟩ : MethodName) = true := by first | (exact plainFor_of_name (show plainName "java/util/ArrayList" = true by first | (simp [plainName, overriddenIn]; done) | decide +kernel)) | decide +kernel
theorem ef_rm_f1 (m : MethodId) (x0 : Addr) : entryFrame m #[(.ref x0), .null] 2 = mkF m 0 #[.val (.ref x0), .val .null] [] := by first | (simp [entryFrame, mkF, argsToLocals, Value.category]; done) | rfl
set_option maxRecDepth 65536 in
set_option maxHeartbeats 40000000 in
theorem rm_f1 (l : Launch) (Z : State) (a0 : Array Value) (hw : ∀ d ∈ tables_1, d.before a0 Z = true) (r0 rd : Addr) (f : Nat → Value) (mc : Int32) (h0 : Heap) (n0 : Nat) (Z0 : n0 ≤ h0.size) (g_r0 : n0 ≤ r0) (Sd : Sta Z h0 "java/util/ArrayList" "DEFAULTCAPACITY_EMPTY_ELEMENTDATA" "[Ljava/lang/Object;" (.ref rd)) (E0 : Exa Z h0 r0 "java/util/ArrayList") (F0 : Fld Z h0 r0 "java/util/ArrayList" "elementData" "[Ljava/lang/Object;" (.ref rd)) (F1 : Fld Z h0 r0 "java/util/ArrayList" "size" "I" (.int 0)) (F2 : Fld Z h0 r0 "java/util/AbstractList" "modCount" "I" (.int mc)) (Ad : Ary Z h0 rd (.object "java/lang/Object") 0 f) (nd : rd ≠ r0) :
    Con l Z (⟨"java/util/ArrayList", "add", "(Ljava/lang/Object;)Z"⟩ : MethodName) jdk_38_method_25_code 2 (some .boolean) ({ frames := 4, cells := 1, slots := 10, locals := 56 } : Room) #[(.ref r0), .null] h0 (fun v h L => v = some (.int 1) ∧ Fr n0 L ∧ Keep h0 h [r0] ∧ ∃ el2 : Addr, Fld Z h r0 "java/util/ArrayList" "elementData" "[Ljava/lang/Object;" (.ref el2) ∧ Fld Z h r0 "java/util/ArrayList" "size" "I" (.int 1) ∧ Fld Z h r0 "java/util/AbstractList" "modCount" "I" (.int (mc + 1)) ∧ (∃ f2, Ary Z h el2 (.object "java/lang/Object") 10 f2) ∧ n0 ≤ el2 ∧ h0.size ≤ el2 ∧ el2 ≠ r0) := by
  refine own_body pn_5 ?_
  intro p e s m below meth c s₁ hx hby hml hown hnm hret hZ e0 X0 G go rt
  have N0 := Fr.nil n0
  rw [ef_rm_f1 m r0]
  show G (s₁.setTop (mkF m 0 #[.val (.ref r0), .val .null] []))
  refine go _ _ (fun t' k' => XS.aloadN X0.here hx rfl (hb hby d5_0) rfl rfl  k') ?_
  show G (s₁.setTop (mkF m 1 #[.val (.ref r0), .val .null] [(.ref r0)]))
  refine go _ _ (fun t' k' => XS.dup X0.here hx rfl (hb hby d5_1) rfl rfl k') ?_
  show G (s₁.setTop (mkF m 2 #[.val (.ref r0), .val .null] [(.ref r0), (.ref r0)]))
  obtain ⟨T170, X170, e170, st170⟩ := getF X0 hx hZ hown (host := "") (Or.inl (hw _ (List.mem_of_getElem? (i := 32) rfl))) (Via.of (hw _ (List.mem_of_getElem? (i := 33) rfl))) e0 F2 (g := (mkF m 2 #[.val (.ref r0), .val .null] [(.ref r0), (.ref r0)])) rfl rfl (hb hby d5_2)
  refine go _ _ st170 ?_
  show G (T170.setTop (mkF m 5 #[.val (.ref r0), .val .null] [(.int mc), (.ref r0)]))
  refine go _ _ (fun t' k' => XS.iconst X170.here hx rfl (hb hby d5_5) k') ?_
  show G (T170.setTop (mkF m 6 #[.val (.ref r0), .val .null] [(.int (1 : Int32)), (.int mc), (.ref r0)]))
  refine go _ _ (fun t' k' => XS.iadd X170.here hx rfl (hb hby d5_6) rfl k') ?_
  show G (T170.setTop (mkF m 7 #[.val (.ref r0), .val .null] [(.int (mc + (1 : Int32))), (.ref r0)]))
  obtain ⟨T171, h171, X171, e171, W171, st171⟩ := putF X170 hx hZ hown (host := "") (Or.inl (hw _ (List.mem_of_getElem? (i := 32) rfl))) (Via.of (hw _ (List.mem_of_getElem? (i := 33) rfl))) e170 F2 E0 (Or.inl (hw _ (List.mem_of_getElem? (i := 23) rfl))) (hw _ (List.mem_of_getElem? (i := 2) rfl)) (ty := .int) (by decide) rfl rfl (g := (mkF m 7 #[.val (.ref r0), .val .null] [(.int (mc + (1 : Int32))), (.ref r0)])) rfl rfl (hb hby d5_7)
  have F171 := F2.same W171
  have K172 : Keep h0 h171 [r0] := (Keep.refl h0 [r0]).wr W171 (Or.inl (List.mem_of_getElem? (i := 0) rfl))
  obtain ⟨lc171, X171h, N171h⟩ := own_hide X171 (Fr.snoc X171 N0 g_r0)
  have Z173 : n0 ≤ h171.size := Nat.le_trans Z0 (Nat.le_of_eq W171.size.symm)
  refine go _ _ st171 ?_
  show G (T171.setTop (mkF m 10 #[.val (.ref r0), .val .null] []))
  refine go _ _ (fun t' k' => XS.aloadN X171h.here hx rfl (hb hby d5_10) rfl rfl  k') ?_
  show G (T171.setTop (mkF m 11 #[.val (.ref r0), .val .null] [(.ref r0)]))
  refine go _ _ (fun t' k' => XS.aloadN X171h.here hx rfl (hb hby d5_11) rfl rfl  k') ?_
  show G (T171.setTop (mkF m 12 #[.val (.ref r0), .val .null] [.null, (.ref r0)]))
  refine go _ _ (fun t' k' => XS.aloadN X171h.here hx rfl (hb hby d5_12) rfl rfl  k') ?_
  show G (T171.setTop (mkF m 13 #[.val (.ref r0), .val .null] [(.ref r0), .null, (.ref r0)]))
  have f174 := (F0.other W171 (Or.inr (slot_ne (Or.inl (hw _ (List.mem_of_getElem? (i := 26) rfl))) (Or.inl (hw _ (List.mem_of_getElem? (i := 23) rfl))) (by decide) (t := (.array (.object "java/lang/Object"))) (t' := .int) (by decide) (by decide))))
  obtain ⟨T175, X175, e175, st175⟩ := getF X171h hx hZ hown (host := "") (Or.inl (hw _ (List.mem_of_getElem? (i := 25) rfl))) Via.refl e171 f174 (g := (mkF m 13 #[.val (.ref r0), .val .null] [(.ref r0), .null, (.ref r0)])) rfl rfl (hb hby d5_13)
  refine go _ _ st175 ?_
  show G (T175.setTop (mkF m 16 #[.val (.ref r0), .val .null] [(.ref rd), .null, (.ref r0)]))
  refine go _ _ (fun t' k' => XS.aloadN X175.here hx rfl (hb hby d5_16) rfl rfl  k') ?_
  show G (T175.setTop (mkF m 17 #[.val (.ref r0), .val .null] [(.ref r0), (.ref rd), .null, (.ref r0)]))
  have f176 := (F1.other W171 (Or.inr (slot_ne (Or.inl (hw _ (List.mem_of_getElem? (i := 35) rfl))) (Or.inl (hw _ (List.mem_of_getElem? (i := 23) rfl))) (by decide) (t := .int) (t' := .int) (by decide) (by decide))))
  obtain ⟨T177, X177, e177, st177⟩ := getF X175 hx hZ hown (host := "") (Or.inl (hw _ (List.mem_of_getElem? (i := 34) rfl))) Via.refl e175 f176 (g := (mkF m 17 #[.val (.ref r0), .val .null] [(.ref r0), (.ref rd), .null, (.ref r0)])) rfl rfl (hb hby d5_17)
  refine go _ _ st177 ?_
  show G (T177.setTop (mkF m 20 #[.val (.ref r0), .val .null] [(.int (0 : Int32)), (.ref rd), .null, (.ref r0)]))
  have f178 := (Sd.wr W171)
  have f179 := (E0.wr W171)
  have f180 := (Ad.other W171 nd)
  refine own_private go X177 hx hZ e177 hown (hw _ (List.mem_of_getElem? (i := 36) rfl)) (hw _ (List.mem_of_getElem? (i := 37) rfl)) (hw _ (List.mem_of_getElem? (i := 30) rfl)) rfl (hw _ (List.mem_of_getElem? (i := 38) rfl)) (hw _ (List.mem_of_getElem? (i := 3) rfl)) (hw _ (List.mem_of_getElem? (i := 40) rfl)) (by decide) (rm_f3 l Z a0 hw r0 rd f (mc + (1 : Int32)) h171 n0 Z173 g_r0 f178 f179 f174 f176 F171 f180 nd) 0 (by decide) (by decide) (by decide) (by decide) f179 (g := (mkF m 20 #[.val (.ref r0), .val .null] [(.int (0 : Int32)), (.ref rd), .null, (.ref r0)])) rfl (by rw [hml]; rfl) [.null, (.ref rd), (.int (0 : Int32))] [] rfl (lenOf pd_4 rfl) rfl (by show 2 * 0 + _ ≤ _; exact Nat.le_of_eq rfl) (hb hby d5_20) ?_
  intro T181 L181 v181 X181 q181
  obtain ⟨rfl, N181, K181, el181, Fa181, Fb181, Fc181, ⟨f181, Ae181⟩, g_el181, o181, ne181⟩ := q181
  have ns182 : ∀ w ∈ [r0], ∃ c : Cell, h171[w]? = some c ∧ c.vm.isStatics = false := (allS (own_exa_ns f179) all0)
  obtain ⟨lc181, X181h, N181h⟩ := own_hide X181 (Fr.app N171h N181)
  have K183 : Keep h0 T181.heap [r0] := K172.trans K181 (allS (Or.inl (List.mem_of_getElem? (i := 0) rfl)) all0)
  have Z184 : n0 ≤ T181.heap.size := Nat.le_trans Z173 K181.1
  show G (T181.setTop (mkF m 23 #[.val (.ref r0), .val .null] []))
  refine go _ _ (fun t' k' => XS.iconst X181h.here hx rfl (hb hby d5_23) k') ?_
  show G (T181.setTop (mkF m 24 #[.val (.ref r0), .val .null] [(.int (1 : Int32))]))
  refine own_retZ rt X181h hx (t := .boolean) hret (by simp) (hb hby d5_24) (by decide) (by decide) ?_
  exact ⟨rfl, N181h, K183, _, Fa181, Fb181, Fc181, ⟨_, Ae181⟩, g_el181, Nat.le_trans K172.1 o181, ne181⟩
theorem ef_rm_m1 (m : MethodId) (x0 : Addr) : entryFrame m #[(.ref x0), .null] 2 = mkF m 0 #[.val (.ref x0), .val .null] [] := by first | (simp [entryFrame, mkF, argsToLocals, Value.category]; done) | rfl
set_option maxRecDepth 65536 in
set_option maxHeartbeats 40000000 in
theorem rm_m1 (l : Launch) (Z : State) (a0 : Array Value) (hw : ∀ d ∈ tables_1, d.before a0 Z = true) (r0 el : Addr) (sz sz2 : Int32) (sn : Nat) (f : Nat → Value) (mc : Int32) (h0 : Heap) (n0 : Nat) (Z0 : n0 ≤ h0.size) (g_r0 : n0 ≤ r0) (g_el : n0 ≤ el) (E0 : Exa Z h0 r0 "java/util/ArrayList") (F0 : Fld Z h0 r0 "java/util/ArrayList" "elementData" "[Ljava/lang/Object;" (.ref el)) (F1 : Fld Z h0 r0 "java/util/ArrayList" "size" "I" (.int sz)) (F2 : Fld Z h0 r0 "java/util/AbstractList" "modCount" "I" (.int mc)) (Ae : Ary Z h0 el (.object "java/lang/Object") 10 f) (nd : el ≠ r0) (hsz : sz.toInt = sn) (hs9 : sn < 10) (hs2 : sz + 1 = sz2) :
    Con l Z (⟨"java/util/ArrayList", "add", "(Ljava/lang/Object;)Z"⟩ : MethodName) jdk_38_method_25_code 2 (some .boolean) ({ frames := 1, cells := 0, slots := 0, locals := 15 } : Room) #[(.ref r0), .null] h0 (fun v h L => v = some (.int 1) ∧ Fr n0 L ∧ Keep h0 h [r0, el] ∧ Fld Z h r0 "java/util/ArrayList" "elementData" "[Ljava/lang/Object;" (.ref el) ∧ Fld Z h r0 "java/util/ArrayList" "size" "I" (.int sz2) ∧ Fld Z h r0 "java/util/AbstractList" "modCount" "I" (.int (mc + 1)) ∧ ∃ f2, Ary Z h el (.object "java/lang/Object") 10 f2) := by
  refine own_body pn_5 ?_
  intro p e s m below meth c s₁ hx hby hml hown hnm hret hZ e0 X0 G go rt
  have N0 := Fr.nil n0
  rw [ef_rm_m1 m r0]
  show G (s₁.setTop (mkF m 0 #[.val (.ref r0), .val .null] []))
  refine go _ _ (fun t' k' => XS.aloadN X0.here hx rfl (hb hby d5_0) rfl rfl  k') ?_
  show G (s₁.setTop (mkF m 1 #[.val (.ref r0), .val .null] [(.ref r0)]))
  refine go _ _ (fun t' k' => XS.dup X0.here hx rfl (hb hby d5_1) rfl rfl k') ?_
  show G (s₁.setTop (mkF m 2 #[.val (.ref r0), .val .null] [(.ref r0), (.ref r0)]))
  obtain ⟨T185, X185, e185, st185⟩ := getF X0 hx hZ hown (host := "") (Or.inl (hw _ (List.mem_of_getElem? (i := 32) rfl))) (Via.of (hw _ (List.mem_of_getElem? (i := 33) rfl))) e0 F2 (g := (mkF m 2 #[.val (.ref r0), .val .null] [(.ref r0), (.ref r0)])) rfl rfl (hb hby d5_2)
  refine go _ _ st185 ?_
  show G (T185.setTop (mkF m 5 #[.val (.ref r0), .val .null] [(.int mc), (.ref r0)]))
  refine go _ _ (fun t' k' => XS.iconst X185.here hx rfl (hb hby d5_5) k') ?_
  show G (T185.setTop (mkF m 6 #[.val (.ref r0), .val .null] [(.int (1 : Int32)), (.int mc), (.ref r0)]))
  refine go _ _ (fun t' k' => XS.iadd X185.here hx rfl (hb hby d5_6) rfl k') ?_
  show G (T185.setTop (mkF m 7 #[.val (.ref r0), .val .null] [(.int (mc + (1 : Int32))), (.ref r0)]))
  obtain ⟨T186, h186, X186, e186, W186, st186⟩ := putF X185 hx hZ hown (host := "") (Or.inl (hw _ (List.mem_of_getElem? (i := 32) rfl))) (Via.of (hw _ (List.mem_of_getElem? (i := 33) rfl))) e185 F2 E0 (Or.inl (hw _ (List.mem_of_getElem? (i := 23) rfl))) (hw _ (List.mem_of_getElem? (i := 2) rfl)) (ty := .int) (by decide) rfl rfl (g := (mkF m 7 #[.val (.ref r0), .val .null] [(.int (mc + (1 : Int32))), (.ref r0)])) rfl rfl (hb hby d5_7)
  have F186 := F2.same W186
  have K187 : Keep h0 h186 [r0, el] := (Keep.refl h0 [r0, el]).wr W186 (Or.inl (List.mem_of_getElem? (i := 0) rfl))
  obtain ⟨lc186, X186h, N186h⟩ := own_hide X186 (Fr.snoc X186 N0 g_r0)
  have Z188 : n0 ≤ h186.size := Nat.le_trans Z0 (Nat.le_of_eq W186.size.symm)
  refine go _ _ st186 ?_
  show G (T186.setTop (mkF m 10 #[.val (.ref r0), .val .null] []))
  refine go _ _ (fun t' k' => XS.aloadN X186h.here hx rfl (hb hby d5_10) rfl rfl  k') ?_
  show G (T186.setTop (mkF m 11 #[.val (.ref r0), .val .null] [(.ref r0)]))
  refine go _ _ (fun t' k' => XS.aloadN X186h.here hx rfl (hb hby d5_11) rfl rfl  k') ?_
  show G (T186.setTop (mkF m 12 #[.val (.ref r0), .val .null] [.null, (.ref r0)]))
  refine go _ _ (fun t' k' => XS.aloadN X186h.here hx rfl (hb hby d5_12) rfl rfl  k') ?_
  show G (T186.setTop (mkF m 13 #[.val (.ref r0), .val .null] [(.ref r0), .null, (.ref r0)]))
  have f189 := (F0.other W186 (Or.inr (slot_ne (Or.inl (hw _ (List.mem_of_getElem? (i := 26) rfl))) (Or.inl (hw _ (List.mem_of_getElem? (i := 23) rfl))) (by decide) (t := (.array (.object "java/lang/Object"))) (t' := .int) (by decide) (by decide))))
  obtain ⟨T190, X190, e190, st190⟩ := getF X186h hx hZ hown (host := "") (Or.inl (hw _ (List.mem_of_getElem? (i := 25) rfl))) Via.refl e186 f189 (g := (mkF m 13 #[.val (.ref r0), .val .null] [(.ref r0), .null, (.ref r0)])) rfl rfl (hb hby d5_13)
  refine go _ _ st190 ?_
  show G (T190.setTop (mkF m 16 #[.val (.ref r0), .val .null] [(.ref el), .null, (.ref r0)]))
  refine go _ _ (fun t' k' => XS.aloadN X190.here hx rfl (hb hby d5_16) rfl rfl  k') ?_
  show G (T190.setTop (mkF m 17 #[.val (.ref r0), .val .null] [(.ref r0), (.ref el), .null, (.ref r0)]))
  have f191 := (F1.other W186 (Or.inr (slot_ne (Or.inl (hw _ (List.mem_of_getElem? (i := 35) rfl))) (Or.inl (hw _ (List.mem_of_getElem? (i := 23) rfl))) (by decide) (t := .int) (t' := .int) (by decide) (by decide))))
  obtain ⟨T192, X192, e192, st192⟩ := getF X190 hx hZ hown (host := "") (Or.inl (hw _ (List.mem_of_getElem? (i := 34) rfl))) Via.refl e190 f191 (g := (mkF m 17 #[.val (.ref r0), .val .null] [(.ref r0), (.ref el), .null, (.ref r0)])) rfl rfl (hb hby d5_17)
  refine go _ _ st192 ?_
  show G (T192.setTop (mkF m 20 #[.val (.ref r0), .val .null] [(.int sz), (.ref el), .null, (.ref r0)]))
  have f193 := (E0.wr W186)
  have f194 := (Ae.other W186 nd)
  refine own_private go X192 hx hZ e192 hown (hw _ (List.mem_of_getElem? (i := 36) rfl)) (hw _ (List.mem_of_getElem? (i := 37) rfl)) (hw _ (List.mem_of_getElem? (i := 30) rfl)) rfl (hw _ (List.mem_of_getElem? (i := 38) rfl)) (hw _ (List.mem_of_getElem? (i := 3) rfl)) (hw _ (List.mem_of_getElem? (i := 40) rfl)) (by decide) (rm_m3 l Z a0 hw r0 el sz sz2 sn f (mc + (1 : Int32)) h186 n0 Z188 g_r0 g_el f193 f189 f191 F186 f194 nd hsz hs9 hs2) 0 (by decide) (by decide) (by decide) (by decide) f193 (g := (mkF m 20 #[.val (.ref r0), .val .null] [(.int sz), (.ref el), .null, (.ref r0)])) rfl (by rw [hml]; rfl) [.null, (.ref el), (.int sz)] [] rfl (lenOf pd_4 rfl) rfl (by show 2 * 0 + _ ≤ _; exact Nat.le_of_eq rfl) (hb hby d5_20) ?_
  intro T195 L195 v195 X195 q195
  obtain ⟨rfl, N195, K195, Fa195, Fb195, Fc195, f195, Ae195⟩ := q195
  obtain ⟨lc195, X195h, N195h⟩ := own_hide X195 (Fr.app N186h N195)
  have K196 : Keep h0 T195.heap [r0, el] := K187.trans K195 (allS (Or.inl (List.mem_of_getElem? (i := 0) rfl)) (allS (Or.inl (List.mem_of_getElem? (i := 1) rfl)) all0))
  have Z197 : n0 ≤ T195.heap.size := Nat.le_trans Z188 K195.1
  show G (T195.setTop (mkF m 23 #[.val (.ref r0), .val .null] []))
  refine go _ _ (fun t' k' => XS.iconst X195h.here hx rfl (hb hby d5_23) k') ?_
  show G (T195.setTop (mkF m 24 #[.val (.ref r0), .val .null] [(.int (1 : Int32))]))
  refine own_retZ rt X195h hx (t := .boolean) hret (by simp) (hb hby d5_24) (by decide) (by decide) ?_
  exact ⟨rfl, N195h, K196, Fa195, Fb195, Fc195, _, Ae195⟩
theorem pn_11 : plainFor (⟨"java/util/ArrayList", "size", "()I"⟩ : MethodName) = true := by first | (exact plainFor_of_name (show plainName "java/util/ArrayList" = true by first | (simp [plainName, overriddenIn]; done) | decide +kernel)) | decide +kernel
theorem ef_rm_sz (m : MethodId) (x0 : Addr) : entryFrame m #[(.ref x0)] 1 = mkF m 0 #[.val (.ref x0)] [] := by first | (simp [entryFrame, mkF, argsToLocals, Value.category]; done) | rfl
set_option maxRecDepth 65536 in
set_option maxHeartbeats 40000000 in
theorem rm_sz (l : Launch) (Z : State) (a0 : Array Value) (hw : ∀ d ∈ tables_1, d.before a0 Z = true) (r0 : Addr) (u : Int32) (h0 : Heap) (n0 : Nat) (Z0 : n0 ≤ h0.size) (F : Fld Z h0 r0 "java/util/ArrayList" "size" "I" (.int u)) :
    Con l Z (⟨"java/util/ArrayList", "size", "()I"⟩ : MethodName) jdk_38_method_8_code 1 (some .int) ({ frames := 0, cells := 0, slots := 0, locals := 0 } : Room) #[(.ref r0)] h0 (fun v h L => v = some (.int u) ∧ Fr n0 L ∧ h = h0) := by
  refine own_body pn_11 ?_
  intro p e s m below meth c s₁ hx hby hml hown hnm hret hZ e0 X0 G go rt
  have N0 := Fr.nil n0
  rw [ef_rm_sz m r0]
  show G (s₁.setTop (mkF m 0 #[.val (.ref r0)] []))
  refine go _ _ (fun t' k' => XS.aloadN X0.here hx rfl (hb hby d11_0) rfl rfl  k') ?_
  show G (s₁.setTop (mkF m 1 #[.val (.ref r0)] [(.ref r0)]))
  obtain ⟨T198, X198, e198, st198⟩ := getF X0 hx hZ hown (host := "") (Or.inl (hw _ (List.mem_of_getElem? (i := 34) rfl))) Via.refl e0 F (g := (mkF m 1 #[.val (.ref r0)] [(.ref r0)])) rfl rfl (hb hby d11_1)
  refine go _ _ st198 ?_
  show G (T198.setTop (mkF m 4 #[.val (.ref r0)] [(.int u)]))
  refine own_retI rt X198 hx hret (hb hby d11_4) (by decide) (by decide) ?_
  exact ⟨rfl, N0, e198⟩
theorem pn_10 : plainFor (⟨"com/example/clearbrace/clearbrace/gser/ComponentOrder", "<init>", "(Ljava/util/List;Z)V"⟩ : MethodName) = true := by first | (exact plainFor_of_name (show plainName "com/example/clearbrace/clearbrace/gser/ComponentOrder" = true by first | (simp [plainName, overriddenIn]; done) | decide +kernel)) | decide +kernel
theorem ef_rm_ci (m : MethodId) (x0 : Addr) (x1 : Addr) (x2 : Int32) : entryFrame m #[(.ref x0), (.ref x1), (.int x2)] 3 = mkF m 0 #[.val (.ref x0), .val (.ref x1), .val (.int x2)] [] := by first | (simp [entryFrame, mkF, argsToLocals, Value.category]; done) | rfl
set_option maxRecDepth 65536 in
set_option maxHeartbeats 40000000 in
theorem rm_ci (l : Launch) (Z : State) (a0 : Array Value) (hw : ∀ d ∈ tables_1, d.before a0 Z = true) (r0 r1 : Addr) (ov nn : Int32) (N : Nat) (h0 : Heap) (n0 : Nat) (Z0 : n0 ≤ h0.size) (g_r0 : n0 ≤ r0) (hov : ov = 0 ∨ ov = 1) (hN : nn.toInt = N) (h4 : N ≤ 4) (El : Exa Z h0 r1 "java/util/ArrayList") (Fs : Fld Z h0 r1 "java/util/ArrayList" "size" "I" (.int nn)) (n10 : r1 ≠ r0) (E0 : Exa Z h0 r0 "com/example/clearbrace/clearbrace/gser/ComponentOrder") (F0 : Fld Z h0 r0 "com/example/clearbrace/clearbrace/gser/ComponentOrder" "_components" "Ljava/util/List;" (.null)) (F1 : Fld Z h0 r0 "com/example/clearbrace/clearbrace/gser/ComponentOrder" "_ordered" "Z" ((.int (0 : Int32)))) (F2 : Fld Z h0 r0 "com/example/clearbrace/clearbrace/gser/ComponentOrder" "_given" "[Z" (.null)) (F3 : Fld Z h0 r0 "com/example/clearbrace/clearbrace/gser/ComponentOrder" "_count" "I" ((.int (0 : Int32)))) (F4 : Fld Z h0 r0 "com/example/clearbrace/clearbrace/gser/ComponentOrder" "_next" "I" ((.int (0 : Int32)))) :
    Con l Z (⟨"com/example/clearbrace/clearbrace/gser/ComponentOrder", "<init>", "(Ljava/util/List;Z)V"⟩ : MethodName) prog_21_method_1_code 3 none ({ frames := 1, cells := 1, slots := 4, locals := 13 } : Room) #[(.ref r0), (.ref r1), (.int ov)] h0 (fun v h L => v = none ∧ Fr n0 L ∧ Keep h0 h [r0] ∧ ∃ gv : Addr, Fld Z h r0 "com/example/clearbrace/clearbrace/gser/ComponentOrder" "_components" "Ljava/util/List;" (.ref r1) ∧ Fld Z h r0 "com/example/clearbrace/clearbrace/gser/ComponentOrder" "_ordered" "Z" (.int ov) ∧ Fld Z h r0 "com/example/clearbrace/clearbrace/gser/ComponentOrder" "_given" "[Z" (.ref gv) ∧ Fld Z h r0 "com/example/clearbrace/clearbrace/gser/ComponentOrder" "_count" "I" (.int 0) ∧ Fld Z h r0 "com/example/clearbrace/clearbrace/gser/ComponentOrder" "_next" "I" (.int 0) ∧ Ary Z h gv .boolean N (fun q => .int (b2i ((fun _ => false) q))) ∧ n0 ≤ gv ∧ h0.size ≤ gv ∧ gv ≠ r0) := by
  refine own_body pn_10 ?_
  intro p e s m below meth c s₁ hx hby hml hown hnm hret hZ e0 X0 G go rt
  have N0 := Fr.nil n0
  rw [ef_rm_ci m r0 r1 ov]
  show G (s₁.setTop (mkF m 0 #[.val (.ref r0), .val (.ref r1), .val (.int ov)] []))
  refine go _ _ (fun t' k' => XS.aloadN X0.here hx rfl (hb hby d10_0) rfl rfl  k') ?_
  show G (s₁.setTop (mkF m 1 #[.val (.ref r0), .val (.ref r1), .val (.int ov)] [(.ref r0)]))
  obtain ⟨T199, X199, e199, st199⟩ := initO X0 hx hZ hown (hw _ (List.mem_of_getElem? (i := 63) rfl)) (hw _ (List.mem_of_getElem? (i := 20) rfl)) (hw _ (List.mem_of_getElem? (i := 21) rfl)) e0 (g := (mkF m 1 #[.val (.ref r0), .val (.ref r1), .val (.int ov)] [(.ref r0)])) rfl (by rw [hml]; rfl) rfl (hb hby d10_1) (by decide) (W := 0) (by show 2 * 0 + _ ≤ _; exact Nat.le_of_eq rfl) (by decide)
  refine go _ _ st199 ?_
  show G (T199.setTop (mkF m 4 #[.val (.ref r0), .val (.ref r1), .val (.int ov)] []))
  refine go _ _ (fun t' k' => XS.aloadN X199.here hx rfl (hb hby d10_4) rfl rfl  k') ?_
  show G (T199.setTop (mkF m 5 #[.val (.ref r0), .val (.ref r1), .val (.int ov)] [(.ref r0)]))
  refine go _ _ (fun t' k' => XS.aloadN X199.here hx rfl (hb hby d10_5) rfl rfl  k') ?_
  show G (T199.setTop (mkF m 6 #[.val (.ref r0), .val (.ref r1), .val (.int ov)] [(.ref r1), (.ref r0)]))
  obtain ⟨T200, h200, X200, e200, W200, st200⟩ := putF X199 hx hZ hown (host := "") (Or.inl (hw _ (List.mem_of_getElem? (i := 64) rfl))) Via.refl e199 F0 E0 (Or.inr ⟨(hw _ (List.mem_of_getElem? (i := 65) rfl)), rfl, hnm⟩) (hw _ (List.mem_of_getElem? (i := 58) rfl)) (ty := (.object "java/util/List")) (by decide) rfl rfl (g := (mkF m 6 #[.val (.ref r0), .val (.ref r1), .val (.int ov)] [(.ref r1), (.ref r0)])) rfl rfl (hb hby d10_6)
  have F200 := F0.same W200
  have K201 : Keep h0 h200 [r0] := (Keep.refl h0 [r0]).wr W200 (Or.inl (List.mem_of_getElem? (i := 0) rfl))
  obtain ⟨lc200, X200h, N200h⟩ := own_hide X200 (Fr.snoc X200 N0 g_r0)
  have Z202 : n0 ≤ h200.size := Nat.le_trans Z0 (Nat.le_of_eq W200.size.symm)
  refine go _ _ st200 ?_
  show G (T200.setTop (mkF m 9 #[.val (.ref r0), .val (.ref r1), .val (.int ov)] []))
  refine go _ _ (fun t' k' => XS.aloadN X200h.here hx rfl (hb hby d10_9) rfl rfl  k') ?_
  show G (T200.setTop (mkF m 10 #[.val (.ref r0), .val (.ref r1), .val (.int ov)] [(.ref r0)]))
  refine go _ _ (fun t' k' => XS.iloadN X200h.here hx rfl (hb hby d10_10) rfl  k') ?_
  show G (T200.setTop (mkF m 11 #[.val (.ref r0), .val (.ref r1), .val (.int ov)] [(.int ov), (.ref r0)]))
  have f203 := (F1.other W200 (Or.inr (slot_ne (Or.inr (hw _ (List.mem_of_getElem? (i := 67) rfl))) (Or.inr (hw _ (List.mem_of_getElem? (i := 65) rfl))) (by decide) (t := .boolean) (t' := (.object "java/util/List")) (by decide) (by decide))))
  have f204 := (E0.wr W200)
  obtain ⟨T205, h205, X205, e205, W205, st205⟩ := putFN X200h hx hZ hown (hw _ (List.mem_of_getElem? (i := 66) rfl)) Via.refl e200 f203 f204 (Or.inr ⟨(hw _ (List.mem_of_getElem? (i := 67) rfl)), rfl, hnm⟩) (hw _ (List.mem_of_getElem? (i := 58) rfl)) (ty := .boolean) (v' := (.int ov)) (by decide) (own_ovn hov) (own_ovf hov) (g := (mkF m 11 #[.val (.ref r0), .val (.ref r1), .val (.int ov)] [(.int ov), (.ref r0)])) rfl rfl (hb hby d10_11)
  have F205 := f203.same W205
  have K206 : Keep h0 h205 [r0] := K201.wr W205 (Or.inl (List.mem_of_getElem? (i := 0) rfl))
  obtain ⟨lc205, X205h, N205h⟩ := own_hide X205 (Fr.snoc X205 N200h g_r0)
  have Z207 : n0 ≤ h205.size := Nat.le_trans Z202 (Nat.le_of_eq W205.size.symm)
  refine go _ _ st205 ?_
  show G (T205.setTop (mkF m 14 #[.val (.ref r0), .val (.ref r1), .val (.int ov)] []))
  refine go _ _ (fun t' k' => XS.aloadN X205h.here hx rfl (hb hby d10_14) rfl rfl  k') ?_
  show G (T205.setTop (mkF m 15 #[.val (.ref r0), .val (.ref r1), .val (.int ov)] [(.ref r0)]))
  refine go _ _ (fun t' k' => XS.aloadN X205h.here hx rfl (hb hby d10_15) rfl rfl  k') ?_
  show G (T205.setTop (mkF m 16 #[.val (.ref r0), .val (.ref r1), .val (.int ov)] [(.ref r1), (.ref r0)]))
  have f208 := ((Fs.other W200 (Or.inl n10)).other W205 (Or.inl n10))
  have f210 := ((El.wr W200).wr W205)
  refine own_interface go X205h hx hZ e205 hown (hw _ (List.mem_of_getElem? (i := 68) rfl)) (hw _ (List.mem_of_getElem? (i := 69) rfl)) (mvT hZ (hw _ (List.mem_of_getElem? (i := 70) rfl))) (hw _ (List.mem_of_getElem? (i := 71) rfl)) (hw _ (List.mem_of_getElem? (i := 72) rfl)) (hw _ (List.mem_of_getElem? (i := 73) rfl)) (hw _ (List.mem_of_getElem? (i := 74) rfl)) (hw _ (List.mem_of_getElem? (i := 75) rfl)) (hw _ (List.mem_of_getElem? (i := 3) rfl)) (hw _ (List.mem_of_getElem? (i := 76) rfl)) (by decide) (rm_sz l Z a0 hw r1 nn h205 n0 Z207 f208) 1 (by decide) (by decide) (by decide) (by decide) f210 (g := (mkF m 16 #[.val (.ref r0), .val (.ref r1), .val (.int ov)] [(.ref r1), (.ref r0)])) rfl (by rw [hml]; rfl) [] [(.ref r0)] rfl (lenOf pd_5 rfl) rfl (by show 2 * 0 + _ ≤ _; exact Nat.le_of_eq rfl) (hb hby d10_16) ?_
  intro T209 L209 v209 X209 q209
  obtain ⟨rfl, N209, hh209⟩ := q209
  obtain ⟨lc209, X209h, N209h⟩ := own_hide X209 (Fr.app N205h N209)
  show G (T209.setTop (mkF m 21 #[.val (.ref r0), .val (.ref r1), .val (.int ov)] [(.int nn), (.ref r0)]))
  refine own_newarr go X209h hx hZ hh209 (g := (mkF m 21 #[.val (.ref r0), .val (.ref r1), .val (.int ov)] [(.int nn), (.ref r0)])) rfl (hw _ (List.mem_of_getElem? (i := 77) rfl)) N hN (hb hby d10_21) rfl 4 h4 (by decide) (by decide) (by decide) ?_
  intro T211 h211 b211 X211 e211 E211 g211 A211
  have f213 := (f204.wr W205)
  have ne212 : r0 ≠ b211 := Nat.ne_of_lt (by rw [g211]; exact f213.lt)
  have ne214 : r1 ≠ b211 := Nat.ne_of_lt (by rw [g211]; exact f210.lt)
  have g_b211 : n0 ≤ b211 := Nat.le_trans Z207 (Nat.le_of_eq g211.symm)
  have sz_b211 : h0.size ≤ b211 := Nat.le_trans K206.1 (Nat.le_of_eq g211.symm)
  have Z215 : n0 ≤ h211.size := Nat.le_trans Z207 E211.1
  have K216 : Keep h0 h211 [r0] := K206.ext E211
  show G (T211.setTop (mkF m 23 #[.val (.ref r0), .val (.ref r1), .val (.int ov)] [(.ref b211), (.ref r0)]))
  have f217 := (((F2.other W200 (Or.inr (slot_ne (Or.inr (hw _ (List.mem_of_getElem? (i := 79) rfl))) (Or.inr (hw _ (List.mem_of_getElem? (i := 65) rfl))) (by decide) (t := (.array .boolean)) (t' := (.object "java/util/List")) (by decide) (by decide)))).other W205 (Or.inr (slot_ne (Or.inr (hw _ (List.mem_of_getElem? (i := 79) rfl))) (Or.inr (hw _ (List.mem_of_getElem? (i := 67) rfl))) (by decide) (t := (.array .boolean)) (t' := .boolean) (by decide) (by decide)))).ext E211)
  have f218 := (f213.ext E211)
  obtain ⟨T219, h219, X219, e219, W219, st219⟩ := putF X211 hx hZ hown (host := "") (Or.inl (hw _ (List.mem_of_getElem? (i := 78) rfl))) Via.refl e211 f217 f218 (Or.inr ⟨(hw _ (List.mem_of_getElem? (i := 79) rfl)), rfl, hnm⟩) (hw _ (List.mem_of_getElem? (i := 58) rfl)) (ty := (.array .boolean)) (by decide) rfl rfl (g := (mkF m 23 #[.val (.ref r0), .val (.ref r1), .val (.int ov)] [(.ref b211), (.ref r0)])) rfl rfl (hb hby d10_23)
  have F219 := f217.same W219
  have K220 : Keep h0 h219 [r0] := K216.wr W219 (Or.inl (List.mem_of_getElem? (i := 0) rfl))
  obtain ⟨lc219, X219h, N219h⟩ := own_hide X219 (Fr.snoc X219 N209h g_r0)
  have Z221 : n0 ≤ h219.size := Nat.le_trans Z215 (Nat.le_of_eq W219.size.symm)
  refine go _ _ st219 ?_
  show G (T219.setTop (mkF m 26 #[.val (.ref r0), .val (.ref r1), .val (.int ov)] []))
  refine own_retV rt X219h hx hret (hb hby d10_26) (by decide) (by decide) ?_
  have f222 := (((F200.other W205 (Or.inr (slot_ne (Or.inr (hw _ (List.mem_of_getElem? (i := 65) rfl))) (Or.inr (hw _ (List.mem_of_getElem? (i := 67) rfl))) (by decide) (t := (.object "java/util/List")) (t' := .boolean) (by decide) (by decide)))).ext E211).other W219 (Or.inr (slot_ne (Or.inr (hw _ (List.mem_of_getElem? (i := 65) rfl))) (Or.inr (hw _ (List.mem_of_getElem? (i := 79) rfl))) (by decide) (t := (.object "java/util/List")) (t' := (.array .boolean)) (by decide) (by decide))))
  have f223 := ((F205.ext E211).other W219 (Or.inr (slot_ne (Or.inr (hw _ (List.mem_of_getElem? (i := 67) rfl))) (Or.inr (hw _ (List.mem_of_getElem? (i := 79) rfl))) (by decide) (t := .boolean) (t' := (.array .boolean)) (by decide) (by decide))))
  have f224 := ((((F3.other W200 (Or.inr (slot_ne (Or.inl (hw _ (List.mem_of_getElem? (i := 91) rfl))) (Or.inr (hw _ (List.mem_of_getElem? (i := 65) rfl))) (by decide) (t := .int) (t' := (.object "java/util/List")) (by decide) (by decide)))).other W205 (Or.inr (slot_ne (Or.inl (hw _ (List.mem_of_getElem? (i := 91) rfl))) (Or.inr (hw _ (List.mem_of_getElem? (i := 67) rfl))) (by decide) (t := .int) (t' := .boolean) (by decide) (by decide)))).ext E211).other W219 (Or.inr (slot_ne (Or.inl (hw _ (List.mem_of_getElem? (i := 91) rfl))) (Or.inr (hw _ (List.mem_of_getElem? (i := 79) rfl))) (by decide) (t := .int) (t' := (.array .boolean)) (by decide) (by decide))))
  have f225 := ((((F4.other W200 (Or.inr (slot_ne (Or.inl (hw _ (List.mem_of_getElem? (i := 93) rfl))) (Or.inr (hw _ (List.mem_of_getElem? (i := 65) rfl))) (by decide) (t := .int) (t' := (.object "java/util/List")) (by decide) (by decide)))).other W205 (Or.inr (slot_ne (Or.inl (hw _ (List.mem_of_getElem? (i := 93) rfl))) (Or.inr (hw _ (List.mem_of_getElem? (i := 67) rfl))) (by decide) (t := .int) (t' := .boolean) (by decide) (by decide)))).ext E211).other W219 (Or.inr (slot_ne (Or.inl (hw _ (List.mem_of_getElem? (i := 93) rfl))) (Or.inr (hw _ (List.mem_of_getElem? (i := 79) rfl))) (by decide) (t := .int) (t' := (.array .boolean)) (by decide) (by decide))))
  have f226 := (A211.other W219 (Ne.symm ne212))
  rw [e219]
  exact ⟨rfl, N219h, K220, _, f222, f223, F219, f224, f225, f226.cong own_gz, g_b211, sz_b211, (Ne.symm ne212)⟩
theorem pn_12 : plainFor (⟨"com/example/clearbrace/clearbrace/gser/ComponentOrder", "isGiven", "(I)Z"⟩ : MethodName) = true := by first | (exact plainFor_of_name (show plainName "com/example/clearbrace/clearbrace/gser/ComponentOrder" = true by first | (simp [plainName, overriddenIn]; done) | decide +kernel)) | decide +kernel
theorem ef_rm_ig (m : MethodId) (x0 : Addr) (x1 : Int32) : entryFrame m #[(.ref x0), (.int x1)] 2 = mkF m 0 #[.val (.ref x0), .val (.int x1)] [] := by first | (simp [entryFrame, mkF, argsToLocals, Value.category]; done) | rfl
set_option maxRecDepth 65536 in
set_option maxHeartbeats 40000000 in
theorem rm_ig (l : Launch) (Z : State) (a0 : Array Value) (hw : ∀ d ∈ tables_1, d.before a0 Z = true) (r0 : Addr) (u1 : Int32) (gv : Addr) (gb : Nat → Bool) (N kn : Nat) (h0 : Heap) (n0 : Nat) (Z0 : n0 ≤ h0.size) (Fg : Fld Z h0 r0 "com/example/clearbrace/clearbrace/gser/ComponentOrder" "_given" "[Z" (.ref gv)) (A : Ary Z h0 gv .boolean N (fun q => .int (b2i (gb q)))) (hk : u1.toInt = kn) (hkN : kn < N) :
    Con l Z (⟨"com/example/clearbrace/clearbrace/gser/ComponentOrder", "isGiven", "(I)Z"⟩ : MethodName) prog_21_method_3_code 2 (some .boolean) ({ frames := 0, cells := 0, slots := 0, locals := 0 } : Room) #[(.ref r0), (.int u1)] h0 (fun v h L => v = some (.int (b2i (gb kn))) ∧ Fr n0 L ∧ h = h0) := by
  refine own_body pn_12 ?_
  intro p e s m below meth c s₁ hx hby hml hown hnm hret hZ e0 X0 G go rt
  have N0 := Fr.nil n0
  rw [ef_rm_ig m r0 u1]
  show G (s₁.setTop (mkF m 0 #[.val (.ref r0), .val (.int u1)] []))
  refine go _ _ (fun t' k' => XS.aloadN X0.here hx rfl (hb hby d12_0) rfl rfl  k') ?_
  show G (s₁.setTop (mkF m 1 #[.val (.ref r0), .val (.int u1)] [(.ref r0)]))
  obtain ⟨T227, X227, e227, st227⟩ := getF X0 hx hZ hown (host := "") (Or.inl (hw _ (List.mem_of_getElem? (i := 78) rfl))) Via.refl e0 Fg (g := (mkF m 1 #[.val (.ref r0), .val (.int u1)] [(.ref r0)])) rfl rfl (hb hby d12_1)
  refine go _ _ st227 ?_
  show G (T227.setTop (mkF m 4 #[.val (.ref r0), .val (.int u1)] [(.ref gv)]))
  refine go _ _ (fun t' k' => XS.iloadN X227.here hx rfl (hb hby d12_4) rfl  k') ?_
  show G (T227.setTop (mkF m 5 #[.val (.ref r0), .val (.int u1)] [(.int u1), (.ref gv)]))
  refine own_zaload go X227 hx hZ e227 kn hk hkN (g := (mkF m 5 #[.val (.ref r0), .val (.int u1)] [(.int u1), (.ref gv)])) rfl A rfl (hb hby d12_5) ?_
  show G (T227.setTop (mkF m 6 #[.val (.ref r0), .val (.int u1)] [(.int (b2i (gb kn)))]))
  refine own_retZ rt X227 hx (t := .boolean) hret (by simp) (hb hby d12_6) (by decide) (by decide) ?_
  exact ⟨by rw [nar_b2i], N0, e227⟩
theorem pn_13 : plainFor (⟨"com/example/clearbrace/clearbrace/gser/ComponentOrder", "give", "(I)V"⟩ : MethodName) = true := by first | (exact plainFor_of_name (show plainName "com/example/clearbrace/clearbrace/gser/ComponentOrder" = true by first | (simp [plainName, overriddenIn]; done) | decide +kernel)) | decide +kernel
theorem ef_rm_gi (m : MethodId) (x0 : Addr) (x1 : Int32) : entryFrame m #[(.ref x0), (.int x1)] 2 = mkF m 0 #[.val (.ref x0), .val (.int x1)] [] := by first | (simp [entryFrame, mkF, argsToLocals, Value.category]; done) | rfl
set_option maxRecDepth 65536 in
set_option maxHeartbeats 40000000 in
theorem rm_gi (l : Launch) (Z : State) (a0 : Array Value) (hw : ∀ d ∈ tables_1, d.before a0 Z = true) (r0 : Addr) (u1 : Int32) (gv : Addr) (gb : Nat → Bool) (N kn : Nat) (r1 : Addr) (ov cn nx : Int32) (h0 : Heap) (n0 : Nat) (Z0 : n0 ≤ h0.size) (g_r0 : n0 ≤ r0) (g_gv : n0 ≤ gv) (ng : gv ≠ r0) (E0 : Exa Z h0 r0 "com/example/clearbrace/clearbrace/gser/ComponentOrder") (F0 : Fld Z h0 r0 "com/example/clearbrace/clearbrace/gser/ComponentOrder" "_components" "Ljava/util/List;" (.ref r1)) (F1 : Fld Z h0 r0 "com/example/clearbrace/clearbrace/gser/ComponentOrder" "_ordered" "Z" (.int ov)) (F2 : Fld Z h0 r0 "com/example/clearbrace/clearbrace/gser/ComponentOrder" "_given" "[Z" (.ref gv)) (F3 : Fld Z h0 r0 "com/example/clearbrace/clearbrace/gser/ComponentOrder" "_count" "I" (.int cn)) (F4 : Fld Z h0 r0 "com/example/clearbrace/clearbrace/gser/ComponentOrder" "_next" "I" (.int nx)) (A : Ary Z h0 gv .boolean N (fun q => .int (b2i (gb q)))) (hk : u1.toInt = kn) (hkN : kn < N) :
    Con l Z (⟨"com/example/clearbrace/clearbrace/gser/ComponentOrder", "give", "(I)V"⟩ : MethodName) prog_21_method_4_code 2 none ({ frames := 0, cells := 0, slots := 0, locals := 0 } : Room) #[(.ref r0), (.int u1)] h0 (fun v h L => v = none ∧ Fr n0 L ∧ Keep h0 h [r0, gv] ∧ Fld Z h r0 "com/example/clearbrace/clearbrace/gser/ComponentOrder" "_components" "Ljava/util/List;" (.ref r1) ∧ Fld Z h r0 "com/example/clearbrace/clearbrace/gser/ComponentOrder" "_ordered" "Z" (.int ov) ∧ Fld Z h r0 "com/example/clearbrace/clearbrace/gser/ComponentOrder" "_given" "[Z" (.ref gv) ∧ Fld Z h r0 "com/example/clearbrace/clearbrace/gser/ComponentOrder" "_count" "I" (.int (cn + 1)) ∧ Fld Z h r0 "com/example/clearbrace/clearbrace/gser/ComponentOrder" "_next" "I" (.int (u1 + 1)) ∧ Ary Z h gv .boolean N (fun q => .int (b2i (if q = kn then true else gb q)))) := by
  refine own_body pn_13 ?_
  intro p e s m below meth c s₁ hx hby hml hown hnm hret hZ e0 X0 G go rt
  have N0 := Fr.nil n0
  rw [ef_rm_gi m r0 u1]
  show G (s₁.setTop (mkF m 0 #[.val (.ref r0), .val (.int u1)] []))
  refine go _ _ (fun t' k' => XS.aloadN X0.here hx rfl (hb hby d13_0) rfl rfl  k') ?_
  show G (s₁.setTop (mkF m 1 #[.val (.ref r0), .val (.int u1)] [(.ref r0)]))
  obtain ⟨T228, X228, e228, st228⟩ := getF X0 hx hZ hown (host := "") (Or.inl (hw _ (List.mem_of_getElem? (i := 78) rfl))) Via.refl e0 F2 (g := (mkF m 1 #[.val (.ref r0), .val (.int u1)] [(.ref r0)])) rfl rfl (hb hby d13_1)
  refine go _ _ st228 ?_
  show G (T228.setTop (mkF m 4 #[.val (.ref r0), .val (.int u1)] [(.ref gv)]))
  refine go _ _ (fun t' k' => XS.iloadN X228.here hx rfl (hb hby d13_4) rfl  k') ?_
  show G (T228.setTop (mkF m 5 #[.val (.ref r0), .val (.int u1)] [(.int u1), (.ref gv)]))
  refine go _ _ (fun t' k' => XS.iconst X228.here hx rfl (hb hby d13_5) k') ?_
  show G (T228.setTop (mkF m 6 #[.val (.ref r0), .val (.int u1)] [(.int (1 : Int32)), (.int u1), (.ref gv)]))
  refine own_zastore go X228 hx hZ e228 kn hk hkN (g := (mkF m 6 #[.val (.ref r0), .val (.int u1)] [(.int (1 : Int32)), (.int u1), (.ref gv)])) rfl A rfl (hb hby d13_6) ?_
  intro T229 h229 X229 e229 W229 A229
  have K230 : Keep h0 h229 [r0, gv] := (Keep.refl h0 [r0, gv]).wr W229 (Or.inl (List.mem_of_getElem? (i := 1) rfl))
  obtain ⟨lc229, X229h, N229h⟩ := own_hide X229 (Fr.snoc X229 N0 g_gv)
  have Z231 : n0 ≤ h229.size := Nat.le_trans Z0 (Nat.le_of_eq W229.size.symm)
  have A229c := A229.cong (g := (fun q => .int (b2i (if q = kn then true else gb q)))) own_gs
  show G (T229.setTop (mkF m 7 #[.val (.ref r0), .val (.int u1)] []))
  refine go _ _ (fun t' k' => XS.aloadN X229h.here hx rfl (hb hby d13_7) rfl rfl  k') ?_
  show G (T229.setTop (mkF m 8 #[.val (.ref r0), .val (.int u1)] [(.ref r0)]))
  refine go _ _ (fun t' k' => XS.dup X229h.here hx rfl (hb hby d13_8) rfl rfl k') ?_
  show G (T229.setTop (mkF m 9 #[.val (.ref r0), .val (.int u1)] [(.ref r0), (.ref r0)]))
  have f232 := (F3.other W229 (Or.inl (Ne.symm ng)))
  obtain ⟨T233, X233, e233, st233⟩ := getF X229h hx hZ hown (host := "") (Or.inl (hw _ (List.mem_of_getElem? (i := 90) rfl))) Via.refl e229 f232 (g := (mkF m 9 #[.val (.ref r0), .val (.int u1)] [(.ref r0), (.ref r0)])) rfl rfl (hb hby d13_9)
  refine go _ _ st233 ?_
  show G (T233.setTop (mkF m 12 #[.val (.ref r0), .val (.int u1)] [(.int cn), (.ref r0)]))
  refine go _ _ (fun t' k' => XS.iconst X233.here hx rfl (hb hby d13_12) k') ?_
  show G (T233.setTop (mkF m 13 #[.val (.ref r0), .val (.int u1)] [(.int (1 : Int32)), (.int cn), (.ref r0)]))
  refine go _ _ (fun t' k' => XS.iadd X233.here hx rfl (hb hby d13_13) rfl k') ?_
  show G (T233.setTop (mkF m 14 #[.val (.ref r0), .val (.int u1)] [(.int (cn + (1 : Int32))), (.ref r0)]))
  have f234 := (E0.wr W229)
  obtain ⟨T235, h235, X235, e235, W235, st235⟩ := putF X233 hx hZ hown (host := "") (Or.inl (hw _ (List.mem_of_getElem? (i := 90) rfl))) Via.refl e233 f232 f234 (Or.inl (hw _ (List.mem_of_getElem? (i := 91) rfl))) (hw _ (List.mem_of_getElem? (i := 58) rfl)) (ty := .int) (by decide) rfl rfl (g := (mkF m 14 #[.val (.ref r0), .val (.int u1)] [(.int (cn + (1 : Int32))), (.ref r0)])) rfl rfl (hb hby d13_14)
  have F235 := f232.same W235
  have K236 : Keep h0 h235 [r0, gv] := K230.wr W235 (Or.inl (List.mem_of_getElem? (i := 0) rfl))
  obtain ⟨lc235, X235h, N235h⟩ := own_hide X235 (Fr.snoc X235 N229h g_r0)
  have Z237 : n0 ≤ h235.size := Nat.le_trans Z231 (Nat.le_of_eq W235.size.symm)
  refine go _ _ st235 ?_
  show G (T235.setTop (mkF m 17 #[.val (.ref r0), .val (.int u1)] []))
  refine go _ _ (fun t' k' => XS.aloadN X235h.here hx rfl (hb hby d13_17) rfl rfl  k') ?_
  show G (T235.setTop (mkF m 18 #[.val (.ref r0), .val (.int u1)] [(.ref r0)]))
  refine go _ _ (fun t' k' => XS.iloadN X235h.here hx rfl (hb hby d13_18) rfl  k') ?_
  show G (T235.setTop (mkF m 19 #[.val (.ref r0), .val (.int u1)] [(.int u1), (.ref r0)]))
  refine go _ _ (fun t' k' => XS.iconst X235h.here hx rfl (hb hby d13_19) k') ?_
  show G (T235.setTop (mkF m 20 #[.val (.ref r0), .val (.int u1)] [(.int (1 : Int32)), (.int u1), (.ref r0)]))
  refine go _ _ (fun t' k' => XS.iadd X235h.here hx rfl (hb hby d13_20) rfl k') ?_
  show G (T235.setTop (mkF m 21 #[.val (.ref r0), .val (.int u1)] [(.int (u1 + (1 : Int32))), (.ref r0)]))
  have f238 := ((F4.other W229 (Or.inl (Ne.symm ng))).other W235 (Or.inr (slot_ne (Or.inl (hw _ (List.mem_of_getElem? (i := 93) rfl))) (Or.inl (hw _ (List.mem_of_getElem? (i := 91) rfl))) (by decide) (t := .int) (t' := .int) (by decide) (by decide))))
  have f239 := (f234.wr W235)
  obtain ⟨T240, h240, X240, e240, W240, st240⟩ := putF X235h hx hZ hown (host := "") (Or.inl (hw _ (List.mem_of_getElem? (i := 92) rfl))) Via.refl e235 f238 f239 (Or.inl (hw _ (List.mem_of_getElem? (i := 93) rfl))) (hw _ (List.mem_of_getElem? (i := 58) rfl)) (ty := .int) (by decide) rfl rfl (g := (mkF m 21 #[.val (.ref r0), .val (.int u1)] [(.int (u1 + (1 : Int32))), (.ref r0)])) rfl rfl (hb hby d13_21)
  have F240 := f238.same W240
  have K241 : Keep h0 h240 [r0, gv] := K236.wr W240 (Or.inl (List.mem_of_getElem? (i := 0) rfl))
  obtain ⟨lc240, X240h, N240h⟩ := own_hide X240 (Fr.snoc X240 N235h g_r0)
  have Z242 : n0 ≤ h240.size := Nat.le_trans Z237 (Nat.le_of_eq W240.size.symm)
  refine go _ _ st240 ?_
  show G (T240.setTop (mkF m 24 #[.val (.ref r0), .val (.int u1)] []))
  refine own_retV rt X240h hx hret (hb hby d13_24) (by decide) (by decide) ?_
  have f243 := (((F0.other W229 (Or.inl (Ne.symm ng))).other W235 (Or.inr (slot_ne (Or.inr (hw _ (List.mem_of_getElem? (i := 65) rfl))) (Or.inl (hw _ (List.mem_of_getElem? (i := 91) rfl))) (by decide) (t := (.object "java/util/List")) (t' := .int) (by decide) (by decide)))).other W240 (Or.inr (slot_ne (Or.inr (hw _ (List.mem_of_getElem? (i := 65) rfl))) (Or.inl (hw _ (List.mem_of_getElem? (i := 93) rfl))) (by decide) (t := (.object "java/util/List")) (t' := .int) (by decide) (by decide))))
  have f244 := (((F1.other W229 (Or.inl (Ne.symm ng))).other W235 (Or.inr (slot_ne (Or.inr (hw _ (List.mem_of_getElem? (i := 67) rfl))) (Or.inl (hw _ (List.mem_of_getElem? (i := 91) rfl))) (by decide) (t := .boolean) (t' := .int) (by decide) (by decide)))).other W240 (Or.inr (slot_ne (Or.inr (hw _ (List.mem_of_getElem? (i := 67) rfl))) (Or.inl (hw _ (List.mem_of_getElem? (i := 93) rfl))) (by decide) (t := .boolean) (t' := .int) (by decide) (by decide))))
  have f245 := (((F2.other W229 (Or.inl (Ne.symm ng))).other W235 (Or.inr (slot_ne (Or.inr (hw _ (List.mem_of_getElem? (i := 79) rfl))) (Or.inl (hw _ (List.mem_of_getElem? (i := 91) rfl))) (by decide) (t := (.array .boolean)) (t' := .int) (by decide) (by decide)))).other W240 (Or.inr (slot_ne (Or.inr (hw _ (List.mem_of_getElem? (i := 79) rfl))) (Or.inl (hw _ (List.mem_of_getElem? (i := 93) rfl))) (by decide) (t := (.array .boolean)) (t' := .int) (by decide) (by decide))))
  have f246 := (F235.other W240 (Or.inr (slot_ne (Or.inl (hw _ (List.mem_of_getElem? (i := 91) rfl))) (Or.inl (hw _ (List.mem_of_getElem? (i := 93) rfl))) (by decide) (t := .int) (t' := .int) (by decide) (by decide))))
  have f247 := ((A229c.other W235 ng).other W240 ng)
  rw [e240]
  exact ⟨rfl, N240h, K241, f243, f244, f245, f246, F240, f247⟩
theorem pn_14 : plainFor (⟨"com/example/clearbrace/clearbrace/gser/ComponentOrder", "anyLeft", "()Z"⟩ : MethodName) = true := by first | (exact plainFor_of_name (show plainName "com/example/clearbrace/clearbrace/gser/ComponentOrder" = true by first | (simp [plainName, overriddenIn]; done) | decide +kernel)) | decide +kernel
theorem ef_rm_al (m : MethodId) (x0 : Addr) : entryFrame m #[(.ref x0)] 1 = mkF m 0 #[.val (.ref x0)] [] := by first | (simp [entryFrame, mkF, argsToLocals, Value.category]; done) | rfl
set_option maxRecDepth 65536 in
set_option maxHeartbeats 40000000 in
theorem rm_al (l : Launch) (Z : State) (a0 : Array Value) (hw : ∀ d ∈ tables_1, d.before a0 Z = true) (r0 r1 gv : Addr) (ov cn nx nn : Int32) (h0 : Heap) (n0 : Nat) (Z0 : n0 ≤ h0.size) (El : Exa Z h0 r1 "java/util/ArrayList") (Fs : Fld Z h0 r1 "java/util/ArrayList" "size" "I" (.int nn)) (F0 : Fld Z h0 r0 "com/example/clearbrace/clearbrace/gser/ComponentOrder" "_components" "Ljava/util/List;" (.ref r1)) (F1 : Fld Z h0 r0 "com/example/clearbrace/clearbrace/gser/ComponentOrder" "_ordered" "Z" (.int ov)) (F2 : Fld Z h0 r0 "com/example/clearbrace/clearbrace/gser/ComponentOrder" "_given" "[Z" (.ref gv)) (F3 : Fld Z h0 r0 "com/example/clearbrace/clearbrace/gser/ComponentOrder" "_count" "I" (.int cn)) (F4 : Fld Z h0 r0 "com/example/clearbrace/clearbrace/gser/ComponentOrder" "_next" "I" (.int nx)) :
    Con l Z (⟨"com/example/clearbrace/clearbrace/gser/ComponentOrder", "anyLeft", "()Z"⟩ : MethodName) prog_21_method_7_code 1 (some .boolean) ({ frames := 1, cells := 0, slots := 0, locals := 13 } : Room) #[(.ref r0)] h0 (fun v h L => v = some (.int (if ov = 0 then (if cn < nn then 1 else 0) else (if nx < nn then 1 else 0))) ∧ Fr n0 L ∧ h = h0) := by
  refine own_body pn_14 ?_
  intro p e s m below meth c s₁ hx hby hml hown hnm hret hZ e0 X0 G go rt
  have N0 := Fr.nil n0
  rw [ef_rm_al m r0]
  show G (s₁.setTop (mkF m 0 #[.val (.ref r0)] []))
  refine go _ _ (fun t' k' => XS.aloadN X0.here hx rfl (hb hby d14_0) rfl rfl  k') ?_
  show G (s₁.setTop (mkF m 1 #[.val (.ref r0)] [(.ref r0)]))
  obtain ⟨T248, X248, e248, st248⟩ := getF X0 hx hZ hown (host := "") (Or.inl (hw _ (List.mem_of_getElem? (i := 66) rfl))) Via.refl e0 F1 (g := (mkF m 1 #[.val (.ref r0)] [(.ref r0)])) rfl rfl (hb hby d14_1)
  refine go _ _ st248 ?_
  show G (T248.setTop (mkF m 4 #[.val (.ref r0)] [(.int ov)]))
  by_cases c249 : ov = (0 : Int32)
  · refine go _ _ (fun t' k' => XS.ifYes X248.here hx rfl (pc0 := 4) (pc' := 31) rfl (hb hby d14_4) rfl (Free.XT.i0_eq_t c249) (by decide) (by decide) k') ?_
    show G (T248.setTop (mkF m 31 #[.val (.ref r0)] []))
    refine go _ _ (fun t' k' => XS.aloadN X248.here hx rfl (hb hby d14_31) rfl rfl  k') ?_
    show G (T248.setTop (mkF m 32 #[.val (.ref r0)] [(.ref r0)]))
    obtain ⟨T250, X250, e250, st250⟩ := getF X248 hx hZ hown (host := "") (Or.inl (hw _ (List.mem_of_getElem? (i := 90) rfl))) Via.refl e248 F3 (g := (mkF m 32 #[.val (.ref r0)] [(.ref r0)])) rfl rfl (hb hby d14_32)
    refine go _ _ st250 ?_
    show G (T250.setTop (mkF m 35 #[.val (.ref r0)] [(.int cn)]))
    refine go _ _ (fun t' k' => XS.aloadN X250.here hx rfl (hb hby d14_35) rfl rfl  k') ?_
    show G (T250.setTop (mkF m 36 #[.val (.ref r0)] [(.ref r0), (.int cn)]))
    obtain ⟨T251, X251, e251, st251⟩ := getF X250 hx hZ hown (host := "") (Or.inl (hw _ (List.mem_of_getElem? (i := 64) rfl))) Via.refl e250 F0 (g := (mkF m 36 #[.val (.ref r0)] [(.ref r0), (.int cn)])) rfl rfl (hb hby d14_36)
    refine go _ _ st251 ?_
    show G (T251.setTop (mkF m 39 #[.val (.ref r0)] [(.ref r1), (.int cn)]))
    refine own_interface go X251 hx hZ e251 hown (hw _ (List.mem_of_getElem? (i := 68) rfl)) (hw _ (List.mem_of_getElem? (i := 69) rfl)) (mvT hZ (hw _ (List.mem_of_getElem? (i := 70) rfl))) (hw _ (List.mem_of_getElem? (i := 71) rfl)) (hw _ (List.mem_of_getElem? (i := 72) rfl)) (hw _ (List.mem_of_getElem? (i := 73) rfl)) (hw _ (List.mem_of_getElem? (i := 74) rfl)) (hw _ (List.mem_of_getElem? (i := 75) rfl)) (hw _ (List.mem_of_getElem? (i := 3) rfl)) (hw _ (List.mem_of_getElem? (i := 76) rfl)) (by decide) (rm_sz l Z a0 hw r1 nn h0 n0 Z0 Fs) 1 (by decide) (by decide) (by decide) (by decide) El (g := (mkF m 39 #[.val (.ref r0)] [(.ref r1), (.int cn)])) rfl (by rw [hml]; rfl) [] [(.int cn)] rfl (lenOf pd_5 rfl) rfl (by show 2 * 0 + _ ≤ _; exact Nat.le_of_eq rfl) (hb hby d14_39) ?_
    intro T252 L252 v252 X252 q252
    obtain ⟨rfl, N252, hh252⟩ := q252
    obtain ⟨lc252, X252h, N252h⟩ := own_hide X252 (Fr.app N0 N252)
    show G (T252.setTop (mkF m 44 #[.val (.ref r0)] [(.int nn), (.int cn)]))
    by_cases c253 : cn < nn
    · refine go _ _ (fun t' k' => XS.icmpNo X252h.here hx rfl (hb hby d14_44) rfl (Free.XT.ii_ge_f c253) k') ?_
      show G (T252.setTop (mkF m 47 #[.val (.ref r0)] []))
      refine go _ _ (fun t' k' => XS.iconst X252h.here hx rfl (hb hby d14_47) k') ?_
      show G (T252.setTop (mkF m 48 #[.val (.ref r0)] [(.int (1 : Int32))]))
      refine go _ _ (fun t' k' => XS.goto X252h.here hx rfl (pc0 := 48) (pc' := 52) rfl (hb hby d14_48) (by decide) (by decide) k') ?_
      show G (T252.setTop (mkF m 52 #[.val (.ref r0)] [(.int (1 : Int32))]))
      refine own_retZ rt X252h hx (t := .boolean) hret (by simp) (hb hby d14_52) (by decide) (by decide) ?_
      exact ⟨by simp [nar, c249, c253], N252h, hh252⟩
    · refine go _ _ (fun t' k' => XS.icmpYes X252h.here hx rfl (pc0 := 44) (pc' := 51) rfl (hb hby d14_44) rfl (Free.XT.ii_ge_t c253) (by decide) (by decide) k') ?_
      show G (T252.setTop (mkF m 51 #[.val (.ref r0)] []))
      refine go _ _ (fun t' k' => XS.iconst X252h.here hx rfl (hb hby d14_51) k') ?_
      show G (T252.setTop (mkF m 52 #[.val (.ref r0)] [(.int (0 : Int32))]))
      refine own_retZ rt X252h hx (t := .boolean) hret (by simp) (hb hby d14_52) (by decide) (by decide) ?_
      exact ⟨by simp [nar, c249, c253], N252h, hh252⟩
  · refine go _ _ (fun t' k' => XS.ifNo X248.here hx rfl (hb hby d14_4) rfl (Free.XT.i0_eq_f c249) k') ?_
    show G (T248.setTop (mkF m 7 #[.val (.ref r0)] []))
    refine go _ _ (fun t' k' => XS.aloadN X248.here hx rfl (hb hby d14_7) rfl rfl  k') ?_
    show G (T248.setTop (mkF m 8 #[.val (.ref r0)] [(.ref r0)]))
    obtain ⟨T254, X254, e254, st254⟩ := getF X248 hx hZ hown (host := "") (Or.inl (hw _ (List.mem_of_getElem? (i := 92) rfl))) Via.refl e248 F4 (g := (mkF m 8 #[.val (.ref r0)] [(.ref r0)])) rfl rfl (hb hby d14_8)
    refine go _ _ st254 ?_
    show G (T254.setTop (mkF m 11 #[.val (.ref r0)] [(.int nx)]))
    refine go _ _ (fun t' k' => XS.aloadN X254.here hx rfl (hb hby d14_11) rfl rfl  k') ?_
    show G (T254.setTop (mkF m 12 #[.val (.ref r0)] [(.ref r0), (.int nx)]))
    obtain ⟨T255, X255, e255, st255⟩ := getF X254 hx hZ hown (host := "") (Or.inl (hw _ (List.mem_of_getElem? (i := 64) rfl))) Via.refl e254 F0 (g := (mkF m 12 #[.val (.ref r0)] [(.ref r0), (.int nx)])) rfl rfl (hb hby d14_12)
    refine go _ _ st255 ?_
    show G (T255.setTop (mkF m 15 #[.val (.ref r0)] [(.ref r1), (.int nx)]))
    refine own_interface go X255 hx hZ e255 hown (hw _ (List.mem_of_getElem? (i := 68) rfl)) (hw _ (List.mem_of_getElem? (i := 69) rfl)) (mvT hZ (hw _ (List.mem_of_getElem? (i := 70) rfl))) (hw _ (List.mem_of_getElem? (i := 71) rfl)) (hw _ (List.mem_of_getElem? (i := 72) rfl)) (hw _ (List.mem_of_getElem? (i := 73) rfl)) (hw _ (List.mem_of_getElem? (i := 74) rfl)) (hw _ (List.mem_of_getElem? (i := 75) rfl)) (hw _ (List.mem_of_getElem? (i := 3) rfl)) (hw _ (List.mem_of_getElem? (i := 76) rfl)) (by decide) (rm_sz l Z a0 hw r1 nn h0 n0 Z0 Fs) 1 (by decide) (by decide) (by decide) (by decide) El (g := (mkF m 15 #[.val (.ref r0)] [(.ref r1), (.int nx)])) rfl (by rw [hml]; rfl) [] [(.int nx)] rfl (lenOf pd_5 rfl) rfl (by show 2 * 0 + _ ≤ _; exact Nat.le_of_eq rfl) (hb hby d14_15) ?_
    intro T256 L256 v256 X256 q256
    obtain ⟨rfl, N256, hh256⟩ := q256
    obtain ⟨lc256, X256h, N256h⟩ := own_hide X256 (Fr.app N0 N256)
    show G (T256.setTop (mkF m 20 #[.val (.ref r0)] [(.int nn), (.int nx)]))
    by_cases c257 : nx < nn
    · refine go _ _ (fun t' k' => XS.icmpNo X256h.here hx rfl (hb hby d14_20) rfl (Free.XT.ii_ge_f c257) k') ?_
      show G (T256.setTop (mkF m 23 #[.val (.ref r0)] []))
      refine go _ _ (fun t' k' => XS.iconst X256h.here hx rfl (hb hby d14_23) k') ?_
      show G (T256.setTop (mkF m 24 #[.val (.ref r0)] [(.int (1 : Int32))]))
      refine go _ _ (fun t' k' => XS.goto X256h.here hx rfl (pc0 := 24) (pc' := 52) rfl (hb hby d14_24) (by decide) (by decide) k') ?_
      show G (T256.setTop (mkF m 52 #[.val (.ref r0)] [(.int (1 : Int32))]))
      refine own_retZ rt X256h hx (t := .boolean) hret (by simp) (hb hby d14_52) (by decide) (by decide) ?_
      exact ⟨by simp [nar, c249, c257], N256h, hh256⟩
    · refine go _ _ (fun t' k' => XS.icmpYes X256h.here hx rfl (pc0 := 20) (pc' := 27) rfl (hb hby d14_20) rfl (Free.XT.ii_ge_t c257) (by decide) (by decide) k') ?_
      show G (T256.setTop (mkF m 27 #[.val (.ref r0)] []))
      refine go _ _ (fun t' k' => XS.iconst X256h.here hx rfl (hb hby d14_27) k') ?_
      show G (T256.setTop (mkF m 28 #[.val (.ref r0)] [(.int (0 : Int32))]))
      refine go _ _ (fun t' k' => XS.goto X256h.here hx rfl (pc0 := 28) (pc' := 52) rfl (hb hby d14_28) (by decide) (by decide) k') ?_
      show G (T256.setTop (mkF m 52 #[.val (.ref r0)] [(.int (0 : Int32))]))
      refine own_retZ rt X256h hx (t := .boolean) hret (by simp) (hb hby d14_52) (by decide) (by decide) ?_
      exact ⟨by simp [nar, c249, c257], N256h, hh256⟩
theorem pn_15 : plainFor (⟨"com/example/clearbrace/clearbrace/gser/ComponentOrder", "mayComeNext", "(I)Z"⟩ : MethodName) = true := by first | (exact plainFor_of_name (show plainName "com/example/clearbrace/clearbrace/gser/ComponentOrder" = true by first | (simp [plainName, overriddenIn]; done) | decide +kernel)) | decide +kernel
theorem ef_rm_mo (m : MethodId) (x0 : Addr) (x1 : Int32) : entryFrame m #[(.ref x0), (.int x1)] 3 = mkF m 0 #[.val (.ref x0), .val (.int x1), .unset] [] := by first | (simp [entryFrame, mkF, argsToLocals, Value.category]; done) | rfl
set_option maxRecDepth 65536 in
set_option maxHeartbeats 40000000 in
theorem rm_mo (l : Launch) (Z : State) (a0 : Array Value) (hw : ∀ d ∈ tables_1, d.before a0 Z = true) (r0 : Addr) (u1 : Int32) (gv r1 : Addr) (ov cn nx : Int32) (gb : Nat → Bool) (N kn : Nat) (h0 : Heap) (n0 : Nat) (Z0 : n0 ≤ h0.size) (F0 : Fld Z h0 r0 "com/example/clearbrace/clearbrace/gser/ComponentOrder" "_components" "Ljava/util/List;" (.ref r1)) (F1 : Fld Z h0 r0 "com/example/clearbrace/clearbrace/gser/ComponentOrder" "_ordered" "Z" (.int ov)) (F2 : Fld Z h0 r0 "com/example/clearbrace/clearbrace/gser/ComponentOrder" "_given" "[Z" (.ref gv)) (F3 : Fld Z h0 r0 "com/example/clearbrace/clearbrace/gser/ComponentOrder" "_count" "I" (.int cn)) (F4 : Fld Z h0 r0 "com/example/clearbrace/clearbrace/gser/ComponentOrder" "_next" "I" (.int nx)) (hov : ¬ ov = 0) (hle : ¬ nx < u1) :
    Con l Z (⟨"com/example/clearbrace/clearbrace/gser/ComponentOrder", "mayComeNext", "(I)Z"⟩ : MethodName) prog_21_method_5_code 3 (some .boolean) ({ frames := 0, cells := 0, slots := 0, locals := 0 } : Room) #[(.ref r0), (.int u1)] h0 (fun v h L => v = some (.int (if u1 < nx then 0 else 1)) ∧ Fr n0 L ∧ h = h0) := by
  refine own_body pn_15 ?_
  intro p e s m below meth c s₁ hx hby hml hown hnm hret hZ e0 X0 G go rt
  have N0 := Fr.nil n0
  rw [ef_rm_mo m r0 u1]
  show G (s₁.setTop (mkF m 0 #[.val (.ref r0), .val (.int u1), .unset] []))
  refine go _ _ (fun t' k' => XS.aloadN X0.here hx rfl (hb hby d15_0) rfl rfl  k') ?_
  show G (s₁.setTop (mkF m 1 #[.val (.ref r0), .val (.int u1), .unset] [(.ref r0)]))
  obtain ⟨T258, X258, e258, st258⟩ := getF X0 hx hZ hown (host := "") (Or.inl (hw _ (List.mem_of_getElem? (i := 66) rfl))) Via.refl e0 F1 (g := (mkF m 1 #[.val (.ref r0), .val (.int u1), .unset] [(.ref r0)])) rfl rfl (hb hby d15_1)
  refine go _ _ st258 ?_
  show G (T258.setTop (mkF m 4 #[.val (.ref r0), .val (.int u1), .unset] [(.int ov)]))
  refine go _ _ (fun t' k' => XS.ifYes X258.here hx rfl (pc0 := 4) (pc' := 22) rfl (hb hby d15_4) rfl (Free.XT.i0_ne_t hov) (by decide) (by decide) k') ?_
  show G (T258.setTop (mkF m 22 #[.val (.ref r0), .val (.int u1), .unset] []))
  refine go _ _ (fun t' k' => XS.iloadN X258.here hx rfl (hb hby d15_22) rfl  k') ?_
  show G (T258.setTop (mkF m 23 #[.val (.ref r0), .val (.int u1), .unset] [(.int u1)]))
  refine go _ _ (fun t' k' => XS.aloadN X258.here hx rfl (hb hby d15_23) rfl rfl  k') ?_
  show G (T258.setTop (mkF m 24 #[.val (.ref r0), .val (.int u1), .unset] [(.ref r0), (.int u1)]))
  obtain ⟨T259, X259, e259, st259⟩ := getF X258 hx hZ hown (host := "") (Or.inl (hw _ (List.mem_of_getElem? (i := 92) rfl))) Via.refl e258 F4 (g := (mkF m 24 #[.val (.ref r0), .val (.int u1), .unset] [(.ref r0), (.int u1)])) rfl rfl (hb hby d15_24)
  refine go _ _ st259 ?_
  show G (T259.setTop (mkF m 27 #[.val (.ref r0), .val (.int u1), .unset] [(.int nx), (.int u1)]))
  by_cases c260 : u1 < nx
  · refine go _ _ (fun t' k' => XS.icmpNo X259.here hx rfl (hb hby d15_27) rfl (Free.XT.ii_ge_f c260) k') ?_
    show G (T259.setTop (mkF m 30 #[.val (.ref r0), .val (.int u1), .unset] []))
    refine go _ _ (fun t' k' => XS.iconst X259.here hx rfl (hb hby d15_30) k') ?_
    show G (T259.setTop (mkF m 31 #[.val (.ref r0), .val (.int u1), .unset] [(.int (0 : Int32))]))
    refine own_retZ rt X259 hx (t := .boolean) hret (by simp) (hb hby d15_31) (by decide) (by decide) ?_
    exact ⟨by simp [nar, c260], N0, e259⟩
  · refine go _ _ (fun t' k' => XS.icmpYes X259.here hx rfl (pc0 := 27) (pc' := 32) rfl (hb hby d15_27) rfl (Free.XT.ii_ge_t c260) (by decide) (by decide) k') ?_
    show G (T259.setTop (mkF m 32 #[.val (.ref r0), .val (.int u1), .unset] []))
    refine go _ _ (fun t' k' => XS.aloadN X259.here hx rfl (hb hby d15_32) rfl rfl  k') ?_
    show G (T259.setTop (mkF m 33 #[.val (.ref r0), .val (.int u1), .unset] [(.ref r0)]))
    obtain ⟨T261, X261, e261, st261⟩ := getF X259 hx hZ hown (host := "") (Or.inl (hw _ (List.mem_of_getElem? (i := 92) rfl))) Via.refl e259 F4 (g := (mkF m 33 #[.val (.ref r0), .val (.int u1), .unset] [(.ref r0)])) rfl rfl (hb hby d15_33)
    refine go _ _ st261 ?_
    show G (T261.setTop (mkF m 36 #[.val (.ref r0), .val (.int u1), .unset] [(.int nx)]))
    refine go _ _ (fun t' k' => XS.istoreN X261.here hx rfl (hb hby d15_36) rfl (l' := #[.val (.ref r0), .val (.int u1), .val (.int nx)]) rfl k') ?_
    show G (T261.setTop (mkF m 37 #[.val (.ref r0), .val (.int u1), .val (.int nx)] []))
    refine go _ _ (fun t' k' => XS.iloadN X261.here hx rfl (hb hby d15_37) rfl  k') ?_
    show G (T261.setTop (mkF m 38 #[.val (.ref r0), .val (.int u1), .val (.int nx)] [(.int nx)]))
    refine go _ _ (fun t' k' => XS.iloadN X261.here hx rfl (hb hby d15_38) rfl  k') ?_
    show G (T261.setTop (mkF m 39 #[.val (.ref r0), .val (.int u1), .val (.int nx)] [(.int u1), (.int nx)]))
    refine go _ _ (fun t' k' => XS.icmpYes X261.here hx rfl (pc0 := 39) (pc' := 69) rfl (hb hby d15_39) rfl (Free.XT.ii_ge_t hle) (by decide) (by decide) k') ?_
    show G (T261.setTop (mkF m 69 #[.val (.ref r0), .val (.int u1), .val (.int nx)] []))
    refine go _ _ (fun t' k' => XS.iconst X261.here hx rfl (hb hby d15_69) k') ?_
    show G (T261.setTop (mkF m 70 #[.val (.ref r0), .val (.int u1), .val (.int nx)] [(.int (1 : Int32))]))
    refine own_retZ rt X261 hx (t := .boolean) hret (by simp) (hb hby d15_70) (by decide) (by decide) ?_
    exact ⟨by simp [nar, c260], N0, e261⟩
theorem ef_rm_mu (m : MethodId) (x0 : Addr) (x1 : Int32) : entryFrame m #[(.ref x0), (.int x1)] 3 = mkF m 0 #[.val (.ref x0), .val (.int x1), .unset] [] := by first | (simp [entryFrame, mkF, argsToLocals, Value.category]; done) | rfl
set_option maxRecDepth 65536 in
set_option maxHeartbeats 40000000 in
theorem rm_mu (l : Launch) (Z : State) (a0 : Array Value) (hw : ∀ d ∈ tables_1, d.before a0 Z = true) (r0 : Addr) (u1 : Int32) (gv r1 : Addr) (ov cn nx : Int32) (gb : Nat → Bool) (N kn : Nat) (h0 : Heap) (n0 : Nat) (Z0 : n0 ≤ h0.size) (F0 : Fld Z h0 r0 "com/example/clearbrace/clearbrace/gser/ComponentOrder" "_components" "Ljava/util/List;" (.ref r1)) (F1 : Fld Z h0 r0 "com/example/clearbrace/clearbrace/gser/ComponentOrder" "_ordered" "Z" (.int ov)) (F2 : Fld Z h0 r0 "com/example/clearbrace/clearbrace/gser/ComponentOrder" "_given" "[Z" (.ref gv)) (F3 : Fld Z h0 r0 "com/example/clearbrace/clearbrace/gser/ComponentOrder" "_count" "I" (.int cn)) (F4 : Fld Z h0 r0 "com/example/clearbrace/clearbrace/gser/ComponentOrder" "_next" "I" (.int nx)) (hov : ov = 0) (A : Ary Z h0 gv .boolean N (fun q => .int (b2i (gb q)))) (hk : u1.toInt = kn) (hkN : kn < N) :
    Con l Z (⟨"com/example/clearbrace/clearbrace/gser/ComponentOrder", "mayComeNext", "(I)Z"⟩ : MethodName) prog_21_method_5_code 3 (some .boolean) ({ frames := 0, cells := 0, slots := 0, locals := 0 } : Room) #[(.ref r0), (.int u1)] h0 (fun v h L => v = some (.int (b2i (!(gb kn)))) ∧ Fr n0 L ∧ h = h0) := by
  refine own_body pn_15 ?_
  intro p e s m below meth c s₁ hx hby hml hown hnm hret hZ e0 X0 G go rt
  have N0 := Fr.nil n0
  rw [ef_rm_mu m r0 u1]
  show G (s₁.setTop (mkF m 0 #[.val (.ref r0), .val (.int u1), .unset] []))
  refine go _ _ (fun t' k' => XS.aloadN X0.here hx rfl (hb hby d15_0) rfl rfl  k') ?_
  show G (s₁.setTop (mkF m 1 #[.val (.ref r0), .val (.int u1), .unset] [(.ref r0)]))
  obtain ⟨T262, X262, e262, st262⟩ := getF X0 hx hZ hown (host := "") (Or.inl (hw _ (List.mem_of_getElem? (i := 66) rfl))) Via.refl e0 F1 (g := (mkF m 1 #[.val (.ref r0), .val (.int u1), .unset] [(.ref r0)])) rfl rfl (hb hby d15_1)
  refine go _ _ st262 ?_
  show G (T262.setTop (mkF m 4 #[.val (.ref r0), .val (.int u1), .unset] [(.int ov)]))
  refine go _ _ (fun t' k' => XS.ifNo X262.here hx rfl (hb hby d15_4) rfl (Free.XT.i0_ne_f hov) k') ?_
  show G (T262.setTop (mkF m 7 #[.val (.ref r0), .val (.int u1), .unset] []))
  refine go _ _ (fun t' k' => XS.aloadN X262.here hx rfl (hb hby d15_7) rfl rfl  k') ?_
  show G (T262.setTop (mkF m 8 #[.val (.ref r0), .val (.int u1), .unset] [(.ref r0)]))
  obtain ⟨T263, X263, e263, st263⟩ := getF X262 hx hZ hown (host := "") (Or.inl (hw _ (List.mem_of_getElem? (i := 78) rfl))) Via.refl e262 F2 (g := (mkF m 8 #[.val (.ref r0), .val (.int u1), .unset] [(.ref r0)])) rfl rfl (hb hby d15_8)
  refine go _ _ st263 ?_
  show G (T263.setTop (mkF m 11 #[.val (.ref r0), .val (.int u1), .unset] [(.ref gv)]))
  refine go _ _ (fun t' k' => XS.iloadN X263.here hx rfl (hb hby d15_11) rfl  k') ?_
  show G (T263.setTop (mkF m 12 #[.val (.ref r0), .val (.int u1), .unset] [(.int u1), (.ref gv)]))
  refine own_zaload go X263 hx hZ e263 kn hk hkN (g := (mkF m 12 #[.val (.ref r0), .val (.int u1), .unset] [(.int u1), (.ref gv)])) rfl A rfl (hb hby d15_12) ?_
  show G (T263.setTop (mkF m 13 #[.val (.ref r0), .val (.int u1), .unset] [(.int (b2i (gb kn)))]))
  by_cases c264 : (b2i (gb kn)) = (0 : Int32)
  · refine go _ _ (fun t' k' => XS.ifNo X263.here hx rfl (hb hby d15_13) rfl (Free.XT.i0_ne_f c264) k') ?_
    show G (T263.setTop (mkF m 16 #[.val (.ref r0), .val (.int u1), .unset] []))
    refine go _ _ (fun t' k' => XS.iconst X263.here hx rfl (hb hby d15_16) k') ?_
    show G (T263.setTop (mkF m 17 #[.val (.ref r0), .val (.int u1), .unset] [(.int (1 : Int32))]))
    refine go _ _ (fun t' k' => XS.goto X263.here hx rfl (pc0 := 17) (pc' := 21) rfl (hb hby d15_17) (by decide) (by decide) k') ?_
    show G (T263.setTop (mkF m 21 #[.val (.ref r0), .val (.int u1), .unset] [(.int (1 : Int32))]))
    refine own_retZ rt X263 hx (t := .boolean) hret (by simp) (hb hby d15_21) (by decide) (by decide) ?_
    exact ⟨by have z := c264; revert z; cases gb kn <;> simp [b2i, nar], N0, e263⟩
  · refine go _ _ (fun t' k' => XS.ifYes X263.here hx rfl (pc0 := 13) (pc' := 20) rfl (hb hby d15_13) rfl (Free.XT.i0_ne_t c264) (by decide) (by decide) k') ?_
    show G (T263.setTop (mkF m 20 #[.val (.ref r0), .val (.int u1), .unset] []))
    refine go _ _ (fun t' k' => XS.iconst X263.here hx rfl (hb hby d15_20) k') ?_
    show G (T263.setTop (mkF m 21 #[.val (.ref r0), .val (.int u1), .unset] [(.int (0 : Int32))]))
    refine own_retZ rt X263 hx (t := .boolean) hret (by simp) (hb hby d15_21) (by decide) (by decide) ?_
    exact ⟨by have z := c264; revert z; cases gb kn <;> simp [b2i, nar], N0, e263⟩
theorem pn_0 : plainFor x = true := by first | (exact plainFor_of_name (show plainName "com/example/clearbrace/clearbrace/gser/ComponentOrderGivePinLaw" = true by first | (simp [plainName, overriddenIn]; done) | decide +kernel)) | decide +kernel
theorem ef_rm0 (m : MethodId) (x0 : Int32) (x1 : Int32) (x2 : Int32) (x3 : Int32) (x4 : Int32) : entryFrame m #[(.int x0), (.int x1), (.int x2), (.int x3), (.int x4)] maxLocals = mkF m 0 #[.val (.int x0), .val (.int x1), .val (.int x2), .val (.int x3), .val (.int x4), .unset, .unset, .unset, .unset, .unset, .unset, .unset, .unset, .unset, .unset, .unset, .unset, .unset, .unset, .unset, .unset] [] := by first | (simp [entryFrame, mkF, argsToLocals, Value.category, maxLocals]; done) | rfl
set_option maxRecDepth 65536 in
set_option maxHeartbeats 40000000 in
theorem rm0 (l : Launch) (Z : State) (a0 : Array Value) (hw : ∀ d ∈ tables_1, d.before a0 Z = true) (u0 u1 u2 u3 u4 : Int32) (h0 : Heap) (n0 : Nat) (Z0 : n0 ≤ h0.size) (rd : Addr) (f : Nat → Value) (Sd : Sta Z h0 "java/util/ArrayList" "DEFAULTCAPACITY_EMPTY_ELEMENTDATA" "[Ljava/lang/Object;" (.ref rd)) (Ad : Ary Z h0 rd (.object "java/lang/Object") 0 f) :
    Con l Z x code maxLocals ret room_1 #[(.int u0), (.int u1), (.int u2), (.int u3), (.int u4)] h0 (fun v h L => v = some (.int 1) ∧ Fr n0 L) := by
  refine own_body pn_0 ?_
  intro p e s m below meth c s₁ hx hby hml hown hnm hret hZ e0 X0 G go rt
  have N0 := Fr.nil n0
  rw [ef_rm0 m u0 u1 u2 u3 u4]
  show G (s₁.setTop (mkF m 0 #[.val (.int u0), .val (.int u1), .val (.int u2), .val (.int u3), .val (.int u4), .unset, .unset, .unset, .unset, .unset, .unset, .unset, .unset, .unset, .unset, .unset, .unset, .unset, .unset, .unset, .unset] []))
  refine go _ _ (fun t' k' => XS.iconst X0.here hx rfl (hb hby at_0) k') ?_
  show G (s₁.setTop (mkF m 1 #[.val (.int u0), .val (.int u1), .val (.int u2), .val (.int u3), .val (.int u4), .unset, .unset, .unset, .unset, .unset, .unset, .unset, .unset, .unset, .unset, .unset, .unset, .unset, .unset, .unset, .unset] [(.int (1 : Int32))]))
  refine go _ _ (fun t' k' => XS.iloadN X0.here hx rfl (hb hby at_1) rfl  k') ?_
  show G (s₁.setTop (mkF m 2 #[.val (.int u0), .val (.int u1), .val (.int u2), .val (.int u3), .val (.int u4), .unset, .unset, .unset, .unset, .unset, .unset, .unset, .unset, .unset, .unset, .unset, .unset, .unset, .unset, .unset, .unset] [(.int u0), (.int (1 : Int32))]))
  refine go _ _ (fun t' k' => XS.iconst X0.here hx rfl (hb hby at_2) k') ?_
  show G (s₁.setTop (mkF m 3 #[.val (.int u0), .val (.int u1), .val (.int u2), .val (.int u3), .val (.int u4), .unset, .unset, .unset, .unset, .unset, .unset, .unset, .unset, .unset, .unset, .unset, .unset, .unset, .unset, .unset, .unset] [(.int (3 : Int32)), (.int u0), (.int (1 : Int32))]))
  refine go _ _ (fun t' k' => XS.iand X0.here hx rfl (hb hby at_3) rfl k') ?_
  show G (s₁.setTop (mkF m 4 #[.val (.int u0), .val (.int u1), .val (.int u2), .val (.int u3), .val (.int u4), .unset, .unset, .unset, .unset, .unset, .unset, .unset, .unset, .unset, .unset, .unset, .unset, .unset, .unset, .unset, .unset] [(.int (u0 &&& (3 : Int32))), (.int (1 : Int32))]))
  refine go _ _ (fun t' k' => XS.iadd X0.here hx rfl (hb hby at_4) rfl k') ?_
  show G (s₁.setTop (mkF m 5 #[.val (.int u0), .val (.int u1), .val (.int u2), .val (.int u3), .val (.int u4), .unset, .unset, .unset, .unset, .unset, .unset, .unset, .unset, .unset, .unset, .unset, .unset, .unset, .unset, .unset, .unset] [(.int ((1 : Int32) + (u0 &&& (3 : Int32))))]))
  refine go _ _ (fun t' k' => XS.istore X0.here hx rfl (hb hby at_5) rfl (l' := #[.val (.int u0), .val (.int u1), .val (.int u2), .val (.int u3), .val (.int u4), .val (.int ((1 : Int32) + (u0 &&& (3 : Int32)))), .unset, .unset, .unset, .unset, .unset, .unset, .unset, .unset, .unset, .unset, .unset, .unset, .unset, .unset, .unset]) rfl k') ?_
  show G (s₁.setTop (mkF m 7 #[.val (.int u0), .val (.int u1), .val (.int u2), .val (.int u3), .val (.int u4), .val (.int ((1 : Int32) + (u0 &&& (3 : Int32)))), .unset, .unset, .unset, .unset, .unset, .unset, .unset, .unset, .unset, .unset, .unset, .unset, .unset, .unset, .unset] []))
  obtain ⟨nn, hnn⟩ : ∃ z, z = ((1 : Int32) + (u0 &&& (3 : Int32))) := ⟨_, rfl⟩
  rw [← hnn]
  show G (s₁.setTop (mkF m 7 #[.val (.int u0), .val (.int u1), .val (.int u2), .val (.int u3), .val (.int u4), .val (.int nn), .unset, .unset, .unset, .unset, .unset, .unset, .unset, .unset, .unset, .unset, .unset, .unset, .unset, .unset, .unset] []))
  obtain ⟨N, hN, h1N, hN4⟩ := own_n4 hnn
  refine go _ _ (fun t' k' => XS.iloadN X0.here hx rfl (hb hby at_7) rfl  k') ?_
  show G (s₁.setTop (mkF m 8 #[.val (.int u0), .val (.int u1), .val (.int u2), .val (.int u3), .val (.int u4), .val (.int nn), .unset, .unset, .unset, .unset, .unset, .unset, .unset, .unset, .unset, .unset, .unset, .unset, .unset, .unset, .unset] [(.int u0)]))
  refine go _ _ (fun t' k' => XS.iconst X0.here hx rfl (hb hby at_8) k') ?_
  show G (s₁.setTop (mkF m 9 #[.val (.int u0), .val (.int u1), .val (.int u2), .val (.int u3), .val (.int u4), .val (.int nn), .unset, .unset, .unset, .unset, .unset, .unset, .unset, .unset, .unset, .unset, .unset, .unset, .unset, .unset, .unset] [(.int (4 : Int32)), (.int u0)]))
  refine go _ _ (fun t' k' => XS.iand X0.here hx rfl (hb hby at_9) rfl k') ?_
  show G (s₁.setTop (mkF m 10 #[.val (.int u0), .val (.int u1), .val (.int u2), .val (.int u3), .val (.int u4), .val (.int nn), .unset, .unset, .unset, .unset, .unset, .unset, .unset, .unset, .unset, .unset, .unset, .unset, .unset, .unset, .unset] [(.int (u0 &&& (4 : Int32)))]))
  have J18 : ∀ (T : State) (locs : List Loc), Stand p l e room_1 s m #[(.int u0), (.int u1), (.int u2), (.int u3), (.int u4)] below meth c T locs 0 0 → T.heap = h0 → Fr n0 locs → ∀ (ov : Int32), (ov = 0 ∨ ov = 1) → G (T.setTop (mkF m 18 #[.val (.int u0), .val (.int u1), .val (.int u2), .val (.int u3), .val (.int u4), .val (.int nn), .unset, .unset, .unset, .unset, .unset, .unset, .unset, .unset, .unset, .unset, .unset, .unset, .unset, .unset, .unset] [(.int ov)])) := by
    intro T265 locs265 X265 e265 N265j ov hov
    show G (T265.setTop (mkF m 18 #[.val (.int u0), .val (.int u1), .val (.int u2), .val (.int u3), .val (.int u4), .val (.int nn), .unset, .unset, .unset, .unset, .unset, .unset, .unset, .unset, .unset, .unset, .unset, .unset, .unset, .unset, .unset] [(.int ov)]))
    refine go _ _ (fun t' k' => XS.istore X265.here hx rfl (hb hby at_18) rfl (l' := #[.val (.int u0), .val (.int u1), .val (.int u2), .val (.int u3), .val (.int u4), .val (.int nn), .val (.int ov), .unset, .unset, .unset, .unset, .unset, .unset, .unset, .unset, .unset, .unset, .unset, .unset, .unset, .unset]) rfl k') ?_
    show G (T265.setTop (mkF m 20 #[.val (.int u0), .val (.int u1), .val (.int u2), .val (.int u3), .val (.int u4), .val (.int nn), .val (.int ov), .unset, .unset, .unset, .unset, .unset, .unset, .unset, .unset, .unset, .unset, .unset, .unset, .unset, .unset] []))
    refine go _ _ (fun t' k' => XS.iloadN X265.here hx rfl (hb hby at_20) rfl  k') ?_
    show G (T265.setTop (mkF m 21 #[.val (.int u0), .val (.int u1), .val (.int u2), .val (.int u3), .val (.int u4), .val (.int nn), .val (.int ov), .unset, .unset, .unset, .unset, .unset, .unset, .unset, .unset, .unset, .unset, .unset, .unset, .unset, .unset] [(.int u0)]))
    refine go _ _ (fun t' k' => XS.bipush X265.here hx rfl (hb hby at_21) k') ?_
    show G (T265.setTop (mkF m 23 #[.val (.int u0), .val (.int u1), .val (.int u2), .val (.int u3), .val (.int u4), .val (.int nn), .val (.int ov), .unset, .unset, .unset, .unset, .unset, .unset, .unset, .unset, .unset, .unset, .unset, .unset, .unset, .unset] [(.int (8 : Int32)), (.int u0)]))
    refine go _ _ (fun t' k' => XS.iand X265.here hx rfl (hb hby at_23) rfl k') ?_
    show G (T265.setTop (mkF m 24 #[.val (.int u0), .val (.int u1), .val (.int u2), .val (.int u3), .val (.int u4), .val (.int nn), .val (.int ov), .unset, .unset, .unset, .unset, .unset, .unset, .unset, .unset, .unset, .unset, .unset, .unset, .unset, .unset] [(.int (u0 &&& (8 : Int32)))]))
    have J38 : ∀ (T : State) (locs : List Loc), Stand p l e room_1 s m #[(.int u0), (.int u1), (.int u2), (.int u3), (.int u4)] below meth c T locs 0 0 → T.heap = h0 → Fr n0 locs → ∀ (tv : Int32), (tv = 0 ∨ (¬ tv = 0 ∧ 2 ≤ N)) → G (T.setTop (mkF m 38 #[.val (.int u0), .val (.int u1), .val (.int u2), .val (.int u3), .val (.int u4), .val (.int nn), .val (.int ov), .unset, .unset, .unset, .unset, .unset, .unset, .unset, .unset, .unset, .unset, .unset, .unset, .unset, .unset] [(.int tv)])) := by
      intro T266 locs266 X266 e266 N266j tv htv
      show G (T266.setTop (mkF m 38 #[.val (.int u0), .val (.int u1), .val (.int u2), .val (.int u3), .val (.int u4), .val (.int nn), .val (.int ov), .unset, .unset, .unset, .unset, .unset, .unset, .unset, .unset, .unset, .unset, .unset, .unset, .unset, .unset] [(.int tv)]))
      refine go _ _ (fun t' k' => XS.istore X266.here hx rfl (hb hby at_38) rfl (l' := #[.val (.int u0), .val (.int u1), .val (.int u2), .val (.int u3), .val (.int u4), .val (.int nn), .val (.int ov), .val (.int tv), .unset, .unset, .unset, .unset, .unset, .unset, .unset, .unset, .unset, .unset, .unset, .unset, .unset]) rfl k') ?_
      show G (T266.setTop (mkF m 40 #[.val (.int u0), .val (.int u1), .val (.int u2), .val (.int u3), .val (.int u4), .val (.int nn), .val (.int ov), .val (.int tv), .unset, .unset, .unset, .unset, .unset, .unset, .unset, .unset, .unset, .unset, .unset, .unset, .unset] []))
      refine go _ _ (fun t' k' => XS.iloadN X266.here hx rfl (hb hby at_40) rfl  k') ?_
      show G (T266.setTop (mkF m 41 #[.val (.int u0), .val (.int u1), .val (.int u2), .val (.int u3), .val (.int u4), .val (.int nn), .val (.int ov), .val (.int tv), .unset, .unset, .unset, .unset, .unset, .unset, .unset, .unset, .unset, .unset, .unset, .unset, .unset] [(.int u1)]))
      refine go _ _ (fun t' k' => X266.ldcInt hx hown (mvT hZ (hw _ (List.mem_of_getElem? (i := 0) rfl))) (g := (mkF m 41 #[.val (.int u0), .val (.int u1), .val (.int u2), .val (.int u3), .val (.int u4), .val (.int nn), .val (.int ov), .val (.int tv), .unset, .unset, .unset, .unset, .unset, .unset, .unset, .unset, .unset, .unset, .unset, .unset, .unset] [(.int u1)])) rfl (hb hby at_41) _ k') ?_
      show G (T266.setTop (mkF m 43 #[.val (.int u0), .val (.int u1), .val (.int u2), .val (.int u3), .val (.int u4), .val (.int nn), .val (.int ov), .val (.int tv), .unset, .unset, .unset, .unset, .unset, .unset, .unset, .unset, .unset, .unset, .unset, .unset, .unset] [(.int (2147483647 : Int32)), (.int u1)]))
      refine go _ _ (fun t' k' => XS.iand X266.here hx rfl (hb hby at_43) rfl k') ?_
      show G (T266.setTop (mkF m 44 #[.val (.int u0), .val (.int u1), .val (.int u2), .val (.int u3), .val (.int u4), .val (.int nn), .val (.int ov), .val (.int tv), .unset, .unset, .unset, .unset, .unset, .unset, .unset, .unset, .unset, .unset, .unset, .unset, .unset] [(.int (u1 &&& (2147483647 : Int32)))]))
      refine go _ _ (fun t' k' => XS.iload X266.here hx rfl (hb hby at_44) rfl  k') ?_
      show G (T266.setTop (mkF m 46 #[.val (.int u0), .val (.int u1), .val (.int u2), .val (.int u3), .val (.int u4), .val (.int nn), .val (.int ov), .val (.int tv), .unset, .unset, .unset, .unset, .unset, .unset, .unset, .unset, .unset, .unset, .unset, .unset, .unset] [(.int nn), (.int (u1 &&& (2147483647 : Int32)))]))
      refine go _ _ (fun t' k' => iremM X266 hx rfl (hb hby at_46) rfl (own_nz hN h1N) k') ?_
      show G (T266.setTop (mkF m 47 #[.val (.int u0), .val (.int u1), .val (.int u2), .val (.int u3), .val (.int u4), .val (.int nn), .val (.int ov), .val (.int tv), .unset, .unset, .unset, .unset, .unset, .unset, .unset, .unset, .unset, .unset, .unset, .unset, .unset] [(.int ((u1 &&& (2147483647 : Int32)) % nn))]))
      refine go _ _ (fun t' k' => XS.istore X266.here hx rfl (hb hby at_47) rfl (l' := #[.val (.int u0), .val (.int u1), .val (.int u2), .val (.int u3), .val (.int u4), .val (.int nn), .val (.int ov), .val (.int tv), .val (.int ((u1 &&& (2147483647 : Int32)) % nn)), .unset, .unset, .unset, .unset, .unset, .unset, .unset, .unset, .unset, .unset, .unset, .unset]) rfl k') ?_
      show G (T266.setTop (mkF m 49 #[.val (.int u0), .val (.int u1), .val (.int u2), .val (.int u3), .val (.int u4), .val (.int nn), .val (.int ov), .val (.int tv), .val (.int ((u1 &&& (2147483647 : Int32)) % nn)), .unset, .unset, .unset, .unset, .unset, .unset, .unset, .unset, .unset, .unset, .unset, .unset] []))
      obtain ⟨iv, hiv⟩ : ∃ z, z = ((u1 &&& (2147483647 : Int32)) % nn) := ⟨_, rfl⟩
      rw [← hiv]
      show G (T266.setTop (mkF m 49 #[.val (.int u0), .val (.int u1), .val (.int u2), .val (.int u3), .val (.int u4), .val (.int nn), .val (.int ov), .val (.int tv), .val (.int iv), .unset, .unset, .unset, .unset, .unset, .unset, .unset, .unset, .unset, .unset, .unset, .unset] []))
      obtain ⟨iN, hi, hiN⟩ := own_rem hN h1N hiv
      refine go _ _ (fun t' k' => XS.iload X266.here hx rfl (hb hby at_49) rfl  k') ?_
      show G (T266.setTop (mkF m 51 #[.val (.int u0), .val (.int u1), .val (.int u2), .val (.int u3), .val (.int u4), .val (.int nn), .val (.int ov), .val (.int tv), .val (.int iv), .unset, .unset, .unset, .unset, .unset, .unset, .unset, .unset, .unset, .unset, .unset, .unset] [(.int iv)]))
      refine go _ _ (fun t' k' => XS.istore X266.here hx rfl (hb hby at_51) rfl (l' := #[.val (.int u0), .val (.int u1), .val (.int u2), .val (.int u3), .val (.int u4), .val (.int nn), .val (.int ov), .val (.int tv), .val (.int iv), .val (.int iv), .unset, .unset, .unset, .unset, .unset, .unset, .unset, .unset, .unset, .unset, .unset]) rfl k') ?_
      show G (T266.setTop (mkF m 53 #[.val (.int u0), .val (.int u1), .val (.int u2), .val (.int u3), .val (.int u4), .val (.int nn), .val (.int ov), .val (.int tv), .val (.int iv), .val (.int iv), .unset, .unset, .unset, .unset, .unset, .unset, .unset, .unset, .unset, .unset, .unset] []))
      refine go _ _ (fun t' k' => XS.iload X266.here hx rfl (hb hby at_53) rfl  k') ?_
      show G (T266.setTop (mkF m 55 #[.val (.int u0), .val (.int u1), .val (.int u2), .val (.int u3), .val (.int u4), .val (.int nn), .val (.int ov), .val (.int tv), .val (.int iv), .val (.int iv), .unset, .unset, .unset, .unset, .unset, .unset, .unset, .unset, .unset, .unset, .unset] [(.int tv)]))
      have J77 : ∀ (T : State) (locs : List Loc), Stand p l e room_1 s m #[(.int u0), (.int u1), (.int u2), (.int u3), (.int u4)] below meth c T locs 0 0 → T.heap = h0 → Fr n0 locs → ∀ (jv : Int32) (jN : Nat), (jv.toInt = jN) → ((tv = 0 ∧ jN = iN) ∨ (¬ tv = 0 ∧ 2 ≤ N ∧ jN < N ∧ jN ≠ iN)) → G (T.setTop (mkF m 77 #[.val (.int u0), .val (.int u1), .val (.int u2), .val (.int u3), .val (.int u4), .val (.int nn), .val (.int ov), .val (.int tv), .val (.int iv), .val (.int jv), .unset, .unset, .unset, .unset, .unset, .unset, .unset, .unset, .unset, .unset, .unset] [])) := by
        intro T267 locs267 X267 e267 N267j jv jN hj hjt
        show G (T267.setTop (mkF m 77 #[.val (.int u0), .val (.int u1), .val (.int u2), .val (.int u3), .val (.int u4), .val (.int nn), .val (.int ov), .val (.int tv), .val (.int iv), .val (.int jv), .unset, .unset, .unset, .unset, .unset, .unset, .unset, .unset, .unset, .unset, .unset] []))
        refine go _ _ (fun t' k' => XS.iload X267.here hx rfl (hb hby at_77) rfl  k') ?_
        show G (T267.setTop (mkF m 79 #[.val (.int u0), .val (.int u1), .val (.int u2), .val (.int u3), .val (.int u4), .val (.int nn), .val (.int ov), .val (.int tv), .val (.int iv), .val (.int jv), .unset, .unset, .unset, .unset, .unset, .unset, .unset, .unset, .unset, .unset, .unset] [(.int tv)]))
        have J89 : ∀ (T : State) (locs : List Loc), Stand p l e room_1 s m #[(.int u0), (.int u1), (.int u2), (.int u3), (.int u4)] below meth c T locs 0 0 → T.heap = h0 → Fr n0 locs → ∀ (lv : Int32), (lv.toInt = jN) → G (T.setTop (mkF m 89 #[.val (.int u0), .val (.int u1), .val (.int u2), .val (.int u3), .val (.int u4), .val (.int nn), .val (.int ov), .val (.int tv), .val (.int iv), .val (.int jv), .unset, .unset, .unset, .unset, .unset, .unset, .unset, .unset, .unset, .unset, .unset] [(.int lv)])) := by
          intro T268 locs268 X268 e268 N268j lv hlv
          show G (T268.setTop (mkF m 89 #[.val (.int u0), .val (.int u1), .val (.int u2), .val (.int u3), .val (.int u4), .val (.int nn), .val (.int ov), .val (.int tv), .val (.int iv), .val (.int jv), .unset, .unset, .unset, .unset, .unset, .unset, .unset, .unset, .unset, .unset, .unset] [(.int lv)]))
          refine go _ _ (fun t' k' => XS.istore X268.here hx rfl (hb hby at_89) rfl (l' := #[.val (.int u0), .val (.int u1), .val (.int u2), .val (.int u3), .val (.int u4), .val (.int nn), .val (.int ov), .val (.int tv), .val (.int iv), .val (.int jv), .val (.int lv), .unset, .unset, .unset, .unset, .unset, .unset, .unset, .unset, .unset, .unset]) rfl k') ?_
          show G (T268.setTop (mkF m 91 #[.val (.int u0), .val (.int u1), .val (.int u2), .val (.int u3), .val (.int u4), .val (.int nn), .val (.int ov), .val (.int tv), .val (.int iv), .val (.int jv), .val (.int lv), .unset, .unset, .unset, .unset, .unset, .unset, .unset, .unset, .unset, .unset] []))
          refine go _ _ (fun t' k' => XS.iload X268.here hx rfl (hb hby at_91) rfl  k') ?_
          show G (T268.setTop (mkF m 93 #[.val (.int u0), .val (.int u1), .val (.int u2), .val (.int u3), .val (.int u4), .val (.int nn), .val (.int ov), .val (.int tv), .val (.int iv), .val (.int jv), .val (.int lv), .unset, .unset, .unset, .unset, .unset, .unset, .unset, .unset, .unset, .unset] [(.int tv)]))
          have J101 : ∀ (T : State) (locs : List Loc), Stand p l e room_1 s m #[(.int u0), (.int u1), (.int u2), (.int u3), (.int u4)] below meth c T locs 0 0 → T.heap = h0 → Fr n0 locs → ∀ (cv : Int32), ((tv = 0 ∧ cv = 1) ∨ (¬ tv = 0 ∧ cv = 2)) → G (T.setTop (mkF m 101 #[.val (.int u0), .val (.int u1), .val (.int u2), .val (.int u3), .val (.int u4), .val (.int nn), .val (.int ov), .val (.int tv), .val (.int iv), .val (.int jv), .val (.int lv), .unset, .unset, .unset, .unset, .unset, .unset, .unset, .unset, .unset, .unset] [(.int cv)])) := by
            intro T269 locs269 X269 e269 N269j cv hcv
            show G (T269.setTop (mkF m 101 #[.val (.int u0), .val (.int u1), .val (.int u2), .val (.int u3), .val (.int u4), .val (.int nn), .val (.int ov), .val (.int tv), .val (.int iv), .val (.int jv), .val (.int lv), .unset, .unset, .unset, .unset, .unset, .unset, .unset, .unset, .unset, .unset] [(.int cv)]))
            refine go _ _ (fun t' k' => XS.istore X269.here hx rfl (hb hby at_101) rfl (l' := #[.val (.int u0), .val (.int u1), .val (.int u2), .val (.int u3), .val (.int u4), .val (.int nn), .val (.int ov), .val (.int tv), .val (.int iv), .val (.int jv), .val (.int lv), .val (.int cv), .unset, .unset, .unset, .unset, .unset, .unset, .unset, .unset, .unset]) rfl k') ?_
            show G (T269.setTop (mkF m 103 #[.val (.int u0), .val (.int u1), .val (.int u2), .val (.int u3), .val (.int u4), .val (.int nn), .val (.int ov), .val (.int tv), .val (.int iv), .val (.int jv), .val (.int lv), .val (.int cv), .unset, .unset, .unset, .unset, .unset, .unset, .unset, .unset, .unset] []))
            refine go _ _ (fun t' k' => XS.iloadN X269.here hx rfl (hb hby at_103) rfl  k') ?_
            show G (T269.setTop (mkF m 104 #[.val (.int u0), .val (.int u1), .val (.int u2), .val (.int u3), .val (.int u4), .val (.int nn), .val (.int ov), .val (.int tv), .val (.int iv), .val (.int jv), .val (.int lv), .val (.int cv), .unset, .unset, .unset, .unset, .unset, .unset, .unset, .unset, .unset] [(.int u3)]))
            refine go _ _ (fun t' k' => X269.ldcInt hx hown (mvT hZ (hw _ (List.mem_of_getElem? (i := 0) rfl))) (g := (mkF m 104 #[.val (.int u0), .val (.int u1), .val (.int u2), .val (.int u3), .val (.int u4), .val (.int nn), .val (.int ov), .val (.int tv), .val (.int iv), .val (.int jv), .val (.int lv), .val (.int cv), .unset, .unset, .unset, .unset, .unset, .unset, .unset, .unset, .unset] [(.int u3)])) rfl (hb hby at_104) _ k') ?_
            show G (T269.setTop (mkF m 106 #[.val (.int u0), .val (.int u1), .val (.int u2), .val (.int u3), .val (.int u4), .val (.int nn), .val (.int ov), .val (.int tv), .val (.int iv), .val (.int jv), .val (.int lv), .val (.int cv), .unset, .unset, .unset, .unset, .unset, .unset, .unset, .unset, .unset] [(.int (2147483647 : Int32)), (.int u3)]))
            refine go _ _ (fun t' k' => XS.iand X269.here hx rfl (hb hby at_106) rfl k') ?_
            show G (T269.setTop (mkF m 107 #[.val (.int u0), .val (.int u1), .val (.int u2), .val (.int u3), .val (.int u4), .val (.int nn), .val (.int ov), .val (.int tv), .val (.int iv), .val (.int jv), .val (.int lv), .val (.int cv), .unset, .unset, .unset, .unset, .unset, .unset, .unset, .unset, .unset] [(.int (u3 &&& (2147483647 : Int32)))]))
            refine go _ _ (fun t' k' => XS.iload X269.here hx rfl (hb hby at_107) rfl  k') ?_
            show G (T269.setTop (mkF m 109 #[.val (.int u0), .val (.int u1), .val (.int u2), .val (.int u3), .val (.int u4), .val (.int nn), .val (.int ov), .val (.int tv), .val (.int iv), .val (.int jv), .val (.int lv), .val (.int cv), .unset, .unset, .unset, .unset, .unset, .unset, .unset, .unset, .unset] [(.int nn), (.int (u3 &&& (2147483647 : Int32)))]))
            refine go _ _ (fun t' k' => iremM X269 hx rfl (hb hby at_109) rfl (own_nz hN h1N) k') ?_
            show G (T269.setTop (mkF m 110 #[.val (.int u0), .val (.int u1), .val (.int u2), .val (.int u3), .val (.int u4), .val (.int nn), .val (.int ov), .val (.int tv), .val (.int iv), .val (.int jv), .val (.int lv), .val (.int cv), .unset, .unset, .unset, .unset, .unset, .unset, .unset, .unset, .unset] [(.int ((u3 &&& (2147483647 : Int32)) % nn))]))
            refine go _ _ (fun t' k' => XS.istore X269.here hx rfl (hb hby at_110) rfl (l' := #[.val (.int u0), .val (.int u1), .val (.int u2), .val (.int u3), .val (.int u4), .val (.int nn), .val (.int ov), .val (.int tv), .val (.int iv), .val (.int jv), .val (.int lv), .val (.int cv), .val (.int ((u3 &&& (2147483647 : Int32)) % nn)), .unset, .unset, .unset, .unset, .unset, .unset, .unset, .unset]) rfl k') ?_
            show G (T269.setTop (mkF m 112 #[.val (.int u0), .val (.int u1), .val (.int u2), .val (.int u3), .val (.int u4), .val (.int nn), .val (.int ov), .val (.int tv), .val (.int iv), .val (.int jv), .val (.int lv), .val (.int cv), .val (.int ((u3 &&& (2147483647 : Int32)) % nn)), .unset, .unset, .unset, .unset, .unset, .unset, .unset, .unset] []))
            obtain ⟨kv, hkv⟩ : ∃ z, z = ((u3 &&& (2147483647 : Int32)) % nn) := ⟨_, rfl⟩
            rw [← hkv]
            show G (T269.setTop (mkF m 112 #[.val (.int u0), .val (.int u1), .val (.int u2), .val (.int u3), .val (.int u4), .val (.int nn), .val (.int ov), .val (.int tv), .val (.int iv), .val (.int jv), .val (.int lv), .val (.int cv), .val (.int kv), .unset, .unset, .unset, .unset, .unset, .unset, .unset, .unset] []))
            obtain ⟨kN, hk, hkN⟩ := own_rem hN h1N hkv
            have hjN : jN < N := by rcases hjt with ⟨_, z⟩ | ⟨_, _, z, _⟩ <;> omega
            obtain ⟨T270, h270, X270, e270, E270, A270, D270, -, st270⟩ := newO X269 hx hZ hown (hw _ (List.mem_of_getElem? (i := 1) rfl)) (hw _ (List.mem_of_getElem? (i := 2) rfl)) (hw _ (List.mem_of_getElem? (i := 3) rfl)) e269 (g := (mkF m 112 #[.val (.int u0), .val (.int u1), .val (.int u2), .val (.int u3), .val (.int u4), .val (.int nn), .val (.int ov), .val (.int tv), .val (.int iv), .val (.int jv), .val (.int lv), .val (.int cv), .val (.int kv), .unset, .unset, .unset, .unset, .unset, .unset, .unset, .unset] [])) rfl (hb hby at_112) (by decide) (by decide)
            obtain ⟨b270, g270⟩ : ∃ z, z = h0.size := ⟨_, rfl⟩
            rw [← g270] at A270 D270 st270
            have ne271 : rd ≠ b270 := Nat.ne_of_lt (by rw [g270]; exact Ad.lt)
            have g_b270 : n0 ≤ b270 := Nat.le_trans Z0 (Nat.le_of_eq g270.symm)
            have sz_b270 : h0.size ≤ b270 := Nat.le_of_eq g270.symm
            have Z272 : n0 ≤ h270.size := Nat.le_trans Z0 E270.1
            have K273 : Keep h0 h270 [] := (Keep.refl h0 []).ext E270
            have F274 : Fld Z h270 b270 "java/util/AbstractList" "modCount" "I" (.int (0 : Int32)) := D270 (Or.inl (hw _ (List.mem_of_getElem? (i := 23) rfl))) (ty := .int) (by decide)
            have F275 : Fld Z h270 b270 "java/util/ArrayList" "elementData" "[Ljava/lang/Object;" .null := D270 (Or.inl (hw _ (List.mem_of_getElem? (i := 26) rfl))) (ty := (.array (.object "java/lang/Object"))) (by decide)
            have F276 : Fld Z h270 b270 "java/util/ArrayList" "size" "I" (.int (0 : Int32)) := D270 (Or.inl (hw _ (List.mem_of_getElem? (i := 35) rfl))) (ty := .int) (by decide)
            refine go _ _ st270 ?_
            show G (T270.setTop (mkF m 115 #[.val (.int u0), .val (.int u1), .val (.int u2), .val (.int u3), .val (.int u4), .val (.int nn), .val (.int ov), .val (.int tv), .val (.int iv), .val (.int jv), .val (.int lv), .val (.int cv), .val (.int kv), .unset, .unset, .unset, .unset, .unset, .unset, .unset, .unset] [(.ref b270)]))
            refine go _ _ (fun t' k' => XS.dup X270.here hx rfl (hb hby at_115) rfl rfl k') ?_
            show G (T270.setTop (mkF m 116 #[.val (.int u0), .val (.int u1), .val (.int u2), .val (.int u3), .val (.int u4), .val (.int nn), .val (.int ov), .val (.int tv), .val (.int iv), .val (.int jv), .val (.int lv), .val (.int cv), .val (.int kv), .unset, .unset, .unset, .unset, .unset, .unset, .unset, .unset] [(.ref b270), (.ref b270)]))
            have f277 := (Sd.ext E270)
            refine own_init go X270 hx hZ e270 rfl hown (hw _ (List.mem_of_getElem? (i := 4) rfl)) (hw _ (List.mem_of_getElem? (i := 5) rfl)) (hw _ (List.mem_of_getElem? (i := 3) rfl)) (hw _ (List.mem_of_getElem? (i := 6) rfl)) (by decide) (rm_ai l Z a0 hw b270 rd h270 n0 Z272 g_b270 f277 A270 F275 F276 F274) 1 (by decide) (by decide) (by decide) (by decide) (g := (mkF m 116 #[.val (.int u0), .val (.int u1), .val (.int u2), .val (.int u3), .val (.int u4), .val (.int nn), .val (.int ov), .val (.int tv), .val (.int iv), .val (.int jv), .val (.int lv), .val (.int cv), .val (.int kv), .unset, .unset, .unset, .unset, .unset, .unset, .unset, .unset] [(.ref b270), (.ref b270)])) rfl (by rw [hml]; rfl) b270 [] [(.ref b270)] rfl (lenOf pd_0 rfl) rfl (by show 2 * 0 + _ ≤ _; exact Nat.le_of_eq rfl) (hb hby at_116) ?_
            intro T278 L278 v278 X278 q278
            obtain ⟨rfl, N278, K278, Fa278, Fb278, Fc278⟩ := q278
            have ns279 : ∀ w ∈ [b270], ∃ c : Cell, h270[w]? = some c ∧ c.vm.isStatics = false := (allS (own_exa_ns A270) all0)
            obtain ⟨lc278, X278h, N278h⟩ := own_hide X278 (Fr.app N269j N278)
            have K280 : Keep h0 T278.heap [] := K273.trans K278 (allS (Or.inr sz_b270) all0)
            have Z281 : n0 ≤ T278.heap.size := Nat.le_trans Z272 K278.1
            show G (T278.setTop (mkF m 119 #[.val (.int u0), .val (.int u1), .val (.int u2), .val (.int u3), .val (.int u4), .val (.int nn), .val (.int ov), .val (.int tv), .val (.int iv), .val (.int jv), .val (.int lv), .val (.int cv), .val (.int kv), .unset, .unset, .unset, .unset, .unset, .unset, .unset, .unset] [(.ref b270)]))
            refine go _ _ (fun t' k' => XS.astore X278h.here hx rfl (hb hby at_119) rfl rfl (l' := #[.val (.int u0), .val (.int u1), .val (.int u2), .val (.int u3), .val (.int u4), .val (.int nn), .val (.int ov), .val (.int tv), .val (.int iv), .val (.int jv), .val (.int lv), .val (.int cv), .val (.int kv), .val (.ref b270), .unset, .unset, .unset, .unset, .unset, .unset, .unset]) rfl k') ?_
            show G (T278.setTop (mkF m 121 #[.val (.int u0), .val (.int u1), .val (.int u2), .val (.int u3), .val (.int u4), .val (.int nn), .val (.int ov), .val (.int tv), .val (.int iv), .val (.int jv), .val (.int lv), .val (.int cv), .val (.int kv), .val (.ref b270), .unset, .unset, .unset, .unset, .unset, .unset, .unset] []))
            refine go _ _ (fun t' k' => XS.aload X278h.here hx rfl (hb hby at_121) rfl rfl  k') ?_
            show G (T278.setTop (mkF m 123 #[.val (.int u0), .val (.int u1), .val (.int u2), .val (.int u3), .val (.int u4), .val (.int nn), .val (.int ov), .val (.int tv), .val (.int iv), .val (.int jv), .val (.int lv), .val (.int cv), .val (.int kv), .val (.ref b270), .unset, .unset, .unset, .unset, .unset, .unset, .unset] [(.ref b270)]))
            refine go _ _ (fun t' k' => XS.aconstNull X278h.here hx rfl (hb hby at_123) k') ?_
            show G (T278.setTop (mkF m 124 #[.val (.int u0), .val (.int u1), .val (.int u2), .val (.int u3), .val (.int u4), .val (.int nn), .val (.int ov), .val (.int tv), .val (.int iv), .val (.int jv), .val (.int lv), .val (.int cv), .val (.int kv), .val (.ref b270), .unset, .unset, .unset, .unset, .unset, .unset, .unset] [.null, (.ref b270)]))
            have f282 := (own_sta_keep f277 K278 ns279)
            have f283 := (A270.keep K278)
            have f284 := ((Ad.ext E270).keep K278 (ninS ne271 nin0))
            refine own_virtual go X278h hx hZ rfl hown (hw _ (List.mem_of_getElem? (i := 27) rfl)) (hw _ (List.mem_of_getElem? (i := 28) rfl)) (notFace_of_selects (args := #[]) (mvT hZ (hw _ (List.mem_of_getElem? (i := 30) rfl)))) (hw _ (List.mem_of_getElem? (i := 30) rfl)) (hw _ (List.mem_of_getElem? (i := 29) rfl)) (hw _ (List.mem_of_getElem? (i := 3) rfl)) (hw _ (List.mem_of_getElem? (i := 31) rfl)) (by decide) (rm_f1 l Z a0 hw b270 rd f (0 : Int32) T278.heap n0 Z281 g_b270 f282 f283 Fa278 Fb278 Fc278 f284 ne271) 0 (by decide) (by decide) (by decide) (by decide) f283 (g := (mkF m 124 #[.val (.int u0), .val (.int u1), .val (.int u2), .val (.int u3), .val (.int u4), .val (.int nn), .val (.int ov), .val (.int tv), .val (.int iv), .val (.int jv), .val (.int lv), .val (.int cv), .val (.int kv), .val (.ref b270), .unset, .unset, .unset, .unset, .unset, .unset, .unset] [.null, (.ref b270)])) rfl (by rw [hml]; rfl) [.null] [] rfl (lenOf pd_6 rfl) rfl (by show 2 * 0 + _ ≤ _; exact Nat.le_of_eq rfl) (hb hby at_124) ?_
            intro T285 L285 v285 X285 q285
            obtain ⟨rfl, N285, K285, el285, Fa285, Fb285, Fc285, ⟨f285, Ae285⟩, g_el285, o285, ne285⟩ := q285
            have sz_el285 : h0.size ≤ el285 := Nat.le_trans K280.1 o285
            have ns286 : ∀ w ∈ [b270], ∃ c : Cell, T278.heap[w]? = some c ∧ c.vm.isStatics = false := (allS (own_exa_ns f283) all0)
            obtain ⟨lc285, X285h, N285h⟩ := own_hide X285 (Fr.app N278h N285)
            have K287 : Keep h0 T285.heap [] := K280.trans K285 (allS (Or.inr sz_b270) all0)
            have Z288 : n0 ≤ T285.heap.size := Nat.le_trans Z281 K285.1
            show G (T285.setTop (mkF m 127 #[.val (.int u0), .val (.int u1), .val (.int u2), .val (.int u3), .val (.int u4), .val (.int nn), .val (.int ov), .val (.int tv), .val (.int iv), .val (.int jv), .val (.int lv), .val (.int cv), .val (.int kv), .val (.ref b270), .unset, .unset, .unset, .unset, .unset, .unset, .unset] [(.int (1 : Int32))]))
            refine go _ _ (fun t' k' => XS.pop X285h.here hx rfl (hb hby at_127) rfl rfl k') ?_
            show G (T285.setTop (mkF m 128 #[.val (.int u0), .val (.int u1), .val (.int u2), .val (.int u3), .val (.int u4), .val (.int nn), .val (.int ov), .val (.int tv), .val (.int iv), .val (.int jv), .val (.int lv), .val (.int cv), .val (.int kv), .val (.ref b270), .unset, .unset, .unset, .unset, .unset, .unset, .unset] []))
            have J167 : ∀ (T : State) (lc : List Loc) (h : Heap), Stand p l e room_1 s m #[(.int u0), (.int u1), (.int u2), (.int u3), (.int u4)] below meth c T lc 2 13 → T.heap = h → Fr n0 lc → Keep h0 h [] → n0 ≤ h.size → Exa Z h b270 "java/util/ArrayList" → Fld Z h b270 "java/util/ArrayList" "size" "I" (.int nn) → G (T.setTop (mkF m 167 #[.val (.int u0), .val (.int u1), .val (.int u2), .val (.int u3), .val (.int u4), .val (.int nn), .val (.int ov), .val (.int tv), .val (.int iv), .val (.int jv), .val (.int lv), .val (.int cv), .val (.int kv), .val (.ref b270), .unset, .unset, .unset, .unset, .unset, .unset, .unset] [])) := by
              intro T289 lc289 h289 X289 e289 N289 K289 Z289   f289_0 f289_1
              show G (T289.setTop (mkF m 167 #[.val (.int u0), .val (.int u1), .val (.int u2), .val (.int u3), .val (.int u4), .val (.int nn), .val (.int ov), .val (.int tv), .val (.int iv), .val (.int jv), .val (.int lv), .val (.int cv), .val (.int kv), .val (.ref b270), .unset, .unset, .unset, .unset, .unset, .unset, .unset] []))
              obtain ⟨T290, h290, X290, e290, E290, A290, D290, -, st290⟩ := newO X289 hx hZ hown (hw _ (List.mem_of_getElem? (i := 57) rfl)) (hw _ (List.mem_of_getElem? (i := 58) rfl)) (hw _ (List.mem_of_getElem? (i := 59) rfl)) e289 (g := (mkF m 167 #[.val (.int u0), .val (.int u1), .val (.int u2), .val (.int u3), .val (.int u4), .val (.int nn), .val (.int ov), .val (.int tv), .val (.int iv), .val (.int jv), .val (.int lv), .val (.int cv), .val (.int kv), .val (.ref b270), .unset, .unset, .unset, .unset, .unset, .unset, .unset] [])) rfl (hb hby at_167) (by decide) (by decide)
              obtain ⟨b290, g290⟩ : ∃ z, z = h289.size := ⟨_, rfl⟩
              rw [← g290] at A290 D290 st290
              have ne291 : b270 ≠ b290 := Nat.ne_of_lt (by rw [g290]; exact f289_0.lt)
              have g_b290 : n0 ≤ b290 := Nat.le_trans Z289 (Nat.le_of_eq g290.symm)
              have sz_b290 : h0.size ≤ b290 := Nat.le_trans K289.1 (Nat.le_of_eq g290.symm)
              have Z292 : n0 ≤ h290.size := Nat.le_trans Z289 E290.1
              have K293 : Keep h0 h290 [] := K289.ext E290
              have F294 : Fld Z h290 b290 "com/example/clearbrace/clearbrace/gser/ComponentOrder" "_components" "Ljava/util/List;" .null := D290 (Or.inr (hw _ (List.mem_of_getElem? (i := 65) rfl))) (ty := (.object "java/util/List")) (by decide)
              have F295 : Fld Z h290 b290 "com/example/clearbrace/clearbrace/gser/ComponentOrder" "_ordered" "Z" (.int (0 : Int32)) := D290 (Or.inr (hw _ (List.mem_of_getElem? (i := 67) rfl))) (ty := .boolean) (by decide)
              have F296 : Fld Z h290 b290 "com/example/clearbrace/clearbrace/gser/ComponentOrder" "_given" "[Z" .null := D290 (Or.inr (hw _ (List.mem_of_getElem? (i := 79) rfl))) (ty := (.array .boolean)) (by decide)
              have F297 : Fld Z h290 b290 "com/example/clearbrace/clearbrace/gser/ComponentOrder" "_count" "I" (.int (0 : Int32)) := D290 (Or.inl (hw _ (List.mem_of_getElem? (i := 91) rfl))) (ty := .int) (by decide)
              have F298 : Fld Z h290 b290 "com/example/clearbrace/clearbrace/gser/ComponentOrder" "_next" "I" (.int (0 : Int32)) := D290 (Or.inl (hw _ (List.mem_of_getElem? (i := 93) rfl))) (ty := .int) (by decide)
              refine go _ _ st290 ?_
              show G (T290.setTop (mkF m 170 #[.val (.int u0), .val (.int u1), .val (.int u2), .val (.int u3), .val (.int u4), .val (.int nn), .val (.int ov), .val (.int tv), .val (.int iv), .val (.int jv), .val (.int lv), .val (.int cv), .val (.int kv), .val (.ref b270), .unset, .unset, .unset, .unset, .unset, .unset, .unset] [(.ref b290)]))
              refine go _ _ (fun t' k' => XS.dup X290.here hx rfl (hb hby at_170) rfl rfl k') ?_
              show G (T290.setTop (mkF m 171 #[.val (.int u0), .val (.int u1), .val (.int u2), .val (.int u3), .val (.int u4), .val (.int nn), .val (.int ov), .val (.int tv), .val (.int iv), .val (.int jv), .val (.int lv), .val (.int cv), .val (.int kv), .val (.ref b270), .unset, .unset, .unset, .unset, .unset, .unset, .unset] [(.ref b290), (.ref b290)]))
              refine go _ _ (fun t' k' => XS.aload X290.here hx rfl (hb hby at_171) rfl rfl  k') ?_
              show G (T290.setTop (mkF m 173 #[.val (.int u0), .val (.int u1), .val (.int u2), .val (.int u3), .val (.int u4), .val (.int nn), .val (.int ov), .val (.int tv), .val (.int iv), .val (.int jv), .val (.int lv), .val (.int cv), .val (.int kv), .val (.ref b270), .unset, .unset, .unset, .unset, .unset, .unset, .unset] [(.ref b270), (.ref b290), (.ref b290)]))
              refine go _ _ (fun t' k' => XS.iload X290.here hx rfl (hb hby at_173) rfl  k') ?_
              show G (T290.setTop (mkF m 175 #[.val (.int u0), .val (.int u1), .val (.int u2), .val (.int u3), .val (.int u4), .val (.int nn), .val (.int ov), .val (.int tv), .val (.int iv), .val (.int jv), .val (.int lv), .val (.int cv), .val (.int kv), .val (.ref b270), .unset, .unset, .unset, .unset, .unset, .unset, .unset] [(.int ov), (.ref b270), (.ref b290), (.ref b290)]))
              have f299 := (f289_0.ext E290)
              have f300 := (f289_1.ext E290)
              refine own_init go X290 hx hZ e290 rfl hown (hw _ (List.mem_of_getElem? (i := 60) rfl)) (hw _ (List.mem_of_getElem? (i := 61) rfl)) (hw _ (List.mem_of_getElem? (i := 59) rfl)) (hw _ (List.mem_of_getElem? (i := 62) rfl)) (by decide) (rm_ci l Z a0 hw b290 b270 ov nn N h290 n0 Z292 g_b290 hov hN hN4 f299 f300 ne291 A290 F294 F295 F296 F297 F298) 1 (by decide) (by decide) (by decide) (by decide) (g := (mkF m 175 #[.val (.int u0), .val (.int u1), .val (.int u2), .val (.int u3), .val (.int u4), .val (.int nn), .val (.int ov), .val (.int tv), .val (.int iv), .val (.int jv), .val (.int lv), .val (.int cv), .val (.int kv), .val (.ref b270), .unset, .unset, .unset, .unset, .unset, .unset, .unset] [(.int ov), (.ref b270), (.ref b290), (.ref b290)])) rfl (by rw [hml]; rfl) b290 [(.ref b270), (.int ov)] [(.ref b290)] rfl (lenOf pd_7 rfl) rfl (by show 2 * 0 + _ ≤ _; exact Nat.le_of_eq rfl) (hb hby at_175) ?_
              intro T301 L301 v301 X301 q301
              obtain ⟨rfl, N301, K301, gv, Ca301, Cb301, Cc301, Cd301, Ce301, Ag301, g_gv, sz_q, ngv⟩ := q301
              have sz_gv : h0.size ≤ gv := Nat.le_trans K293.1 sz_q
              have nlg : b270 ≠ gv := Nat.ne_of_lt (Nat.lt_of_lt_of_le f299.lt sz_q)
              obtain ⟨lc301, X301h, N301h⟩ := own_hide X301 (Fr.app N289 N301)
              have K302 : Keep h0 T301.heap [] := K293.trans K301 (allS (Or.inr sz_b290) all0)
              have Z303 : n0 ≤ T301.heap.size := Nat.le_trans Z292 K301.1
              show G (T301.setTop (mkF m 178 #[.val (.int u0), .val (.int u1), .val (.int u2), .val (.int u3), .val (.int u4), .val (.int nn), .val (.int ov), .val (.int tv), .val (.int iv), .val (.int jv), .val (.int lv), .val (.int cv), .val (.int kv), .val (.ref b270), .unset, .unset, .unset, .unset, .unset, .unset, .unset] [(.ref b290)]))
              refine go _ _ (fun t' k' => XS.astore X301h.here hx rfl (hb hby at_178) rfl rfl (l' := #[.val (.int u0), .val (.int u1), .val (.int u2), .val (.int u3), .val (.int u4), .val (.int nn), .val (.int ov), .val (.int tv), .val (.int iv), .val (.int jv), .val (.int lv), .val (.int cv), .val (.int kv), .val (.ref b270), .val (.ref b290), .unset, .unset, .unset, .unset, .unset, .unset]) rfl k') ?_
              show G (T301.setTop (mkF m 180 #[.val (.int u0), .val (.int u1), .val (.int u2), .val (.int u3), .val (.int u4), .val (.int nn), .val (.int ov), .val (.int tv), .val (.int iv), .val (.int jv), .val (.int lv), .val (.int cv), .val (.int kv), .val (.ref b270), .val (.ref b290), .unset, .unset, .unset, .unset, .unset, .unset] []))
              refine go _ _ (fun t' k' => XS.aload X301h.here hx rfl (hb hby at_180) rfl rfl  k') ?_
              show G (T301.setTop (mkF m 182 #[.val (.int u0), .val (.int u1), .val (.int u2), .val (.int u3), .val (.int u4), .val (.int nn), .val (.int ov), .val (.int tv), .val (.int iv), .val (.int jv), .val (.int lv), .val (.int cv), .val (.int kv), .val (.ref b270), .val (.ref b290), .unset, .unset, .unset, .unset, .unset, .unset] [(.ref b290)]))
              refine go _ _ (fun t' k' => XS.iload X301h.here hx rfl (hb hby at_182) rfl  k') ?_
              show G (T301.setTop (mkF m 184 #[.val (.int u0), .val (.int u1), .val (.int u2), .val (.int u3), .val (.int u4), .val (.int nn), .val (.int ov), .val (.int tv), .val (.int iv), .val (.int jv), .val (.int lv), .val (.int cv), .val (.int kv), .val (.ref b270), .val (.ref b290), .unset, .unset, .unset, .unset, .unset, .unset] [(.int kv), (.ref b290)]))
              have f305 := (A290.keep K301)
              refine own_virtual go X301h hx hZ rfl hown (hw _ (List.mem_of_getElem? (i := 80) rfl)) (hw _ (List.mem_of_getElem? (i := 81) rfl)) (notFace_of_selects (args := #[]) (mvT hZ (hw _ (List.mem_of_getElem? (i := 83) rfl)))) (hw _ (List.mem_of_getElem? (i := 83) rfl)) (hw _ (List.mem_of_getElem? (i := 82) rfl)) (hw _ (List.mem_of_getElem? (i := 59) rfl)) (hw _ (List.mem_of_getElem? (i := 84) rfl)) (by decide) (rm_ig l Z a0 hw b290 kv gv (fun _ => false) N kN T301.heap n0 Z303 Cc301 Ag301 hk hkN) 0 (by decide) (by decide) (by decide) (by decide) f305 (g := (mkF m 184 #[.val (.int u0), .val (.int u1), .val (.int u2), .val (.int u3), .val (.int u4), .val (.int nn), .val (.int ov), .val (.int tv), .val (.int iv), .val (.int jv), .val (.int lv), .val (.int cv), .val (.int kv), .val (.ref b270), .val (.ref b290), .unset, .unset, .unset, .unset, .unset, .unset] [(.int kv), (.ref b290)])) rfl (by rw [hml]; rfl) [(.int kv)] [] rfl (lenOf pd_8 rfl) rfl (by show 2 * 0 + _ ≤ _; exact Nat.le_of_eq rfl) (hb hby at_184) ?_
              intro T304 L304 v304 X304 q304
              obtain ⟨rfl, N304, hh304⟩ := q304
              obtain ⟨lc304, X304h, N304h⟩ := own_hide X304 (Fr.app N301h N304)
              show G (T304.setTop (mkF m 187 #[.val (.int u0), .val (.int u1), .val (.int u2), .val (.int u3), .val (.int u4), .val (.int nn), .val (.int ov), .val (.int tv), .val (.int iv), .val (.int jv), .val (.int lv), .val (.int cv), .val (.int kv), .val (.ref b270), .val (.ref b290), .unset, .unset, .unset, .unset, .unset, .unset] [(.int (0 : Int32))]))
              refine go _ _ (fun t' k' => XS.ifNo X304h.here hx rfl (hb hby at_187) rfl (Free.XT.i0_ne_f (by decide)) k') ?_
              show G (T304.setTop (mkF m 190 #[.val (.int u0), .val (.int u1), .val (.int u2), .val (.int u3), .val (.int u4), .val (.int nn), .val (.int ov), .val (.int tv), .val (.int iv), .val (.int jv), .val (.int lv), .val (.int cv), .val (.int kv), .val (.ref b270), .val (.ref b290), .unset, .unset, .unset, .unset, .unset, .unset] []))
              refine go _ _ (fun t' k' => XS.iconst X304h.here hx rfl (hb hby at_190) k') ?_
              show G (T304.setTop (mkF m 191 #[.val (.int u0), .val (.int u1), .val (.int u2), .val (.int u3), .val (.int u4), .val (.int nn), .val (.int ov), .val (.int tv), .val (.int iv), .val (.int jv), .val (.int lv), .val (.int cv), .val (.int kv), .val (.ref b270), .val (.ref b290), .unset, .unset, .unset, .unset, .unset, .unset] [(.int (1 : Int32))]))
              refine go _ _ (fun t' k' => XS.goto X304h.here hx rfl (pc0 := 191) (pc' := 195) rfl (hb hby at_191) (by decide) (by decide) k') ?_
              show G (T304.setTop (mkF m 195 #[.val (.int u0), .val (.int u1), .val (.int u2), .val (.int u3), .val (.int u4), .val (.int nn), .val (.int ov), .val (.int tv), .val (.int iv), .val (.int jv), .val (.int lv), .val (.int cv), .val (.int kv), .val (.ref b270), .val (.ref b290), .unset, .unset, .unset, .unset, .unset, .unset] [(.int (1 : Int32))]))
              refine go _ _ (fun t' k' => XS.istore X304h.here hx rfl (hb hby at_195) rfl (l' := #[.val (.int u0), .val (.int u1), .val (.int u2), .val (.int u3), .val (.int u4), .val (.int nn), .val (.int ov), .val (.int tv), .val (.int iv), .val (.int jv), .val (.int lv), .val (.int cv), .val (.int kv), .val (.ref b270), .val (.ref b290), .val (.int (1 : Int32)), .unset, .unset, .unset, .unset, .unset]) rfl k') ?_
              show G (T304.setTop (mkF m 197 #[.val (.int u0), .val (.int u1), .val (.int u2), .val (.int u3), .val (.int u4), .val (.int nn), .val (.int ov), .val (.int tv), .val (.int iv), .val (.int jv), .val (.int lv), .val (.int cv), .val (.int kv), .val (.ref b270), .val (.ref b290), .val (.int (1 : Int32)), .unset, .unset, .unset, .unset, .unset] []))
              refine go _ _ (fun t' k' => XS.aload X304h.here hx rfl (hb hby at_197) rfl rfl  k') ?_
              show G (T304.setTop (mkF m 199 #[.val (.int u0), .val (.int u1), .val (.int u2), .val (.int u3), .val (.int u4), .val (.int nn), .val (.int ov), .val (.int tv), .val (.int iv), .val (.int jv), .val (.int lv), .val (.int cv), .val (.int kv), .val (.ref b270), .val (.ref b290), .val (.int (1 : Int32)), .unset, .unset, .unset, .unset, .unset] [(.ref b290)]))
              refine go _ _ (fun t' k' => XS.iload X304h.here hx rfl (hb hby at_199) rfl  k') ?_
              show G (T304.setTop (mkF m 201 #[.val (.int u0), .val (.int u1), .val (.int u2), .val (.int u3), .val (.int u4), .val (.int nn), .val (.int ov), .val (.int tv), .val (.int iv), .val (.int jv), .val (.int lv), .val (.int cv), .val (.int kv), .val (.ref b270), .val (.ref b290), .val (.int (1 : Int32)), .unset, .unset, .unset, .unset, .unset] [(.int iv), (.ref b290)]))
              refine own_virtual go X304h hx hZ hh304 hown (hw _ (List.mem_of_getElem? (i := 85) rfl)) (hw _ (List.mem_of_getElem? (i := 86) rfl)) (notFace_of_selects (args := #[]) (mvT hZ (hw _ (List.mem_of_getElem? (i := 88) rfl)))) (hw _ (List.mem_of_getElem? (i := 88) rfl)) (hw _ (List.mem_of_getElem? (i := 87) rfl)) (hw _ (List.mem_of_getElem? (i := 59) rfl)) (hw _ (List.mem_of_getElem? (i := 89) rfl)) (by decide) (rm_gi l Z a0 hw b290 iv gv (fun _ => false) N iN b270 ov (0 : Int32) (0 : Int32) T301.heap n0 Z303 g_b290 g_gv ngv f305 Ca301 Cb301 Cc301 Cd301 Ce301 Ag301 hi hiN) 0 (by decide) (by decide) (by decide) (by decide) f305 (g := (mkF m 201 #[.val (.int u0), .val (.int u1), .val (.int u2), .val (.int u3), .val (.int u4), .val (.int nn), .val (.int ov), .val (.int tv), .val (.int iv), .val (.int jv), .val (.int lv), .val (.int cv), .val (.int kv), .val (.ref b270), .val (.ref b290), .val (.int (1 : Int32)), .unset, .unset, .unset, .unset, .unset] [(.int iv), (.ref b290)])) rfl (by rw [hml]; rfl) [(.int iv)] [] rfl (lenOf pd_9 rfl) rfl (by show 2 * 0 + _ ≤ _; exact Nat.le_of_eq rfl) (hb hby at_201) ?_
              intro T306 L306 v306 X306 q306
              obtain ⟨rfl, N306, K306, Ca306, Cb306, Cc306, Cd306, Ce306, Ag306⟩ := q306
              obtain ⟨lc306, X306h, N306h⟩ := own_hide X306 (Fr.app N304h N306)
              have K307 : Keep h0 T306.heap [] := K302.trans K306 (allS (Or.inr sz_b290) (allS (Or.inr sz_gv) all0))
              have Z308 : n0 ≤ T306.heap.size := Nat.le_trans Z303 K306.1
              show G (T306.setTop (mkF m 204 #[.val (.int u0), .val (.int u1), .val (.int u2), .val (.int u3), .val (.int u4), .val (.int nn), .val (.int ov), .val (.int tv), .val (.int iv), .val (.int jv), .val (.int lv), .val (.int cv), .val (.int kv), .val (.ref b270), .val (.ref b290), .val (.int (1 : Int32)), .unset, .unset, .unset, .unset, .unset] []))
              refine go _ _ (fun t' k' => XS.iload X306h.here hx rfl (hb hby at_204) rfl  k') ?_
              show G (T306.setTop (mkF m 206 #[.val (.int u0), .val (.int u1), .val (.int u2), .val (.int u3), .val (.int u4), .val (.int nn), .val (.int ov), .val (.int tv), .val (.int iv), .val (.int jv), .val (.int lv), .val (.int cv), .val (.int kv), .val (.ref b270), .val (.ref b290), .val (.int (1 : Int32)), .unset, .unset, .unset, .unset, .unset] [(.int tv)]))
              have J216 : ∀ (T : State) (lc : List Loc) (h : Heap), Stand p l e room_1 s m #[(.int u0), (.int u1), (.int u2), (.int u3), (.int u4)] below meth c T lc 4 22 → T.heap = h → Fr n0 lc → Keep h0 h [] → n0 ≤ h.size → ∀ (gb : Nat → Bool), (∀ q, gb q = true ↔ (q = iN ∨ q = jN)) → Exa Z h b290 "com/example/clearbrace/clearbrace/gser/ComponentOrder" → Exa Z h b270 "java/util/ArrayList" → Fld Z h b270 "java/util/ArrayList" "size" "I" (.int nn) → Ary Z h gv .boolean N (fun q => .int (b2i (gb q))) → Fld Z h b290 "com/example/clearbrace/clearbrace/gser/ComponentOrder" "_components" "Ljava/util/List;" (.ref b270) → Fld Z h b290 "com/example/clearbrace/clearbrace/gser/ComponentOrder" "_ordered" "Z" (.int ov) → Fld Z h b290 "com/example/clearbrace/clearbrace/gser/ComponentOrder" "_given" "[Z" (.ref gv) → Fld Z h b290 "com/example/clearbrace/clearbrace/gser/ComponentOrder" "_count" "I" (.int cv) → Fld Z h b290 "com/example/clearbrace/clearbrace/gser/ComponentOrder" "_next" "I" (.int (lv + 1)) → G (T.setTop (mkF m 216 #[.val (.int u0), .val (.int u1), .val (.int u2), .val (.int u3), .val (.int u4), .val (.int nn), .val (.int ov), .val (.int tv), .val (.int iv), .val (.int jv), .val (.int lv), .val (.int cv), .val (.int kv), .val (.ref b270), .val (.ref b290), .val (.int (1 : Int32)), .unset, .unset, .unset, .unset, .unset] [])) := by
                intro T309 lc309 h309 X309 e309 N309 K309 Z309 gb hgb f309_0 f309_1 f309_2 f309_3 f309_4 f309_5 f309_6 f309_7 f309_8
                show G (T309.setTop (mkF m 216 #[.val (.int u0), .val (.int u1), .val (.int u2), .val (.int u3), .val (.int u4), .val (.int nn), .val (.int ov), .val (.int tv), .val (.int iv), .val (.int jv), .val (.int lv), .val (.int cv), .val (.int kv), .val (.ref b270), .val (.ref b290), .val (.int (1 : Int32)), .unset, .unset, .unset, .unset, .unset] []))
                refine go _ _ (fun t' k' => XS.aload X309.here hx rfl (hb hby at_216) rfl rfl  k') ?_
                show G (T309.setTop (mkF m 218 #[.val (.int u0), .val (.int u1), .val (.int u2), .val (.int u3), .val (.int u4), .val (.int nn), .val (.int ov), .val (.int tv), .val (.int iv), .val (.int jv), .val (.int lv), .val (.int cv), .val (.int kv), .val (.ref b270), .val (.ref b290), .val (.int (1 : Int32)), .unset, .unset, .unset, .unset, .unset] [(.ref b290)]))
                refine go _ _ (fun t' k' => XS.iload X309.here hx rfl (hb hby at_218) rfl  k') ?_
                show G (T309.setTop (mkF m 220 #[.val (.int u0), .val (.int u1), .val (.int u2), .val (.int u3), .val (.int u4), .val (.int nn), .val (.int ov), .val (.int tv), .val (.int iv), .val (.int jv), .val (.int lv), .val (.int cv), .val (.int kv), .val (.ref b270), .val (.ref b290), .val (.int (1 : Int32)), .unset, .unset, .unset, .unset, .unset] [(.int kv), (.ref b290)]))
                refine own_virtual go X309 hx hZ e309 hown (hw _ (List.mem_of_getElem? (i := 80) rfl)) (hw _ (List.mem_of_getElem? (i := 81) rfl)) (notFace_of_selects (args := #[]) (mvT hZ (hw _ (List.mem_of_getElem? (i := 83) rfl)))) (hw _ (List.mem_of_getElem? (i := 83) rfl)) (hw _ (List.mem_of_getElem? (i := 82) rfl)) (hw _ (List.mem_of_getElem? (i := 59) rfl)) (hw _ (List.mem_of_getElem? (i := 84) rfl)) (by decide) (rm_ig l Z a0 hw b290 kv gv gb N kN h309 n0 Z309 f309_6 f309_3 hk hkN) 0 (by decide) (by decide) (by decide) (by decide) f309_0 (g := (mkF m 220 #[.val (.int u0), .val (.int u1), .val (.int u2), .val (.int u3), .val (.int u4), .val (.int nn), .val (.int ov), .val (.int tv), .val (.int iv), .val (.int jv), .val (.int lv), .val (.int cv), .val (.int kv), .val (.ref b270), .val (.ref b290), .val (.int (1 : Int32)), .unset, .unset, .unset, .unset, .unset] [(.int kv), (.ref b290)])) rfl (by rw [hml]; rfl) [(.int kv)] [] rfl (lenOf pd_8 rfl) rfl (by show 2 * 0 + _ ≤ _; exact Nat.le_of_eq rfl) (hb hby at_220) ?_
                intro T310 L310 v310 X310 q310
                obtain ⟨rfl, N310, hh310⟩ := q310
                obtain ⟨lc310, X310h, N310h⟩ := own_hide X310 (Fr.app N309 N310)
                show G (T310.setTop (mkF m 223 #[.val (.int u0), .val (.int u1), .val (.int u2), .val (.int u3), .val (.int u4), .val (.int nn), .val (.int ov), .val (.int tv), .val (.int iv), .val (.int jv), .val (.int lv), .val (.int cv), .val (.int kv), .val (.ref b270), .val (.ref b290), .val (.int (1 : Int32)), .unset, .unset, .unset, .unset, .unset] [(.int (b2i (gb kN)))]))
                refine go _ _ (fun t' k' => XS.iload X310h.here hx rfl (hb hby at_223) rfl  k') ?_
                show G (T310.setTop (mkF m 225 #[.val (.int u0), .val (.int u1), .val (.int u2), .val (.int u3), .val (.int u4), .val (.int nn), .val (.int ov), .val (.int tv), .val (.int iv), .val (.int jv), .val (.int lv), .val (.int cv), .val (.int kv), .val (.ref b270), .val (.ref b290), .val (.int (1 : Int32)), .unset, .unset, .unset, .unset, .unset] [(.int kv), (.int (b2i (gb kN)))]))
                refine go _ _ (fun t' k' => XS.iload X310h.here hx rfl (hb hby at_225) rfl  k') ?_
                show G (T310.setTop (mkF m 227 #[.val (.int u0), .val (.int u1), .val (.int u2), .val (.int u3), .val (.int u4), .val (.int nn), .val (.int ov), .val (.int tv), .val (.int iv), .val (.int jv), .val (.int lv), .val (.int cv), .val (.int kv), .val (.ref b270), .val (.ref b290), .val (.int (1 : Int32)), .unset, .unset, .unset, .unset, .unset] [(.int iv), (.int kv), (.int (b2i (gb kN)))]))
                have J247 : ∀ (T : State) (locs : List Loc), Stand p l e room_1 s m #[(.int u0), (.int u1), (.int u2), (.int u3), (.int u4)] below meth c T locs 4 22 → T.heap = h309 → Fr n0 locs → ∀ (x1 : Int32), (x1 = b2i (gb kN)) → G (T.setTop (mkF m 247 #[.val (.int u0), .val (.int u1), .val (.int u2), .val (.int u3), .val (.int u4), .val (.int nn), .val (.int ov), .val (.int tv), .val (.int iv), .val (.int jv), .val (.int lv), .val (.int cv), .val (.int kv), .val (.ref b270), .val (.ref b290), .val (.int (1 : Int32)), .unset, .unset, .unset, .unset, .unset] [(.int x1), (.int (b2i (gb kN)))])) := by
                  intro T311 locs311 X311 e311 N311j x1 hx1
                  show G (T311.setTop (mkF m 247 #[.val (.int u0), .val (.int u1), .val (.int u2), .val (.int u3), .val (.int u4), .val (.int nn), .val (.int ov), .val (.int tv), .val (.int iv), .val (.int jv), .val (.int lv), .val (.int cv), .val (.int kv), .val (.ref b270), .val (.ref b290), .val (.int (1 : Int32)), .unset, .unset, .unset, .unset, .unset] [(.int x1), (.int (b2i (gb kN)))]))
                  refine go _ _ (fun t' k' => XS.icmpNo X311.here hx rfl (hb hby at_247) rfl (Free.XT.ii_ne_f hx1.symm) k') ?_
                  show G (T311.setTop (mkF m 250 #[.val (.int u0), .val (.int u1), .val (.int u2), .val (.int u3), .val (.int u4), .val (.int nn), .val (.int ov), .val (.int tv), .val (.int iv), .val (.int jv), .val (.int lv), .val (.int cv), .val (.int kv), .val (.ref b270), .val (.ref b290), .val (.int (1 : Int32)), .unset, .unset, .unset, .unset, .unset] []))
                  refine go _ _ (fun t' k' => XS.iconst X311.here hx rfl (hb hby at_250) k') ?_
                  show G (T311.setTop (mkF m 251 #[.val (.int u0), .val (.int u1), .val (.int u2), .val (.int u3), .val (.int u4), .val (.int nn), .val (.int ov), .val (.int tv), .val (.int iv), .val (.int jv), .val (.int lv), .val (.int cv), .val (.int kv), .val (.ref b270), .val (.ref b290), .val (.int (1 : Int32)), .unset, .unset, .unset, .unset, .unset] [(.int (1 : Int32))]))
                  refine go _ _ (fun t' k' => XS.goto X311.here hx rfl (pc0 := 251) (pc' := 255) rfl (hb hby at_251) (by decide) (by decide) k') ?_
                  show G (T311.setTop (mkF m 255 #[.val (.int u0), .val (.int u1), .val (.int u2), .val (.int u3), .val (.int u4), .val (.int nn), .val (.int ov), .val (.int tv), .val (.int iv), .val (.int jv), .val (.int lv), .val (.int cv), .val (.int kv), .val (.ref b270), .val (.ref b290), .val (.int (1 : Int32)), .unset, .unset, .unset, .unset, .unset] [(.int (1 : Int32))]))
                  refine go _ _ (fun t' k' => XS.istore X311.here hx rfl (hb hby at_255) rfl (l' := #[.val (.int u0), .val (.int u1), .val (.int u2), .val (.int u3), .val (.int u4), .val (.int nn), .val (.int ov), .val (.int tv), .val (.int iv), .val (.int jv), .val (.int lv), .val (.int cv), .val (.int kv), .val (.ref b270), .val (.ref b290), .val (.int (1 : Int32)), .val (.int (1 : Int32)), .unset, .unset, .unset, .unset]) rfl k') ?_
                  show G (T311.setTop (mkF m 257 #[.val (.int u0), .val (.int u1), .val (.int u2), .val (.int u3), .val (.int u4), .val (.int nn), .val (.int ov), .val (.int tv), .val (.int iv), .val (.int jv), .val (.int lv), .val (.int cv), .val (.int kv), .val (.ref b270), .val (.ref b290), .val (.int (1 : Int32)), .val (.int (1 : Int32)), .unset, .unset, .unset, .unset] []))
                  refine go _ _ (fun t' k' => XS.aload X311.here hx rfl (hb hby at_257) rfl rfl  k') ?_
                  show G (T311.setTop (mkF m 259 #[.val (.int u0), .val (.int u1), .val (.int u2), .val (.int u3), .val (.int u4), .val (.int nn), .val (.int ov), .val (.int tv), .val (.int iv), .val (.int jv), .val (.int lv), .val (.int cv), .val (.int kv), .val (.ref b270), .val (.ref b290), .val (.int (1 : Int32)), .val (.int (1 : Int32)), .unset, .unset, .unset, .unset] [(.ref b290)]))
                  refine own_virtual go X311 hx hZ e311 hown (hw _ (List.mem_of_getElem? (i := 94) rfl)) (hw _ (List.mem_of_getElem? (i := 95) rfl)) (notFace_of_selects (args := #[]) (mvT hZ (hw _ (List.mem_of_getElem? (i := 97) rfl)))) (hw _ (List.mem_of_getElem? (i := 97) rfl)) (hw _ (List.mem_of_getElem? (i := 96) rfl)) (hw _ (List.mem_of_getElem? (i := 59) rfl)) (hw _ (List.mem_of_getElem? (i := 98) rfl)) (by decide) (rm_al l Z a0 hw b290 b270 gv ov cv (lv + 1) nn h309 n0 Z309 f309_1 f309_2 f309_4 f309_5 f309_6 f309_7 f309_8) 0 (by decide) (by decide) (by decide) (by decide) f309_0 (g := (mkF m 259 #[.val (.int u0), .val (.int u1), .val (.int u2), .val (.int u3), .val (.int u4), .val (.int nn), .val (.int ov), .val (.int tv), .val (.int iv), .val (.int jv), .val (.int lv), .val (.int cv), .val (.int kv), .val (.ref b270), .val (.ref b290), .val (.int (1 : Int32)), .val (.int (1 : Int32)), .unset, .unset, .unset, .unset] [(.ref b290)])) rfl (by rw [hml]; rfl) [] [] rfl (lenOf pd_10 rfl) rfl (by show 2 * 0 + _ ≤ _; exact Nat.le_of_eq rfl) (hb hby at_259) ?_
                  intro T312 L312 v312 X312 q312
                  obtain ⟨rfl, N312, hh312⟩ := q312
                  obtain ⟨lc312, X312h, N312h⟩ := own_hide X312 (Fr.app N311j N312)
                  show G (T312.setTop (mkF m 262 #[.val (.int u0), .val (.int u1), .val (.int u2), .val (.int u3), .val (.int u4), .val (.int nn), .val (.int ov), .val (.int tv), .val (.int iv), .val (.int jv), .val (.int lv), .val (.int cv), .val (.int kv), .val (.ref b270), .val (.ref b290), .val (.int (1 : Int32)), .val (.int (1 : Int32)), .unset, .unset, .unset, .unset] [(.int (if ov = 0 then (if cv < nn then (1 : Int32) else 0) else (if lv + 1 < nn then 1 else 0)))]))
                  refine go _ _ (fun t' k' => XS.iload X312h.here hx rfl (hb hby at_262) rfl  k') ?_
                  show G (T312.setTop (mkF m 264 #[.val (.int u0), .val (.int u1), .val (.int u2), .val (.int u3), .val (.int u4), .val (.int nn), .val (.int ov), .val (.int tv), .val (.int iv), .val (.int jv), .val (.int lv), .val (.int cv), .val (.int kv), .val (.ref b270), .val (.ref b290), .val (.int (1 : Int32)), .val (.int (1 : Int32)), .unset, .unset, .unset, .unset] [(.int ov), (.int (if ov = 0 then (if cv < nn then (1 : Int32) else 0) else (if lv + 1 < nn then 1 else 0)))]))
                  have J296 : ∀ (T : State) (locs : List Loc), Stand p l e room_1 s m #[(.int u0), (.int u1), (.int u2), (.int u3), (.int u4)] below meth c T locs 4 22 → T.heap = h309 → Fr n0 locs → ∀ (x2 : Int32), (x2 = (if ov = 0 then (if cv < nn then (1 : Int32) else 0) else (if lv + 1 < nn then 1 else 0))) → G (T.setTop (mkF m 296 #[.val (.int u0), .val (.int u1), .val (.int u2), .val (.int u3), .val (.int u4), .val (.int nn), .val (.int ov), .val (.int tv), .val (.int iv), .val (.int jv), .val (.int lv), .val (.int cv), .val (.int kv), .val (.ref b270), .val (.ref b290), .val (.int (1 : Int32)), .val (.int (1 : Int32)), .unset, .unset, .unset, .unset] [(.int x2), (.int (if ov = 0 then (if cv < nn then (1 : Int32) else 0) else (if lv + 1 < nn then 1 else 0)))])) := by
                    intro T313 locs313 X313 e313 N313j x2 hx2
                    show G (T313.setTop (mkF m 296 #[.val (.int u0), .val (.int u1), .val (.int u2), .val (.int u3), .val (.int u4), .val (.int nn), .val (.int ov), .val (.int tv), .val (.int iv), .val (.int jv), .val (.int lv), .val (.int cv), .val (.int kv), .val (.ref b270), .val (.ref b290), .val (.int (1 : Int32)), .val (.int (1 : Int32)), .unset, .unset, .unset, .unset] [(.int x2), (.int (if ov = 0 then (if cv < nn then (1 : Int32) else 0) else (if lv + 1 < nn then 1 else 0)))]))
                    refine go _ _ (fun t' k' => XS.icmpNo X313.here hx rfl (hb hby at_296) rfl (Free.XT.ii_ne_f hx2.symm) k') ?_
                    show G (T313.setTop (mkF m 299 #[.val (.int u0), .val (.int u1), .val (.int u2), .val (.int u3), .val (.int u4), .val (.int nn), .val (.int ov), .val (.int tv), .val (.int iv), .val (.int jv), .val (.int lv), .val (.int cv), .val (.int kv), .val (.ref b270), .val (.ref b290), .val (.int (1 : Int32)), .val (.int (1 : Int32)), .unset, .unset, .unset, .unset] []))
                    refine go _ _ (fun t' k' => XS.iconst X313.here hx rfl (hb hby at_299) k') ?_
                    show G (T313.setTop (mkF m 300 #[.val (.int u0), .val (.int u1), .val (.int u2), .val (.int u3), .val (.int u4), .val (.int nn), .val (.int ov), .val (.int tv), .val (.int iv), .val (.int jv), .val (.int lv), .val (.int cv), .val (.int kv), .val (.ref b270), .val (.ref b290), .val (.int (1 : Int32)), .val (.int (1 : Int32)), .unset, .unset, .unset, .unset] [(.int (1 : Int32))]))
                    refine go _ _ (fun t' k' => XS.goto X313.here hx rfl (pc0 := 300) (pc' := 304) rfl (hb hby at_300) (by decide) (by decide) k') ?_
                    show G (T313.setTop (mkF m 304 #[.val (.int u0), .val (.int u1), .val (.int u2), .val (.int u3), .val (.int u4), .val (.int nn), .val (.int ov), .val (.int tv), .val (.int iv), .val (.int jv), .val (.int lv), .val (.int cv), .val (.int kv), .val (.ref b270), .val (.ref b290), .val (.int (1 : Int32)), .val (.int (1 : Int32)), .unset, .unset, .unset, .unset] [(.int (1 : Int32))]))
                    refine go _ _ (fun t' k' => XS.istore X313.here hx rfl (hb hby at_304) rfl (l' := #[.val (.int u0), .val (.int u1), .val (.int u2), .val (.int u3), .val (.int u4), .val (.int nn), .val (.int ov), .val (.int tv), .val (.int iv), .val (.int jv), .val (.int lv), .val (.int cv), .val (.int kv), .val (.ref b270), .val (.ref b290), .val (.int (1 : Int32)), .val (.int (1 : Int32)), .val (.int (1 : Int32)), .unset, .unset, .unset]) rfl k') ?_
                    show G (T313.setTop (mkF m 306 #[.val (.int u0), .val (.int u1), .val (.int u2), .val (.int u3), .val (.int u4), .val (.int nn), .val (.int ov), .val (.int tv), .val (.int iv), .val (.int jv), .val (.int lv), .val (.int cv), .val (.int kv), .val (.ref b270), .val (.ref b290), .val (.int (1 : Int32)), .val (.int (1 : Int32)), .val (.int (1 : Int32)), .unset, .unset, .unset] []))
                    refine go _ _ (fun t' k' => XS.iload X313.here hx rfl (hb hby at_306) rfl  k') ?_
                    show G (T313.setTop (mkF m 308 #[.val (.int u0), .val (.int u1), .val (.int u2), .val (.int u3), .val (.int u4), .val (.int nn), .val (.int ov), .val (.int tv), .val (.int iv), .val (.int jv), .val (.int lv), .val (.int cv), .val (.int kv), .val (.ref b270), .val (.ref b290), .val (.int (1 : Int32)), .val (.int (1 : Int32)), .val (.int (1 : Int32)), .unset, .unset, .unset] [(.int ov)]))
                    by_cases c314 : ov = (0 : Int32)
                    · refine go _ _ (fun t' k' => XS.ifYes X313.here hx rfl (pc0 := 308) (pc' := 370) rfl (hb hby at_308) rfl (Free.XT.i0_eq_t c314) (by decide) (by decide) k') ?_
                      show G (T313.setTop (mkF m 370 #[.val (.int u0), .val (.int u1), .val (.int u2), .val (.int u3), .val (.int u4), .val (.int nn), .val (.int ov), .val (.int tv), .val (.int iv), .val (.int jv), .val (.int lv), .val (.int cv), .val (.int kv), .val (.ref b270), .val (.ref b290), .val (.int (1 : Int32)), .val (.int (1 : Int32)), .val (.int (1 : Int32)), .unset, .unset, .unset] []))
                      refine go _ _ (fun t' k' => XS.iload X313.here hx rfl (hb hby at_370) rfl  k') ?_
                      show G (T313.setTop (mkF m 372 #[.val (.int u0), .val (.int u1), .val (.int u2), .val (.int u3), .val (.int u4), .val (.int nn), .val (.int ov), .val (.int tv), .val (.int iv), .val (.int jv), .val (.int lv), .val (.int cv), .val (.int kv), .val (.ref b270), .val (.ref b290), .val (.int (1 : Int32)), .val (.int (1 : Int32)), .val (.int (1 : Int32)), .unset, .unset, .unset] [(.int u4)]))
                      refine go _ _ (fun t' k' => X313.ldcInt hx hown (mvT hZ (hw _ (List.mem_of_getElem? (i := 0) rfl))) (g := (mkF m 372 #[.val (.int u0), .val (.int u1), .val (.int u2), .val (.int u3), .val (.int u4), .val (.int nn), .val (.int ov), .val (.int tv), .val (.int iv), .val (.int jv), .val (.int lv), .val (.int cv), .val (.int kv), .val (.ref b270), .val (.ref b290), .val (.int (1 : Int32)), .val (.int (1 : Int32)), .val (.int (1 : Int32)), .unset, .unset, .unset] [(.int u4)])) rfl (hb hby at_372) _ k') ?_
                      show G (T313.setTop (mkF m 374 #[.val (.int u0), .val (.int u1), .val (.int u2), .val (.int u3), .val (.int u4), .val (.int nn), .val (.int ov), .val (.int tv), .val (.int iv), .val (.int jv), .val (.int lv), .val (.int cv), .val (.int kv), .val (.ref b270), .val (.ref b290), .val (.int (1 : Int32)), .val (.int (1 : Int32)), .val (.int (1 : Int32)), .unset, .unset, .unset] [(.int (2147483647 : Int32)), (.int u4)]))
                      refine go _ _ (fun t' k' => XS.iand X313.here hx rfl (hb hby at_374) rfl k') ?_
                      show G (T313.setTop (mkF m 375 #[.val (.int u0), .val (.int u1), .val (.int u2), .val (.int u3), .val (.int u4), .val (.int nn), .val (.int ov), .val (.int tv), .val (.int iv), .val (.int jv), .val (.int lv), .val (.int cv), .val (.int kv), .val (.ref b270), .val (.ref b290), .val (.int (1 : Int32)), .val (.int (1 : Int32)), .val (.int (1 : Int32)), .unset, .unset, .unset] [(.int (u4 &&& (2147483647 : Int32)))]))
                      refine go _ _ (fun t' k' => XS.iload X313.here hx rfl (hb hby at_375) rfl  k') ?_
                      show G (T313.setTop (mkF m 377 #[.val (.int u0), .val (.int u1), .val (.int u2), .val (.int u3), .val (.int u4), .val (.int nn), .val (.int ov), .val (.int tv), .val (.int iv), .val (.int jv), .val (.int lv), .val (.int cv), .val (.int kv), .val (.ref b270), .val (.ref b290), .val (.int (1 : Int32)), .val (.int (1 : Int32)), .val (.int (1 : Int32)), .unset, .unset, .unset] [(.int nn), (.int (u4 &&& (2147483647 : Int32)))]))
                      refine go _ _ (fun t' k' => iremM X313 hx rfl (hb hby at_377) rfl (own_nz hN h1N) k') ?_
                      show G (T313.setTop (mkF m 378 #[.val (.int u0), .val (.int u1), .val (.int u2), .val (.int u3), .val (.int u4), .val (.int nn), .val (.int ov), .val (.int tv), .val (.int iv), .val (.int jv), .val (.int lv), .val (.int cv), .val (.int kv), .val (.ref b270), .val (.ref b290), .val (.int (1 : Int32)), .val (.int (1 : Int32)), .val (.int (1 : Int32)), .unset, .unset, .unset] [(.int ((u4 &&& (2147483647 : Int32)) % nn))]))
                      refine go _ _ (fun t' k' => XS.istore X313.here hx rfl (hb hby at_378) rfl (l' := #[.val (.int u0), .val (.int u1), .val (.int u2), .val (.int u3), .val (.int u4), .val (.int nn), .val (.int ov), .val (.int tv), .val (.int iv), .val (.int jv), .val (.int lv), .val (.int cv), .val (.int kv), .val (.ref b270), .val (.ref b290), .val (.int (1 : Int32)), .val (.int (1 : Int32)), .val (.int (1 : Int32)), .unset, .val (.int ((u4 &&& (2147483647 : Int32)) % nn)), .unset]) rfl k') ?_
                      show G (T313.setTop (mkF m 380 #[.val (.int u0), .val (.int u1), .val (.int u2), .val (.int u3), .val (.int u4), .val (.int nn), .val (.int ov), .val (.int tv), .val (.int iv), .val (.int jv), .val (.int lv), .val (.int cv), .val (.int kv), .val (.ref b270), .val (.ref b290), .val (.int (1 : Int32)), .val (.int (1 : Int32)), .val (.int (1 : Int32)), .unset, .val (.int ((u4 &&& (2147483647 : Int32)) % nn)), .unset] []))
                      obtain ⟨k2, hk2e⟩ : ∃ z, z = ((u4 &&& (2147483647 : Int32)) % nn) := ⟨_, rfl⟩
                      rw [← hk2e]
                      show G (T313.setTop (mkF m 380 #[.val (.int u0), .val (.int u1), .val (.int u2), .val (.int u3), .val (.int u4), .val (.int nn), .val (.int ov), .val (.int tv), .val (.int iv), .val (.int jv), .val (.int lv), .val (.int cv), .val (.int kv), .val (.ref b270), .val (.ref b290), .val (.int (1 : Int32)), .val (.int (1 : Int32)), .val (.int (1 : Int32)), .unset, .val (.int k2), .unset] []))
                      obtain ⟨k2N, hk2, hk2N⟩ := own_rem hN h1N hk2e
                      refine go _ _ (fun t' k' => XS.aload X313.here hx rfl (hb hby at_380) rfl rfl  k') ?_
                      show G (T313.setTop (mkF m 382 #[.val (.int u0), .val (.int u1), .val (.int u2), .val (.int u3), .val (.int u4), .val (.int nn), .val (.int ov), .val (.int tv), .val (.int iv), .val (.int jv), .val (.int lv), .val (.int cv), .val (.int kv), .val (.ref b270), .val (.ref b290), .val (.int (1 : Int32)), .val (.int (1 : Int32)), .val (.int (1 : Int32)), .unset, .val (.int k2), .unset] [(.ref b290)]))
                      refine go _ _ (fun t' k' => XS.iload X313.here hx rfl (hb hby at_382) rfl  k') ?_
                      show G (T313.setTop (mkF m 384 #[.val (.int u0), .val (.int u1), .val (.int u2), .val (.int u3), .val (.int u4), .val (.int nn), .val (.int ov), .val (.int tv), .val (.int iv), .val (.int jv), .val (.int lv), .val (.int cv), .val (.int kv), .val (.ref b270), .val (.ref b290), .val (.int (1 : Int32)), .val (.int (1 : Int32)), .val (.int (1 : Int32)), .unset, .val (.int k2), .unset] [(.int k2), (.ref b290)]))
                      refine own_virtual go X313 hx hZ e313 hown (hw _ (List.mem_of_getElem? (i := 99) rfl)) (hw _ (List.mem_of_getElem? (i := 100) rfl)) (notFace_of_selects (args := #[]) (mvT hZ (hw _ (List.mem_of_getElem? (i := 102) rfl)))) (hw _ (List.mem_of_getElem? (i := 102) rfl)) (hw _ (List.mem_of_getElem? (i := 101) rfl)) (hw _ (List.mem_of_getElem? (i := 59) rfl)) (hw _ (List.mem_of_getElem? (i := 103) rfl)) (by decide) (rm_mu l Z a0 hw b290 k2 gv b270 ov cv (lv + 1) gb N k2N h309 n0 Z309 f309_4 f309_5 f309_6 f309_7 f309_8 c314 f309_3 hk2 hk2N) 0 (by decide) (by decide) (by decide) (by decide) f309_0 (g := (mkF m 384 #[.val (.int u0), .val (.int u1), .val (.int u2), .val (.int u3), .val (.int u4), .val (.int nn), .val (.int ov), .val (.int tv), .val (.int iv), .val (.int jv), .val (.int lv), .val (.int cv), .val (.int kv), .val (.ref b270), .val (.ref b290), .val (.int (1 : Int32)), .val (.int (1 : Int32)), .val (.int (1 : Int32)), .unset, .val (.int k2), .unset] [(.int k2), (.ref b290)])) rfl (by rw [hml]; rfl) [(.int k2)] [] rfl (lenOf pd_8 rfl) rfl (by show 2 * 0 + _ ≤ _; exact Nat.le_of_eq rfl) (hb hby at_384) ?_
                      intro T315 L315 v315 X315 q315
                      obtain ⟨rfl, N315, hh315⟩ := q315
                      obtain ⟨lc315, X315h, N315h⟩ := own_hide X315 (Fr.app N313j N315)
                      show G (T315.setTop (mkF m 387 #[.val (.int u0), .val (.int u1), .val (.int u2), .val (.int u3), .val (.int u4), .val (.int nn), .val (.int ov), .val (.int tv), .val (.int iv), .val (.int jv), .val (.int lv), .val (.int cv), .val (.int kv), .val (.ref b270), .val (.ref b290), .val (.int (1 : Int32)), .val (.int (1 : Int32)), .val (.int (1 : Int32)), .unset, .val (.int k2), .unset] [(.int (b2i (!(gb k2N))))]))
                      refine go _ _ (fun t' k' => XS.iload X315h.here hx rfl (hb hby at_387) rfl  k') ?_
                      show G (T315.setTop (mkF m 389 #[.val (.int u0), .val (.int u1), .val (.int u2), .val (.int u3), .val (.int u4), .val (.int nn), .val (.int ov), .val (.int tv), .val (.int iv), .val (.int jv), .val (.int lv), .val (.int cv), .val (.int kv), .val (.ref b270), .val (.ref b290), .val (.int (1 : Int32)), .val (.int (1 : Int32)), .val (.int (1 : Int32)), .unset, .val (.int k2), .unset] [(.int k2), (.int (b2i (!(gb k2N))))]))
                      refine go _ _ (fun t' k' => XS.iload X315h.here hx rfl (hb hby at_389) rfl  k') ?_
                      show G (T315.setTop (mkF m 391 #[.val (.int u0), .val (.int u1), .val (.int u2), .val (.int u3), .val (.int u4), .val (.int nn), .val (.int ov), .val (.int tv), .val (.int iv), .val (.int jv), .val (.int lv), .val (.int cv), .val (.int kv), .val (.ref b270), .val (.ref b290), .val (.int (1 : Int32)), .val (.int (1 : Int32)), .val (.int (1 : Int32)), .unset, .val (.int k2), .unset] [(.int iv), (.int k2), (.int (b2i (!(gb k2N))))]))
                      have J411 : ∀ (T : State) (locs : List Loc), Stand p l e room_1 s m #[(.int u0), (.int u1), (.int u2), (.int u3), (.int u4)] below meth c T locs 4 22 → T.heap = h309 → Fr n0 locs → ∀ (x4 : Int32), (x4 = b2i (!(gb k2N))) → G (T.setTop (mkF m 411 #[.val (.int u0), .val (.int u1), .val (.int u2), .val (.int u3), .val (.int u4), .val (.int nn), .val (.int ov), .val (.int tv), .val (.int iv), .val (.int jv), .val (.int lv), .val (.int cv), .val (.int kv), .val (.ref b270), .val (.ref b290), .val (.int (1 : Int32)), .val (.int (1 : Int32)), .val (.int (1 : Int32)), .unset, .val (.int k2), .unset] [(.int x4), (.int (b2i (!(gb k2N))))])) := by
                        intro T316 locs316 X316 e316 N316j x4 hx4
                        show G (T316.setTop (mkF m 411 #[.val (.int u0), .val (.int u1), .val (.int u2), .val (.int u3), .val (.int u4), .val (.int nn), .val (.int ov), .val (.int tv), .val (.int iv), .val (.int jv), .val (.int lv), .val (.int cv), .val (.int kv), .val (.ref b270), .val (.ref b290), .val (.int (1 : Int32)), .val (.int (1 : Int32)), .val (.int (1 : Int32)), .unset, .val (.int k2), .unset] [(.int x4), (.int (b2i (!(gb k2N))))]))
                        refine go _ _ (fun t' k' => XS.icmpNo X316.here hx rfl (hb hby at_411) rfl (Free.XT.ii_ne_f hx4.symm) k') ?_
                        show G (T316.setTop (mkF m 414 #[.val (.int u0), .val (.int u1), .val (.int u2), .val (.int u3), .val (.int u4), .val (.int nn), .val (.int ov), .val (.int tv), .val (.int iv), .val (.int jv), .val (.int lv), .val (.int cv), .val (.int kv), .val (.ref b270), .val (.ref b290), .val (.int (1 : Int32)), .val (.int (1 : Int32)), .val (.int (1 : Int32)), .unset, .val (.int k2), .unset] []))
                        refine go _ _ (fun t' k' => XS.iconst X316.here hx rfl (hb hby at_414) k') ?_
                        show G (T316.setTop (mkF m 415 #[.val (.int u0), .val (.int u1), .val (.int u2), .val (.int u3), .val (.int u4), .val (.int nn), .val (.int ov), .val (.int tv), .val (.int iv), .val (.int jv), .val (.int lv), .val (.int cv), .val (.int kv), .val (.ref b270), .val (.ref b290), .val (.int (1 : Int32)), .val (.int (1 : Int32)), .val (.int (1 : Int32)), .unset, .val (.int k2), .unset] [(.int (1 : Int32))]))
                        refine go _ _ (fun t' k' => XS.goto X316.here hx rfl (pc0 := 415) (pc' := 419) rfl (hb hby at_415) (by decide) (by decide) k') ?_
                        show G (T316.setTop (mkF m 419 #[.val (.int u0), .val (.int u1), .val (.int u2), .val (.int u3), .val (.int u4), .val (.int nn), .val (.int ov), .val (.int tv), .val (.int iv), .val (.int jv), .val (.int lv), .val (.int cv), .val (.int kv), .val (.ref b270), .val (.ref b290), .val (.int (1 : Int32)), .val (.int (1 : Int32)), .val (.int (1 : Int32)), .unset, .val (.int k2), .unset] [(.int (1 : Int32))]))
                        refine go _ _ (fun t' k' => XS.istore X316.here hx rfl (hb hby at_419) rfl (l' := #[.val (.int u0), .val (.int u1), .val (.int u2), .val (.int u3), .val (.int u4), .val (.int nn), .val (.int ov), .val (.int tv), .val (.int iv), .val (.int jv), .val (.int lv), .val (.int cv), .val (.int kv), .val (.ref b270), .val (.ref b290), .val (.int (1 : Int32)), .val (.int (1 : Int32)), .val (.int (1 : Int32)), .val (.int (1 : Int32)), .val (.int k2), .unset]) rfl k') ?_
                        show G (T316.setTop (mkF m 421 #[.val (.int u0), .val (.int u1), .val (.int u2), .val (.int u3), .val (.int u4), .val (.int nn), .val (.int ov), .val (.int tv), .val (.int iv), .val (.int jv), .val (.int lv), .val (.int cv), .val (.int kv), .val (.ref b270), .val (.ref b290), .val (.int (1 : Int32)), .val (.int (1 : Int32)), .val (.int (1 : Int32)), .val (.int (1 : Int32)), .val (.int k2), .unset] []))
                        refine go _ _ (fun t' k' => XS.iload X316.here hx rfl (hb hby at_421) rfl  k') ?_
                        show G (T316.setTop (mkF m 423 #[.val (.int u0), .val (.int u1), .val (.int u2), .val (.int u3), .val (.int u4), .val (.int nn), .val (.int ov), .val (.int tv), .val (.int iv), .val (.int jv), .val (.int lv), .val (.int cv), .val (.int kv), .val (.ref b270), .val (.ref b290), .val (.int (1 : Int32)), .val (.int (1 : Int32)), .val (.int (1 : Int32)), .val (.int (1 : Int32)), .val (.int k2), .unset] [(.int (1 : Int32))]))
                        refine go _ _ (fun t' k' => XS.ifNo X316.here hx rfl (hb hby at_423) rfl (Free.XT.i0_eq_f (by decide)) k') ?_
                        show G (T316.setTop (mkF m 426 #[.val (.int u0), .val (.int u1), .val (.int u2), .val (.int u3), .val (.int u4), .val (.int nn), .val (.int ov), .val (.int tv), .val (.int iv), .val (.int jv), .val (.int lv), .val (.int cv), .val (.int kv), .val (.ref b270), .val (.ref b290), .val (.int (1 : Int32)), .val (.int (1 : Int32)), .val (.int (1 : Int32)), .val (.int (1 : Int32)), .val (.int k2), .unset] []))
                        refine go _ _ (fun t' k' => XS.iload X316.here hx rfl (hb hby at_426) rfl  k') ?_
                        show G (T316.setTop (mkF m 428 #[.val (.int u0), .val (.int u1), .val (.int u2), .val (.int u3), .val (.int u4), .val (.int nn), .val (.int ov), .val (.int tv), .val (.int iv), .val (.int jv), .val (.int lv), .val (.int cv), .val (.int kv), .val (.ref b270), .val (.ref b290), .val (.int (1 : Int32)), .val (.int (1 : Int32)), .val (.int (1 : Int32)), .val (.int (1 : Int32)), .val (.int k2), .unset] [(.int (1 : Int32))]))
                        refine go _ _ (fun t' k' => XS.ifNo X316.here hx rfl (hb hby at_428) rfl (Free.XT.i0_eq_f (by decide)) k') ?_
                        show G (T316.setTop (mkF m 431 #[.val (.int u0), .val (.int u1), .val (.int u2), .val (.int u3), .val (.int u4), .val (.int nn), .val (.int ov), .val (.int tv), .val (.int iv), .val (.int jv), .val (.int lv), .val (.int cv), .val (.int kv), .val (.ref b270), .val (.ref b290), .val (.int (1 : Int32)), .val (.int (1 : Int32)), .val (.int (1 : Int32)), .val (.int (1 : Int32)), .val (.int k2), .unset] []))
                        refine go _ _ (fun t' k' => XS.iload X316.here hx rfl (hb hby at_431) rfl  k') ?_
                        show G (T316.setTop (mkF m 433 #[.val (.int u0), .val (.int u1), .val (.int u2), .val (.int u3), .val (.int u4), .val (.int nn), .val (.int ov), .val (.int tv), .val (.int iv), .val (.int jv), .val (.int lv), .val (.int cv), .val (.int kv), .val (.ref b270), .val (.ref b290), .val (.int (1 : Int32)), .val (.int (1 : Int32)), .val (.int (1 : Int32)), .val (.int (1 : Int32)), .val (.int k2), .unset] [(.int (1 : Int32))]))
                        refine go _ _ (fun t' k' => XS.ifNo X316.here hx rfl (hb hby at_433) rfl (Free.XT.i0_eq_f (by decide)) k') ?_
                        show G (T316.setTop (mkF m 436 #[.val (.int u0), .val (.int u1), .val (.int u2), .val (.int u3), .val (.int u4), .val (.int nn), .val (.int ov), .val (.int tv), .val (.int iv), .val (.int jv), .val (.int lv), .val (.int cv), .val (.int kv), .val (.ref b270), .val (.ref b290), .val (.int (1 : Int32)), .val (.int (1 : Int32)), .val (.int (1 : Int32)), .val (.int (1 : Int32)), .val (.int k2), .unset] []))
                        refine go _ _ (fun t' k' => XS.iload X316.here hx rfl (hb hby at_436) rfl  k') ?_
                        show G (T316.setTop (mkF m 438 #[.val (.int u0), .val (.int u1), .val (.int u2), .val (.int u3), .val (.int u4), .val (.int nn), .val (.int ov), .val (.int tv), .val (.int iv), .val (.int jv), .val (.int lv), .val (.int cv), .val (.int kv), .val (.ref b270), .val (.ref b290), .val (.int (1 : Int32)), .val (.int (1 : Int32)), .val (.int (1 : Int32)), .val (.int (1 : Int32)), .val (.int k2), .unset] [(.int (1 : Int32))]))
                        refine go _ _ (fun t' k' => XS.ifNo X316.here hx rfl (hb hby at_438) rfl (Free.XT.i0_eq_f (by decide)) k') ?_
                        show G (T316.setTop (mkF m 441 #[.val (.int u0), .val (.int u1), .val (.int u2), .val (.int u3), .val (.int u4), .val (.int nn), .val (.int ov), .val (.int tv), .val (.int iv), .val (.int jv), .val (.int lv), .val (.int cv), .val (.int kv), .val (.ref b270), .val (.ref b290), .val (.int (1 : Int32)), .val (.int (1 : Int32)), .val (.int (1 : Int32)), .val (.int (1 : Int32)), .val (.int k2), .unset] []))
                        refine go _ _ (fun t' k' => XS.iconst X316.here hx rfl (hb hby at_441) k') ?_
                        show G (T316.setTop (mkF m 442 #[.val (.int u0), .val (.int u1), .val (.int u2), .val (.int u3), .val (.int u4), .val (.int nn), .val (.int ov), .val (.int tv), .val (.int iv), .val (.int jv), .val (.int lv), .val (.int cv), .val (.int kv), .val (.ref b270), .val (.ref b290), .val (.int (1 : Int32)), .val (.int (1 : Int32)), .val (.int (1 : Int32)), .val (.int (1 : Int32)), .val (.int k2), .unset] [(.int (1 : Int32))]))
                        refine go _ _ (fun t' k' => XS.goto X316.here hx rfl (pc0 := 442) (pc' := 446) rfl (hb hby at_442) (by decide) (by decide) k') ?_
                        show G (T316.setTop (mkF m 446 #[.val (.int u0), .val (.int u1), .val (.int u2), .val (.int u3), .val (.int u4), .val (.int nn), .val (.int ov), .val (.int tv), .val (.int iv), .val (.int jv), .val (.int lv), .val (.int cv), .val (.int kv), .val (.ref b270), .val (.ref b290), .val (.int (1 : Int32)), .val (.int (1 : Int32)), .val (.int (1 : Int32)), .val (.int (1 : Int32)), .val (.int k2), .unset] [(.int (1 : Int32))]))
                        refine own_retZ rt X316 hx (t := .boolean) hret (by simp) (hb hby at_446) (by decide) (by decide) ?_
                        exact ⟨rfl, N316j⟩
                      by_cases c317 : k2 = iv
                      · refine go _ _ (fun t' k' => XS.icmpYes X315h.here hx rfl (pc0 := 391) (pc' := 410) rfl (hb hby at_391) rfl (Free.XT.ii_eq_t c317) (by decide) (by decide) k') ?_
                        show G (T315.setTop (mkF m 410 #[.val (.int u0), .val (.int u1), .val (.int u2), .val (.int u3), .val (.int u4), .val (.int nn), .val (.int ov), .val (.int tv), .val (.int iv), .val (.int jv), .val (.int lv), .val (.int cv), .val (.int kv), .val (.ref b270), .val (.ref b290), .val (.int (1 : Int32)), .val (.int (1 : Int32)), .val (.int (1 : Int32)), .unset, .val (.int k2), .unset] [(.int (b2i (!(gb k2N))))]))
                        refine go _ _ (fun t' k' => XS.iconst X315h.here hx rfl (hb hby at_410) k') ?_
                        show G (T315.setTop (mkF m 411 #[.val (.int u0), .val (.int u1), .val (.int u2), .val (.int u3), .val (.int u4), .val (.int nn), .val (.int ov), .val (.int tv), .val (.int iv), .val (.int jv), .val (.int lv), .val (.int cv), .val (.int kv), .val (.ref b270), .val (.ref b290), .val (.int (1 : Int32)), .val (.int (1 : Int32)), .val (.int (1 : Int32)), .unset, .val (.int k2), .unset] [(.int (0 : Int32)), (.int (b2i (!(gb k2N))))]))
                        exact J411 T315 _ X315h hh315 N315h _ (own_ntt ((hgb k2N).mpr (Or.inl ((own_eq hk2 hi).mp c317))))
                      · refine go _ _ (fun t' k' => XS.icmpNo X315h.here hx rfl (hb hby at_391) rfl (Free.XT.ii_eq_f c317) k') ?_
                        show G (T315.setTop (mkF m 394 #[.val (.int u0), .val (.int u1), .val (.int u2), .val (.int u3), .val (.int u4), .val (.int nn), .val (.int ov), .val (.int tv), .val (.int iv), .val (.int jv), .val (.int lv), .val (.int cv), .val (.int kv), .val (.ref b270), .val (.ref b290), .val (.int (1 : Int32)), .val (.int (1 : Int32)), .val (.int (1 : Int32)), .unset, .val (.int k2), .unset] [(.int (b2i (!(gb k2N))))]))
                        refine go _ _ (fun t' k' => XS.iload X315h.here hx rfl (hb hby at_394) rfl  k') ?_
                        show G (T315.setTop (mkF m 396 #[.val (.int u0), .val (.int u1), .val (.int u2), .val (.int u3), .val (.int u4), .val (.int nn), .val (.int ov), .val (.int tv), .val (.int iv), .val (.int jv), .val (.int lv), .val (.int cv), .val (.int kv), .val (.ref b270), .val (.ref b290), .val (.int (1 : Int32)), .val (.int (1 : Int32)), .val (.int (1 : Int32)), .unset, .val (.int k2), .unset] [(.int tv), (.int (b2i (!(gb k2N))))]))
                        by_cases c318 : tv = (0 : Int32)
                        · refine go _ _ (fun t' k' => XS.ifYes X315h.here hx rfl (pc0 := 396) (pc' := 406) rfl (hb hby at_396) rfl (Free.XT.i0_eq_t c318) (by decide) (by decide) k') ?_
                          show G (T315.setTop (mkF m 406 #[.val (.int u0), .val (.int u1), .val (.int u2), .val (.int u3), .val (.int u4), .val (.int nn), .val (.int ov), .val (.int tv), .val (.int iv), .val (.int jv), .val (.int lv), .val (.int cv), .val (.int kv), .val (.ref b270), .val (.ref b290), .val (.int (1 : Int32)), .val (.int (1 : Int32)), .val (.int (1 : Int32)), .unset, .val (.int k2), .unset] [(.int (b2i (!(gb k2N))))]))
                          refine go _ _ (fun t' k' => XS.iconst X315h.here hx rfl (hb hby at_406) k') ?_
                          show G (T315.setTop (mkF m 407 #[.val (.int u0), .val (.int u1), .val (.int u2), .val (.int u3), .val (.int u4), .val (.int nn), .val (.int ov), .val (.int tv), .val (.int iv), .val (.int jv), .val (.int lv), .val (.int cv), .val (.int kv), .val (.ref b270), .val (.ref b290), .val (.int (1 : Int32)), .val (.int (1 : Int32)), .val (.int (1 : Int32)), .unset, .val (.int k2), .unset] [(.int (1 : Int32)), (.int (b2i (!(gb k2N))))]))
                          refine go _ _ (fun t' k' => XS.goto X315h.here hx rfl (pc0 := 407) (pc' := 411) rfl (hb hby at_407) (by decide) (by decide) k') ?_
                          show G (T315.setTop (mkF m 411 #[.val (.int u0), .val (.int u1), .val (.int u2), .val (.int u3), .val (.int u4), .val (.int nn), .val (.int ov), .val (.int tv), .val (.int iv), .val (.int jv), .val (.int lv), .val (.int cv), .val (.int kv), .val (.ref b270), .val (.ref b290), .val (.int (1 : Int32)), .val (.int (1 : Int32)), .val (.int (1 : Int32)), .unset, .val (.int k2), .unset] [(.int (1 : Int32)), (.int (b2i (!(gb k2N))))]))
                          exact J411 T315 _ X315h hh315 N315h _ (own_nff (fun z => ((hgb k2N).mp z).elim (fun y => c317 ((own_eq hk2 hi).mpr y)) (fun y => c317 ((own_eq hk2 hi).mpr (y.trans ((hjt.resolve_right (fun z => z.1 c318)).2))))))
                        · refine go _ _ (fun t' k' => XS.ifNo X315h.here hx rfl (hb hby at_396) rfl (Free.XT.i0_eq_f c318) k') ?_
                          show G (T315.setTop (mkF m 399 #[.val (.int u0), .val (.int u1), .val (.int u2), .val (.int u3), .val (.int u4), .val (.int nn), .val (.int ov), .val (.int tv), .val (.int iv), .val (.int jv), .val (.int lv), .val (.int cv), .val (.int kv), .val (.ref b270), .val (.ref b290), .val (.int (1 : Int32)), .val (.int (1 : Int32)), .val (.int (1 : Int32)), .unset, .val (.int k2), .unset] [(.int (b2i (!(gb k2N))))]))
                          refine go _ _ (fun t' k' => XS.iload X315h.here hx rfl (hb hby at_399) rfl  k') ?_
                          show G (T315.setTop (mkF m 401 #[.val (.int u0), .val (.int u1), .val (.int u2), .val (.int u3), .val (.int u4), .val (.int nn), .val (.int ov), .val (.int tv), .val (.int iv), .val (.int jv), .val (.int lv), .val (.int cv), .val (.int kv), .val (.ref b270), .val (.ref b290), .val (.int (1 : Int32)), .val (.int (1 : Int32)), .val (.int (1 : Int32)), .unset, .val (.int k2), .unset] [(.int k2), (.int (b2i (!(gb k2N))))]))
                          refine go _ _ (fun t' k' => XS.iload X315h.here hx rfl (hb hby at_401) rfl  k') ?_
                          show G (T315.setTop (mkF m 403 #[.val (.int u0), .val (.int u1), .val (.int u2), .val (.int u3), .val (.int u4), .val (.int nn), .val (.int ov), .val (.int tv), .val (.int iv), .val (.int jv), .val (.int lv), .val (.int cv), .val (.int kv), .val (.ref b270), .val (.ref b290), .val (.int (1 : Int32)), .val (.int (1 : Int32)), .val (.int (1 : Int32)), .unset, .val (.int k2), .unset] [(.int jv), (.int k2), (.int (b2i (!(gb k2N))))]))
                          by_cases c319 : k2 = jv
                          · refine go _ _ (fun t' k' => XS.icmpYes X315h.here hx rfl (pc0 := 403) (pc' := 410) rfl (hb hby at_403) rfl (Free.XT.ii_eq_t c319) (by decide) (by decide) k') ?_
                            show G (T315.setTop (mkF m 410 #[.val (.int u0), .val (.int u1), .val (.int u2), .val (.int u3), .val (.int u4), .val (.int nn), .val (.int ov), .val (.int tv), .val (.int iv), .val (.int jv), .val (.int lv), .val (.int cv), .val (.int kv), .val (.ref b270), .val (.ref b290), .val (.int (1 : Int32)), .val (.int (1 : Int32)), .val (.int (1 : Int32)), .unset, .val (.int k2), .unset] [(.int (b2i (!(gb k2N))))]))
                            refine go _ _ (fun t' k' => XS.iconst X315h.here hx rfl (hb hby at_410) k') ?_
                            show G (T315.setTop (mkF m 411 #[.val (.int u0), .val (.int u1), .val (.int u2), .val (.int u3), .val (.int u4), .val (.int nn), .val (.int ov), .val (.int tv), .val (.int iv), .val (.int jv), .val (.int lv), .val (.int cv), .val (.int kv), .val (.ref b270), .val (.ref b290), .val (.int (1 : Int32)), .val (.int (1 : Int32)), .val (.int (1 : Int32)), .unset, .val (.int k2), .unset] [(.int (0 : Int32)), (.int (b2i (!(gb k2N))))]))
                            exact J411 T315 _ X315h hh315 N315h _ (own_ntt ((hgb k2N).mpr (Or.inr ((own_eq hk2 hj).mp c319))))
                          · refine go _ _ (fun t' k' => XS.icmpNo X315h.here hx rfl (hb hby at_403) rfl (Free.XT.ii_eq_f c319) k') ?_
                            show G (T315.setTop (mkF m 406 #[.val (.int u0), .val (.int u1), .val (.int u2), .val (.int u3), .val (.int u4), .val (.int nn), .val (.int ov), .val (.int tv), .val (.int iv), .val (.int jv), .val (.int lv), .val (.int cv), .val (.int kv), .val (.ref b270), .val (.ref b290), .val (.int (1 : Int32)), .val (.int (1 : Int32)), .val (.int (1 : Int32)), .unset, .val (.int k2), .unset] [(.int (b2i (!(gb k2N))))]))
                            refine go _ _ (fun t' k' => XS.iconst X315h.here hx rfl (hb hby at_406) k') ?_
                            show G (T315.setTop (mkF m 407 #[.val (.int u0), .val (.int u1), .val (.int u2), .val (.int u3), .val (.int u4), .val (.int nn), .val (.int ov), .val (.int tv), .val (.int iv), .val (.int jv), .val (.int lv), .val (.int cv), .val (.int kv), .val (.ref b270), .val (.ref b290), .val (.int (1 : Int32)), .val (.int (1 : Int32)), .val (.int (1 : Int32)), .unset, .val (.int k2), .unset] [(.int (1 : Int32)), (.int (b2i (!(gb k2N))))]))
                            refine go _ _ (fun t' k' => XS.goto X315h.here hx rfl (pc0 := 407) (pc' := 411) rfl (hb hby at_407) (by decide) (by decide) k') ?_
                            show G (T315.setTop (mkF m 411 #[.val (.int u0), .val (.int u1), .val (.int u2), .val (.int u3), .val (.int u4), .val (.int nn), .val (.int ov), .val (.int tv), .val (.int iv), .val (.int jv), .val (.int lv), .val (.int cv), .val (.int kv), .val (.ref b270), .val (.ref b290), .val (.int (1 : Int32)), .val (.int (1 : Int32)), .val (.int (1 : Int32)), .unset, .val (.int k2), .unset] [(.int (1 : Int32)), (.int (b2i (!(gb k2N))))]))
                            exact J411 T315 _ X315h hh315 N315h _ (own_nff (fun z => ((hgb k2N).mp z).elim (fun y => c317 ((own_eq hk2 hi).mpr y)) (fun y => c319 ((own_eq hk2 hj).mpr y))))
                    · refine go _ _ (fun t' k' => XS.ifNo X313.here hx rfl (hb hby at_308) rfl (Free.XT.i0_eq_f c314) k') ?_
                      show G (T313.setTop (mkF m 311 #[.val (.int u0), .val (.int u1), .val (.int u2), .val (.int u3), .val (.int u4), .val (.int nn), .val (.int ov), .val (.int tv), .val (.int iv), .val (.int jv), .val (.int lv), .val (.int cv), .val (.int kv), .val (.ref b270), .val (.ref b290), .val (.int (1 : Int32)), .val (.int (1 : Int32)), .val (.int (1 : Int32)), .unset, .unset, .unset] []))
                      refine go _ _ (fun t' k' => XS.iload X313.here hx rfl (hb hby at_311) rfl  k') ?_
                      show G (T313.setTop (mkF m 313 #[.val (.int u0), .val (.int u1), .val (.int u2), .val (.int u3), .val (.int u4), .val (.int nn), .val (.int ov), .val (.int tv), .val (.int iv), .val (.int jv), .val (.int lv), .val (.int cv), .val (.int kv), .val (.ref b270), .val (.ref b290), .val (.int (1 : Int32)), .val (.int (1 : Int32)), .val (.int (1 : Int32)), .unset, .unset, .unset] [(.int lv)]))
                      refine go _ _ (fun t' k' => XS.iconst X313.here hx rfl (hb hby at_313) k') ?_
                      show G (T313.setTop (mkF m 314 #[.val (.int u0), .val (.int u1), .val (.int u2), .val (.int u3), .val (.int u4), .val (.int nn), .val (.int ov), .val (.int tv), .val (.int iv), .val (.int jv), .val (.int lv), .val (.int cv), .val (.int kv), .val (.ref b270), .val (.ref b290), .val (.int (1 : Int32)), .val (.int (1 : Int32)), .val (.int (1 : Int32)), .unset, .unset, .unset] [(.int (1 : Int32)), (.int lv)]))
                      refine go _ _ (fun t' k' => XS.iadd X313.here hx rfl (hb hby at_314) rfl k') ?_
                      show G (T313.setTop (mkF m 315 #[.val (.int u0), .val (.int u1), .val (.int u2), .val (.int u3), .val (.int u4), .val (.int nn), .val (.int ov), .val (.int tv), .val (.int iv), .val (.int jv), .val (.int lv), .val (.int cv), .val (.int kv), .val (.ref b270), .val (.ref b290), .val (.int (1 : Int32)), .val (.int (1 : Int32)), .val (.int (1 : Int32)), .unset, .unset, .unset] [(.int (lv + (1 : Int32)))]))
                      refine go _ _ (fun t' k' => XS.iload X313.here hx rfl (hb hby at_315) rfl  k') ?_
                      show G (T313.setTop (mkF m 317 #[.val (.int u0), .val (.int u1), .val (.int u2), .val (.int u3), .val (.int u4), .val (.int nn), .val (.int ov), .val (.int tv), .val (.int iv), .val (.int jv), .val (.int lv), .val (.int cv), .val (.int kv), .val (.ref b270), .val (.ref b290), .val (.int (1 : Int32)), .val (.int (1 : Int32)), .val (.int (1 : Int32)), .unset, .unset, .unset] [(.int nn), (.int (lv + (1 : Int32)))]))
                      refine go _ _ (fun t' k' => XS.iconst X313.here hx rfl (hb hby at_317) k') ?_
                      show G (T313.setTop (mkF m 318 #[.val (.int u0), .val (.int u1), .val (.int u2), .val (.int u3), .val (.int u4), .val (.int nn), .val (.int ov), .val (.int tv), .val (.int iv), .val (.int jv), .val (.int lv), .val (.int cv), .val (.int kv), .val (.ref b270), .val (.ref b290), .val (.int (1 : Int32)), .val (.int (1 : Int32)), .val (.int (1 : Int32)), .unset, .unset, .unset] [(.int (1 : Int32)), (.int nn), (.int (lv + (1 : Int32)))]))
                      refine go _ _ (fun t' k' => XS.isub X313.here hx rfl (hb hby at_318) rfl k') ?_
                      show G (T313.setTop (mkF m 319 #[.val (.int u0), .val (.int u1), .val (.int u2), .val (.int u3), .val (.int u4), .val (.int nn), .val (.int ov), .val (.int tv), .val (.int iv), .val (.int jv), .val (.int lv), .val (.int cv), .val (.int kv), .val (.ref b270), .val (.ref b290), .val (.int (1 : Int32)), .val (.int (1 : Int32)), .val (.int (1 : Int32)), .unset, .unset, .unset] [(.int (nn - (1 : Int32))), (.int (lv + (1 : Int32)))]))
                      refine own_static go X313 hx hZ e313 hown (hw _ (List.mem_of_getElem? (i := 104) rfl)) (hw _ (List.mem_of_getElem? (i := 105) rfl)) (hw _ (List.mem_of_getElem? (i := 53) rfl)) (hw _ (List.mem_of_getElem? (i := 106) rfl)) (by decide) (rm_min l Z a0 hw (lv + (1 : Int32)) (nn - (1 : Int32)) h309 n0 Z309) 0 (by decide) (by decide) (by decide) (by decide) (g := (mkF m 319 #[.val (.int u0), .val (.int u1), .val (.int u2), .val (.int u3), .val (.int u4), .val (.int nn), .val (.int ov), .val (.int tv), .val (.int iv), .val (.int jv), .val (.int lv), .val (.int cv), .val (.int kv), .val (.ref b270), .val (.ref b290), .val (.int (1 : Int32)), .val (.int (1 : Int32)), .val (.int (1 : Int32)), .unset, .unset, .unset] [(.int (nn - (1 : Int32))), (.int (lv + (1 : Int32)))])) rfl (by rw [hml]; rfl) [(.int (lv + (1 : Int32))), (.int (nn - (1 : Int32)))] [] rfl (lenOf pd_1 rfl) rfl (by show 2 * 0 + _ ≤ _; exact Nat.le_of_eq rfl) (hb hby at_319) ?_
                      intro T320 L320 v320 X320 q320
                      obtain ⟨rfl, N320, hh320⟩ := q320
                      obtain ⟨lc320, X320h, N320h⟩ := own_hide X320 (Fr.app N313j N320)
                      show G (T320.setTop (mkF m 322 #[.val (.int u0), .val (.int u1), .val (.int u2), .val (.int u3), .val (.int u4), .val (.int nn), .val (.int ov), .val (.int tv), .val (.int iv), .val (.int jv), .val (.int lv), .val (.int cv), .val (.int kv), .val (.ref b270), .val (.ref b290), .val (.int (1 : Int32)), .val (.int (1 : Int32)), .val (.int (1 : Int32)), .unset, .unset, .unset] [(.int (if (nn - (1 : Int32)) < (lv + (1 : Int32)) then (nn - (1 : Int32)) else (lv + (1 : Int32))))]))
                      refine go _ _ (fun t' k' => XS.istore X320h.here hx rfl (hb hby at_322) rfl (l' := #[.val (.int u0), .val (.int u1), .val (.int u2), .val (.int u3), .val (.int u4), .val (.int nn), .val (.int ov), .val (.int tv), .val (.int iv), .val (.int jv), .val (.int lv), .val (.int cv), .val (.int kv), .val (.ref b270), .val (.ref b290), .val (.int (1 : Int32)), .val (.int (1 : Int32)), .val (.int (1 : Int32)), .unset, .val (.int (if (nn - (1 : Int32)) < (lv + (1 : Int32)) then (nn - (1 : Int32)) else (lv + (1 : Int32)))), .unset]) rfl k') ?_
                      show G (T320.setTop (mkF m 324 #[.val (.int u0), .val (.int u1), .val (.int u2), .val (.int u3), .val (.int u4), .val (.int nn), .val (.int ov), .val (.int tv), .val (.int iv), .val (.int jv), .val (.int lv), .val (.int cv), .val (.int kv), .val (.ref b270), .val (.ref b290), .val (.int (1 : Int32)), .val (.int (1 : Int32)), .val (.int (1 : Int32)), .unset, .val (.int (if (nn - (1 : Int32)) < (lv + (1 : Int32)) then (nn - (1 : Int32)) else (lv + (1 : Int32)))), .unset] []))
                      obtain ⟨mv, hmv⟩ : ∃ z, z = (if (nn - (1 : Int32)) < (lv + (1 : Int32)) then (nn - (1 : Int32)) else (lv + (1 : Int32))) := ⟨_, rfl⟩
                      rw [← hmv]
                      show G (T320.setTop (mkF m 324 #[.val (.int u0), .val (.int u1), .val (.int u2), .val (.int u3), .val (.int u4), .val (.int nn), .val (.int ov), .val (.int tv), .val (.int iv), .val (.int jv), .val (.int lv), .val (.int cv), .val (.int kv), .val (.ref b270), .val (.ref b290), .val (.int (1 : Int32)), .val (.int (1 : Int32)), .val (.int (1 : Int32)), .unset, .val (.int mv), .unset] []))
                      obtain ⟨mN, hm, hmN⟩ := own_min (own_add hlv (j := 1) rfl (by omega)) (own_sub hN (j := 1) rfl (by omega) (by omega)) hmv
                      refine go _ _ (fun t' k' => XS.iload X320h.here hx rfl (hb hby at_324) rfl  k') ?_
                      show G (T320.setTop (mkF m 326 #[.val (.int u0), .val (.int u1), .val (.int u2), .val (.int u3), .val (.int u4), .val (.int nn), .val (.int ov), .val (.int tv), .val (.int iv), .val (.int jv), .val (.int lv), .val (.int cv), .val (.int kv), .val (.ref b270), .val (.ref b290), .val (.int (1 : Int32)), .val (.int (1 : Int32)), .val (.int (1 : Int32)), .unset, .val (.int mv), .unset] [(.int u4)]))
                      refine go _ _ (fun t' k' => X320h.ldcInt hx hown (mvT hZ (hw _ (List.mem_of_getElem? (i := 0) rfl))) (g := (mkF m 326 #[.val (.int u0), .val (.int u1), .val (.int u2), .val (.int u3), .val (.int u4), .val (.int nn), .val (.int ov), .val (.int tv), .val (.int iv), .val (.int jv), .val (.int lv), .val (.int cv), .val (.int kv), .val (.ref b270), .val (.ref b290), .val (.int (1 : Int32)), .val (.int (1 : Int32)), .val (.int (1 : Int32)), .unset, .val (.int mv), .unset] [(.int u4)])) rfl (hb hby at_326) _ k') ?_
                      show G (T320.setTop (mkF m 328 #[.val (.int u0), .val (.int u1), .val (.int u2), .val (.int u3), .val (.int u4), .val (.int nn), .val (.int ov), .val (.int tv), .val (.int iv), .val (.int jv), .val (.int lv), .val (.int cv), .val (.int kv), .val (.ref b270), .val (.ref b290), .val (.int (1 : Int32)), .val (.int (1 : Int32)), .val (.int (1 : Int32)), .unset, .val (.int mv), .unset] [(.int (2147483647 : Int32)), (.int u4)]))
                      refine go _ _ (fun t' k' => XS.iand X320h.here hx rfl (hb hby at_328) rfl k') ?_
                      show G (T320.setTop (mkF m 329 #[.val (.int u0), .val (.int u1), .val (.int u2), .val (.int u3), .val (.int u4), .val (.int nn), .val (.int ov), .val (.int tv), .val (.int iv), .val (.int jv), .val (.int lv), .val (.int cv), .val (.int kv), .val (.ref b270), .val (.ref b290), .val (.int (1 : Int32)), .val (.int (1 : Int32)), .val (.int (1 : Int32)), .unset, .val (.int mv), .unset] [(.int (u4 &&& (2147483647 : Int32)))]))
                      refine go _ _ (fun t' k' => XS.iload X320h.here hx rfl (hb hby at_329) rfl  k') ?_
                      show G (T320.setTop (mkF m 331 #[.val (.int u0), .val (.int u1), .val (.int u2), .val (.int u3), .val (.int u4), .val (.int nn), .val (.int ov), .val (.int tv), .val (.int iv), .val (.int jv), .val (.int lv), .val (.int cv), .val (.int kv), .val (.ref b270), .val (.ref b290), .val (.int (1 : Int32)), .val (.int (1 : Int32)), .val (.int (1 : Int32)), .unset, .val (.int mv), .unset] [(.int mv), (.int (u4 &&& (2147483647 : Int32)))]))
                      refine go _ _ (fun t' k' => XS.iconst X320h.here hx rfl (hb hby at_331) k') ?_
                      show G (T320.setTop (mkF m 332 #[.val (.int u0), .val (.int u1), .val (.int u2), .val (.int u3), .val (.int u4), .val (.int nn), .val (.int ov), .val (.int tv), .val (.int iv), .val (.int jv), .val (.int lv), .val (.int cv), .val (.int kv), .val (.ref b270), .val (.ref b290), .val (.int (1 : Int32)), .val (.int (1 : Int32)), .val (.int (1 : Int32)), .unset, .val (.int mv), .unset] [(.int (1 : Int32)), (.int mv), (.int (u4 &&& (2147483647 : Int32)))]))
                      refine go _ _ (fun t' k' => XS.iadd X320h.here hx rfl (hb hby at_332) rfl k') ?_
                      show G (T320.setTop (mkF m 333 #[.val (.int u0), .val (.int u1), .val (.int u2), .val (.int u3), .val (.int u4), .val (.int nn), .val (.int ov), .val (.int tv), .val (.int iv), .val (.int jv), .val (.int lv), .val (.int cv), .val (.int kv), .val (.ref b270), .val (.ref b290), .val (.int (1 : Int32)), .val (.int (1 : Int32)), .val (.int (1 : Int32)), .unset, .val (.int mv), .unset] [(.int (mv + (1 : Int32))), (.int (u4 &&& (2147483647 : Int32)))]))
                      refine go _ _ (fun t' k' => iremM X320h hx rfl (hb hby at_333) rfl (own_nz (own_add hm (j := 1) rfl (by omega)) (by omega)) k') ?_
                      show G (T320.setTop (mkF m 334 #[.val (.int u0), .val (.int u1), .val (.int u2), .val (.int u3), .val (.int u4), .val (.int nn), .val (.int ov), .val (.int tv), .val (.int iv), .val (.int jv), .val (.int lv), .val (.int cv), .val (.int kv), .val (.ref b270), .val (.ref b290), .val (.int (1 : Int32)), .val (.int (1 : Int32)), .val (.int (1 : Int32)), .unset, .val (.int mv), .unset] [(.int ((u4 &&& (2147483647 : Int32)) % (mv + (1 : Int32))))]))
                      refine go _ _ (fun t' k' => XS.istore X320h.here hx rfl (hb hby at_334) rfl (l' := #[.val (.int u0), .val (.int u1), .val (.int u2), .val (.int u3), .val (.int u4), .val (.int nn), .val (.int ov), .val (.int tv), .val (.int iv), .val (.int jv), .val (.int lv), .val (.int cv), .val (.int kv), .val (.ref b270), .val (.ref b290), .val (.int (1 : Int32)), .val (.int (1 : Int32)), .val (.int (1 : Int32)), .unset, .val (.int mv), .val (.int ((u4 &&& (2147483647 : Int32)) % (mv + (1 : Int32))))]) rfl k') ?_
                      show G (T320.setTop (mkF m 336 #[.val (.int u0), .val (.int u1), .val (.int u2), .val (.int u3), .val (.int u4), .val (.int nn), .val (.int ov), .val (.int tv), .val (.int iv), .val (.int jv), .val (.int lv), .val (.int cv), .val (.int kv), .val (.ref b270), .val (.ref b290), .val (.int (1 : Int32)), .val (.int (1 : Int32)), .val (.int (1 : Int32)), .unset, .val (.int mv), .val (.int ((u4 &&& (2147483647 : Int32)) % (mv + (1 : Int32))))] []))
                      obtain ⟨k2, hk2e⟩ : ∃ z, z = ((u4 &&& (2147483647 : Int32)) % (mv + (1 : Int32))) := ⟨_, rfl⟩
                      rw [← hk2e]
                      show G (T320.setTop (mkF m 336 #[.val (.int u0), .val (.int u1), .val (.int u2), .val (.int u3), .val (.int u4), .val (.int nn), .val (.int ov), .val (.int tv), .val (.int iv), .val (.int jv), .val (.int lv), .val (.int cv), .val (.int kv), .val (.ref b270), .val (.ref b290), .val (.int (1 : Int32)), .val (.int (1 : Int32)), .val (.int (1 : Int32)), .unset, .val (.int mv), .val (.int k2)] []))
                      obtain ⟨k2N, hk2, hk2N⟩ := own_rem (own_add hm (j := 1) rfl (by omega)) (by omega) hk2e
                      have hle2 : ¬ lv + 1 < k2 := (not_congr (own_lt (own_add hlv (j := 1) rfl (by omega)) hk2)).mpr (by omega)
                      refine go _ _ (fun t' k' => XS.aload X320h.here hx rfl (hb hby at_336) rfl rfl  k') ?_
                      show G (T320.setTop (mkF m 338 #[.val (.int u0), .val (.int u1), .val (.int u2), .val (.int u3), .val (.int u4), .val (.int nn), .val (.int ov), .val (.int tv), .val (.int iv), .val (.int jv), .val (.int lv), .val (.int cv), .val (.int kv), .val (.ref b270), .val (.ref b290), .val (.int (1 : Int32)), .val (.int (1 : Int32)), .val (.int (1 : Int32)), .unset, .val (.int mv), .val (.int k2)] [(.ref b290)]))
                      refine go _ _ (fun t' k' => XS.iload X320h.here hx rfl (hb hby at_338) rfl  k') ?_
                      show G (T320.setTop (mkF m 340 #[.val (.int u0), .val (.int u1), .val (.int u2), .val (.int u3), .val (.int u4), .val (.int nn), .val (.int ov), .val (.int tv), .val (.int iv), .val (.int jv), .val (.int lv), .val (.int cv), .val (.int kv), .val (.ref b270), .val (.ref b290), .val (.int (1 : Int32)), .val (.int (1 : Int32)), .val (.int (1 : Int32)), .unset, .val (.int mv), .val (.int k2)] [(.int k2), (.ref b290)]))
                      refine own_virtual go X320h hx hZ hh320 hown (hw _ (List.mem_of_getElem? (i := 99) rfl)) (hw _ (List.mem_of_getElem? (i := 100) rfl)) (notFace_of_selects (args := #[]) (mvT hZ (hw _ (List.mem_of_getElem? (i := 102) rfl)))) (hw _ (List.mem_of_getElem? (i := 102) rfl)) (hw _ (List.mem_of_getElem? (i := 101) rfl)) (hw _ (List.mem_of_getElem? (i := 59) rfl)) (hw _ (List.mem_of_getElem? (i := 103) rfl)) (by decide) (rm_mo l Z a0 hw b290 k2 gv b270 ov cv (lv + 1) gb N 0 h309 n0 Z309 f309_4 f309_5 f309_6 f309_7 f309_8 c314 hle2) 0 (by decide) (by decide) (by decide) (by decide) f309_0 (g := (mkF m 340 #[.val (.int u0), .val (.int u1), .val (.int u2), .val (.int u3), .val (.int u4), .val (.int nn), .val (.int ov), .val (.int tv), .val (.int iv), .val (.int jv), .val (.int lv), .val (.int cv), .val (.int kv), .val (.ref b270), .val (.ref b290), .val (.int (1 : Int32)), .val (.int (1 : Int32)), .val (.int (1 : Int32)), .unset, .val (.int mv), .val (.int k2)] [(.int k2), (.ref b290)])) rfl (by rw [hml]; rfl) [(.int k2)] [] rfl (lenOf pd_8 rfl) rfl (by show 2 * 0 + _ ≤ _; exact Nat.le_of_eq rfl) (hb hby at_340) ?_
                      intro T321 L321 v321 X321 q321
                      obtain ⟨rfl, N321, hh321⟩ := q321
                      obtain ⟨lc321, X321h, N321h⟩ := own_hide X321 (Fr.app N320h N321)
                      show G (T321.setTop (mkF m 343 #[.val (.int u0), .val (.int u1), .val (.int u2), .val (.int u3), .val (.int u4), .val (.int nn), .val (.int ov), .val (.int tv), .val (.int iv), .val (.int jv), .val (.int lv), .val (.int cv), .val (.int kv), .val (.ref b270), .val (.ref b290), .val (.int (1 : Int32)), .val (.int (1 : Int32)), .val (.int (1 : Int32)), .unset, .val (.int mv), .val (.int k2)] [(.int (if k2 < lv + 1 then (0 : Int32) else 1))]))
                      refine go _ _ (fun t' k' => XS.iload X321h.here hx rfl (hb hby at_343) rfl  k') ?_
                      show G (T321.setTop (mkF m 345 #[.val (.int u0), .val (.int u1), .val (.int u2), .val (.int u3), .val (.int u4), .val (.int nn), .val (.int ov), .val (.int tv), .val (.int iv), .val (.int jv), .val (.int lv), .val (.int cv), .val (.int kv), .val (.ref b270), .val (.ref b290), .val (.int (1 : Int32)), .val (.int (1 : Int32)), .val (.int (1 : Int32)), .unset, .val (.int mv), .val (.int k2)] [(.int k2), (.int (if k2 < lv + 1 then (0 : Int32) else 1))]))
                      refine go _ _ (fun t' k' => XS.iload X321h.here hx rfl (hb hby at_345) rfl  k') ?_
                      show G (T321.setTop (mkF m 347 #[.val (.int u0), .val (.int u1), .val (.int u2), .val (.int u3), .val (.int u4), .val (.int nn), .val (.int ov), .val (.int tv), .val (.int iv), .val (.int jv), .val (.int lv), .val (.int cv), .val (.int kv), .val (.ref b270), .val (.ref b290), .val (.int (1 : Int32)), .val (.int (1 : Int32)), .val (.int (1 : Int32)), .unset, .val (.int mv), .val (.int k2)] [(.int lv), (.int k2), (.int (if k2 < lv + 1 then (0 : Int32) else 1))]))
                      refine go _ _ (fun t' k' => XS.iconst X321h.here hx rfl (hb hby at_347) k') ?_
                      show G (T321.setTop (mkF m 348 #[.val (.int u0), .val (.int u1), .val (.int u2), .val (.int u3), .val (.int u4), .val (.int nn), .val (.int ov), .val (.int tv), .val (.int iv), .val (.int jv), .val (.int lv), .val (.int cv), .val (.int kv), .val (.ref b270), .val (.ref b290), .val (.int (1 : Int32)), .val (.int (1 : Int32)), .val (.int (1 : Int32)), .unset, .val (.int mv), .val (.int k2)] [(.int (1 : Int32)), (.int lv), (.int k2), (.int (if k2 < lv + 1 then (0 : Int32) else 1))]))
                      refine go _ _ (fun t' k' => XS.iadd X321h.here hx rfl (hb hby at_348) rfl k') ?_
                      show G (T321.setTop (mkF m 349 #[.val (.int u0), .val (.int u1), .val (.int u2), .val (.int u3), .val (.int u4), .val (.int nn), .val (.int ov), .val (.int tv), .val (.int iv), .val (.int jv), .val (.int lv), .val (.int cv), .val (.int kv), .val (.ref b270), .val (.ref b290), .val (.int (1 : Int32)), .val (.int (1 : Int32)), .val (.int (1 : Int32)), .unset, .val (.int mv), .val (.int k2)] [(.int (lv + (1 : Int32))), (.int k2), (.int (if k2 < lv + 1 then (0 : Int32) else 1))]))
                      have J357 : ∀ (T : State) (locs : List Loc), Stand p l e room_1 s m #[(.int u0), (.int u1), (.int u2), (.int u3), (.int u4)] below meth c T locs 4 22 → T.heap = h309 → Fr n0 locs → ∀ (x3 : Int32), (x3 = (if k2 = lv + 1 then 1 else 0)) → G (T.setTop (mkF m 357 #[.val (.int u0), .val (.int u1), .val (.int u2), .val (.int u3), .val (.int u4), .val (.int nn), .val (.int ov), .val (.int tv), .val (.int iv), .val (.int jv), .val (.int lv), .val (.int cv), .val (.int kv), .val (.ref b270), .val (.ref b290), .val (.int (1 : Int32)), .val (.int (1 : Int32)), .val (.int (1 : Int32)), .unset, .val (.int mv), .val (.int k2)] [(.int x3), (.int (if k2 < lv + 1 then (0 : Int32) else 1))])) := by
                        intro T322 locs322 X322 e322 N322j x3 hx3
                        show G (T322.setTop (mkF m 357 #[.val (.int u0), .val (.int u1), .val (.int u2), .val (.int u3), .val (.int u4), .val (.int nn), .val (.int ov), .val (.int tv), .val (.int iv), .val (.int jv), .val (.int lv), .val (.int cv), .val (.int kv), .val (.ref b270), .val (.ref b290), .val (.int (1 : Int32)), .val (.int (1 : Int32)), .val (.int (1 : Int32)), .unset, .val (.int mv), .val (.int k2)] [(.int x3), (.int (if k2 < lv + 1 then (0 : Int32) else 1))]))
                        refine go _ _ (fun t' k' => XS.icmpNo X322.here hx rfl (hb hby at_357) rfl (Free.XT.ii_ne_f ((own_mo hle2).trans hx3.symm)) k') ?_
                        show G (T322.setTop (mkF m 360 #[.val (.int u0), .val (.int u1), .val (.int u2), .val (.int u3), .val (.int u4), .val (.int nn), .val (.int ov), .val (.int tv), .val (.int iv), .val (.int jv), .val (.int lv), .val (.int cv), .val (.int kv), .val (.ref b270), .val (.ref b290), .val (.int (1 : Int32)), .val (.int (1 : Int32)), .val (.int (1 : Int32)), .unset, .val (.int mv), .val (.int k2)] []))
                        refine go _ _ (fun t' k' => XS.iconst X322.here hx rfl (hb hby at_360) k') ?_
                        show G (T322.setTop (mkF m 361 #[.val (.int u0), .val (.int u1), .val (.int u2), .val (.int u3), .val (.int u4), .val (.int nn), .val (.int ov), .val (.int tv), .val (.int iv), .val (.int jv), .val (.int lv), .val (.int cv), .val (.int kv), .val (.ref b270), .val (.ref b290), .val (.int (1 : Int32)), .val (.int (1 : Int32)), .val (.int (1 : Int32)), .unset, .val (.int mv), .val (.int k2)] [(.int (1 : Int32))]))
                        refine go _ _ (fun t' k' => XS.goto X322.here hx rfl (pc0 := 361) (pc' := 365) rfl (hb hby at_361) (by decide) (by decide) k') ?_
                        show G (T322.setTop (mkF m 365 #[.val (.int u0), .val (.int u1), .val (.int u2), .val (.int u3), .val (.int u4), .val (.int nn), .val (.int ov), .val (.int tv), .val (.int iv), .val (.int jv), .val (.int lv), .val (.int cv), .val (.int kv), .val (.ref b270), .val (.ref b290), .val (.int (1 : Int32)), .val (.int (1 : Int32)), .val (.int (1 : Int32)), .unset, .val (.int mv), .val (.int k2)] [(.int (1 : Int32))]))
                        refine go _ _ (fun t' k' => XS.istore X322.here hx rfl (hb hby at_365) rfl (l' := #[.val (.int u0), .val (.int u1), .val (.int u2), .val (.int u3), .val (.int u4), .val (.int nn), .val (.int ov), .val (.int tv), .val (.int iv), .val (.int jv), .val (.int lv), .val (.int cv), .val (.int kv), .val (.ref b270), .val (.ref b290), .val (.int (1 : Int32)), .val (.int (1 : Int32)), .val (.int (1 : Int32)), .val (.int (1 : Int32)), .val (.int mv), .val (.int k2)]) rfl k') ?_
                        show G (T322.setTop (mkF m 367 #[.val (.int u0), .val (.int u1), .val (.int u2), .val (.int u3), .val (.int u4), .val (.int nn), .val (.int ov), .val (.int tv), .val (.int iv), .val (.int jv), .val (.int lv), .val (.int cv), .val (.int kv), .val (.ref b270), .val (.ref b290), .val (.int (1 : Int32)), .val (.int (1 : Int32)), .val (.int (1 : Int32)), .val (.int (1 : Int32)), .val (.int mv), .val (.int k2)] []))
                        refine go _ _ (fun t' k' => XS.goto X322.here hx rfl (pc0 := 367) (pc' := 421) rfl (hb hby at_367) (by decide) (by decide) k') ?_
                        show G (T322.setTop (mkF m 421 #[.val (.int u0), .val (.int u1), .val (.int u2), .val (.int u3), .val (.int u4), .val (.int nn), .val (.int ov), .val (.int tv), .val (.int iv), .val (.int jv), .val (.int lv), .val (.int cv), .val (.int kv), .val (.ref b270), .val (.ref b290), .val (.int (1 : Int32)), .val (.int (1 : Int32)), .val (.int (1 : Int32)), .val (.int (1 : Int32)), .val (.int mv), .val (.int k2)] []))
                        refine go _ _ (fun t' k' => XS.iload X322.here hx rfl (hb hby at_421) rfl  k') ?_
                        show G (T322.setTop (mkF m 423 #[.val (.int u0), .val (.int u1), .val (.int u2), .val (.int u3), .val (.int u4), .val (.int nn), .val (.int ov), .val (.int tv), .val (.int iv), .val (.int jv), .val (.int lv), .val (.int cv), .val (.int kv), .val (.ref b270), .val (.ref b290), .val (.int (1 : Int32)), .val (.int (1 : Int32)), .val (.int (1 : Int32)), .val (.int (1 : Int32)), .val (.int mv), .val (.int k2)] [(.int (1 : Int32))]))
                        refine go _ _ (fun t' k' => XS.ifNo X322.here hx rfl (hb hby at_423) rfl (Free.XT.i0_eq_f (by decide)) k') ?_
                        show G (T322.setTop (mkF m 426 #[.val (.int u0), .val (.int u1), .val (.int u2), .val (.int u3), .val (.int u4), .val (.int nn), .val (.int ov), .val (.int tv), .val (.int iv), .val (.int jv), .val (.int lv), .val (.int cv), .val (.int kv), .val (.ref b270), .val (.ref b290), .val (.int (1 : Int32)), .val (.int (1 : Int32)), .val (.int (1 : Int32)), .val (.int (1 : Int32)), .val (.int mv), .val (.int k2)] []))
                        refine go _ _ (fun t' k' => XS.iload X322.here hx rfl (hb hby at_426) rfl  k') ?_
                        show G (T322.setTop (mkF m 428 #[.val (.int u0), .val (.int u1), .val (.int u2), .val (.int u3), .val (.int u4), .val (.int nn), .val (.int ov), .val (.int tv), .val (.int iv), .val (.int jv), .val (.int lv), .val (.int cv), .val (.int kv), .val (.ref b270), .val (.ref b290), .val (.int (1 : Int32)), .val (.int (1 : Int32)), .val (.int (1 : Int32)), .val (.int (1 : Int32)), .val (.int mv), .val (.int k2)] [(.int (1 : Int32))]))
                        refine go _ _ (fun t' k' => XS.ifNo X322.here hx rfl (hb hby at_428) rfl (Free.XT.i0_eq_f (by decide)) k') ?_
                        show G (T322.setTop (mkF m 431 #[.val (.int u0), .val (.int u1), .val (.int u2), .val (.int u3), .val (.int u4), .val (.int nn), .val (.int ov), .val (.int tv), .val (.int iv), .val (.int jv), .val (.int lv), .val (.int cv), .val (.int kv), .val (.ref b270), .val (.ref b290), .val (.int (1 : Int32)), .val (.int (1 : Int32)), .val (.int (1 : Int32)), .val (.int (1 : Int32)), .val (.int mv), .val (.int k2)] []))
                        refine go _ _ (fun t' k' => XS.iload X322.here hx rfl (hb hby at_431) rfl  k') ?_
                        show G (T322.setTop (mkF m 433 #[.val (.int u0), .val (.int u1), .val (.int u2), .val (.int u3), .val (.int u4), .val (.int nn), .val (.int ov), .val (.int tv), .val (.int iv), .val (.int jv), .val (.int lv), .val (.int cv), .val (.int kv), .val (.ref b270), .val (.ref b290), .val (.int (1 : Int32)), .val (.int (1 : Int32)), .val (.int (1 : Int32)), .val (.int (1 : Int32)), .val (.int mv), .val (.int k2)] [(.int (1 : Int32))]))
                        refine go _ _ (fun t' k' => XS.ifNo X322.here hx rfl (hb hby at_433) rfl (Free.XT.i0_eq_f (by decide)) k') ?_
                        show G (T322.setTop (mkF m 436 #[.val (.int u0), .val (.int u1), .val (.int u2), .val (.int u3), .val (.int u4), .val (.int nn), .val (.int ov), .val (.int tv), .val (.int iv), .val (.int jv), .val (.int lv), .val (.int cv), .val (.int kv), .val (.ref b270), .val (.ref b290), .val (.int (1 : Int32)), .val (.int (1 : Int32)), .val (.int (1 : Int32)), .val (.int (1 : Int32)), .val (.int mv), .val (.int k2)] []))
                        refine go _ _ (fun t' k' => XS.iload X322.here hx rfl (hb hby at_436) rfl  k') ?_
                        show G (T322.setTop (mkF m 438 #[.val (.int u0), .val (.int u1), .val (.int u2), .val (.int u3), .val (.int u4), .val (.int nn), .val (.int ov), .val (.int tv), .val (.int iv), .val (.int jv), .val (.int lv), .val (.int cv), .val (.int kv), .val (.ref b270), .val (.ref b290), .val (.int (1 : Int32)), .val (.int (1 : Int32)), .val (.int (1 : Int32)), .val (.int (1 : Int32)), .val (.int mv), .val (.int k2)] [(.int (1 : Int32))]))
                        refine go _ _ (fun t' k' => XS.ifNo X322.here hx rfl (hb hby at_438) rfl (Free.XT.i0_eq_f (by decide)) k') ?_
                        show G (T322.setTop (mkF m 441 #[.val (.int u0), .val (.int u1), .val (.int u2), .val (.int u3), .val (.int u4), .val (.int nn), .val (.int ov), .val (.int tv), .val (.int iv), .val (.int jv), .val (.int lv), .val (.int cv), .val (.int kv), .val (.ref b270), .val (.ref b290), .val (.int (1 : Int32)), .val (.int (1 : Int32)), .val (.int (1 : Int32)), .val (.int (1 : Int32)), .val (.int mv), .val (.int k2)] []))
                        refine go _ _ (fun t' k' => XS.iconst X322.here hx rfl (hb hby at_441) k') ?_
                        show G (T322.setTop (mkF m 442 #[.val (.int u0), .val (.int u1), .val (.int u2), .val (.int u3), .val (.int u4), .val (.int nn), .val (.int ov), .val (.int tv), .val (.int iv), .val (.int jv), .val (.int lv), .val (.int cv), .val (.int kv), .val (.ref b270), .val (.ref b290), .val (.int (1 : Int32)), .val (.int (1 : Int32)), .val (.int (1 : Int32)), .val (.int (1 : Int32)), .val (.int mv), .val (.int k2)] [(.int (1 : Int32))]))
                        refine go _ _ (fun t' k' => XS.goto X322.here hx rfl (pc0 := 442) (pc' := 446) rfl (hb hby at_442) (by decide) (by decide) k') ?_
                        show G (T322.setTop (mkF m 446 #[.val (.int u0), .val (.int u1), .val (.int u2), .val (.int u3), .val (.int u4), .val (.int nn), .val (.int ov), .val (.int tv), .val (.int iv), .val (.int jv), .val (.int lv), .val (.int cv), .val (.int kv), .val (.ref b270), .val (.ref b290), .val (.int (1 : Int32)), .val (.int (1 : Int32)), .val (.int (1 : Int32)), .val (.int (1 : Int32)), .val (.int mv), .val (.int k2)] [(.int (1 : Int32))]))
                        refine own_retZ rt X322 hx (t := .boolean) hret (by simp) (hb hby at_446) (by decide) (by decide) ?_
                        exact ⟨rfl, N322j⟩
                      by_cases c323 : k2 = (lv + (1 : Int32))
                      · refine go _ _ (fun t' k' => XS.icmpNo X321h.here hx rfl (hb hby at_349) rfl (Free.XT.ii_ne_f c323) k') ?_
                        show G (T321.setTop (mkF m 352 #[.val (.int u0), .val (.int u1), .val (.int u2), .val (.int u3), .val (.int u4), .val (.int nn), .val (.int ov), .val (.int tv), .val (.int iv), .val (.int jv), .val (.int lv), .val (.int cv), .val (.int kv), .val (.ref b270), .val (.ref b290), .val (.int (1 : Int32)), .val (.int (1 : Int32)), .val (.int (1 : Int32)), .unset, .val (.int mv), .val (.int k2)] [(.int (if k2 < lv + 1 then (0 : Int32) else 1))]))
                        refine go _ _ (fun t' k' => XS.iconst X321h.here hx rfl (hb hby at_352) k') ?_
                        show G (T321.setTop (mkF m 353 #[.val (.int u0), .val (.int u1), .val (.int u2), .val (.int u3), .val (.int u4), .val (.int nn), .val (.int ov), .val (.int tv), .val (.int iv), .val (.int jv), .val (.int lv), .val (.int cv), .val (.int kv), .val (.ref b270), .val (.ref b290), .val (.int (1 : Int32)), .val (.int (1 : Int32)), .val (.int (1 : Int32)), .unset, .val (.int mv), .val (.int k2)] [(.int (1 : Int32)), (.int (if k2 < lv + 1 then (0 : Int32) else 1))]))
                        refine go _ _ (fun t' k' => XS.goto X321h.here hx rfl (pc0 := 353) (pc' := 357) rfl (hb hby at_353) (by decide) (by decide) k') ?_
                        show G (T321.setTop (mkF m 357 #[.val (.int u0), .val (.int u1), .val (.int u2), .val (.int u3), .val (.int u4), .val (.int nn), .val (.int ov), .val (.int tv), .val (.int iv), .val (.int jv), .val (.int lv), .val (.int cv), .val (.int kv), .val (.ref b270), .val (.ref b290), .val (.int (1 : Int32)), .val (.int (1 : Int32)), .val (.int (1 : Int32)), .unset, .val (.int mv), .val (.int k2)] [(.int (1 : Int32)), (.int (if k2 < lv + 1 then (0 : Int32) else 1))]))
                        exact J357 T321 _ X321h hh321 N321h _ (if_pos c323).symm
                      · refine go _ _ (fun t' k' => XS.icmpYes X321h.here hx rfl (pc0 := 349) (pc' := 356) rfl (hb hby at_349) rfl (Free.XT.ii_ne_t c323) (by decide) (by decide) k') ?_
                        show G (T321.setTop (mkF m 356 #[.val (.int u0), .val (.int u1), .val (.int u2), .val (.int u3), .val (.int u4), .val (.int nn), .val (.int ov), .val (.int tv), .val (.int iv), .val (.int jv), .val (.int lv), .val (.int cv), .val (.int kv), .val (.ref b270), .val (.ref b290), .val (.int (1 : Int32)), .val (.int (1 : Int32)), .val (.int (1 : Int32)), .unset, .val (.int mv), .val (.int k2)] [(.int (if k2 < lv + 1 then (0 : Int32) else 1))]))
                        refine go _ _ (fun t' k' => XS.iconst X321h.here hx rfl (hb hby at_356) k') ?_
                        show G (T321.setTop (mkF m 357 #[.val (.int u0), .val (.int u1), .val (.int u2), .val (.int u3), .val (.int u4), .val (.int nn), .val (.int ov), .val (.int tv), .val (.int iv), .val (.int jv), .val (.int lv), .val (.int cv), .val (.int kv), .val (.ref b270), .val (.ref b290), .val (.int (1 : Int32)), .val (.int (1 : Int32)), .val (.int (1 : Int32)), .unset, .val (.int mv), .val (.int k2)] [(.int (0 : Int32)), (.int (if k2 < lv + 1 then (0 : Int32) else 1))]))
                        exact J357 T321 _ X321h hh321 N321h _ (if_neg c323).symm
                  by_cases c324 : ov = (0 : Int32)
                  · refine go _ _ (fun t' k' => XS.ifYes X312h.here hx rfl (pc0 := 264) (pc' := 284) rfl (hb hby at_264) rfl (Free.XT.i0_eq_t c324) (by decide) (by decide) k') ?_
                    show G (T312.setTop (mkF m 284 #[.val (.int u0), .val (.int u1), .val (.int u2), .val (.int u3), .val (.int u4), .val (.int nn), .val (.int ov), .val (.int tv), .val (.int iv), .val (.int jv), .val (.int lv), .val (.int cv), .val (.int kv), .val (.ref b270), .val (.ref b290), .val (.int (1 : Int32)), .val (.int (1 : Int32)), .unset, .unset, .unset, .unset] [(.int (if ov = 0 then (if cv < nn then (1 : Int32) else 0) else (if lv + 1 < nn then 1 else 0)))]))
                    refine go _ _ (fun t' k' => XS.iload X312h.here hx rfl (hb hby at_284) rfl  k') ?_
                    show G (T312.setTop (mkF m 286 #[.val (.int u0), .val (.int u1), .val (.int u2), .val (.int u3), .val (.int u4), .val (.int nn), .val (.int ov), .val (.int tv), .val (.int iv), .val (.int jv), .val (.int lv), .val (.int cv), .val (.int kv), .val (.ref b270), .val (.ref b290), .val (.int (1 : Int32)), .val (.int (1 : Int32)), .unset, .unset, .unset, .unset] [(.int cv), (.int (if ov = 0 then (if cv < nn then (1 : Int32) else 0) else (if lv + 1 < nn then 1 else 0)))]))
                    refine go _ _ (fun t' k' => XS.iload X312h.here hx rfl (hb hby at_286) rfl  k') ?_
                    show G (T312.setTop (mkF m 288 #[.val (.int u0), .val (.int u1), .val (.int u2), .val (.int u3), .val (.int u4), .val (.int nn), .val (.int ov), .val (.int tv), .val (.int iv), .val (.int jv), .val (.int lv), .val (.int cv), .val (.int kv), .val (.ref b270), .val (.ref b290), .val (.int (1 : Int32)), .val (.int (1 : Int32)), .unset, .unset, .unset, .unset] [(.int nn), (.int cv), (.int (if ov = 0 then (if cv < nn then (1 : Int32) else 0) else (if lv + 1 < nn then 1 else 0)))]))
                    by_cases c325 : cv < nn
                    · refine go _ _ (fun t' k' => XS.icmpNo X312h.here hx rfl (hb hby at_288) rfl (Free.XT.ii_ge_f c325) k') ?_
                      show G (T312.setTop (mkF m 291 #[.val (.int u0), .val (.int u1), .val (.int u2), .val (.int u3), .val (.int u4), .val (.int nn), .val (.int ov), .val (.int tv), .val (.int iv), .val (.int jv), .val (.int lv), .val (.int cv), .val (.int kv), .val (.ref b270), .val (.ref b290), .val (.int (1 : Int32)), .val (.int (1 : Int32)), .unset, .unset, .unset, .unset] [(.int (if ov = 0 then (if cv < nn then (1 : Int32) else 0) else (if lv + 1 < nn then 1 else 0)))]))
                      refine go _ _ (fun t' k' => XS.iconst X312h.here hx rfl (hb hby at_291) k') ?_
                      show G (T312.setTop (mkF m 292 #[.val (.int u0), .val (.int u1), .val (.int u2), .val (.int u3), .val (.int u4), .val (.int nn), .val (.int ov), .val (.int tv), .val (.int iv), .val (.int jv), .val (.int lv), .val (.int cv), .val (.int kv), .val (.ref b270), .val (.ref b290), .val (.int (1 : Int32)), .val (.int (1 : Int32)), .unset, .unset, .unset, .unset] [(.int (1 : Int32)), (.int (if ov = 0 then (if cv < nn then (1 : Int32) else 0) else (if lv + 1 < nn then 1 else 0)))]))
                      refine go _ _ (fun t' k' => XS.goto X312h.here hx rfl (pc0 := 292) (pc' := 296) rfl (hb hby at_292) (by decide) (by decide) k') ?_
                      show G (T312.setTop (mkF m 296 #[.val (.int u0), .val (.int u1), .val (.int u2), .val (.int u3), .val (.int u4), .val (.int nn), .val (.int ov), .val (.int tv), .val (.int iv), .val (.int jv), .val (.int lv), .val (.int cv), .val (.int kv), .val (.ref b270), .val (.ref b290), .val (.int (1 : Int32)), .val (.int (1 : Int32)), .unset, .unset, .unset, .unset] [(.int (1 : Int32)), (.int (if ov = 0 then (if cv < nn then (1 : Int32) else 0) else (if lv + 1 < nn then 1 else 0)))]))
                      exact J296 T312 _ X312h hh312 N312h _ (by rw [if_pos c324]; simp [c325])
                    · refine go _ _ (fun t' k' => XS.icmpYes X312h.here hx rfl (pc0 := 288) (pc' := 295) rfl (hb hby at_288) rfl (Free.XT.ii_ge_t c325) (by decide) (by decide) k') ?_
                      show G (T312.setTop (mkF m 295 #[.val (.int u0), .val (.int u1), .val (.int u2), .val (.int u3), .val (.int u4), .val (.int nn), .val (.int ov), .val (.int tv), .val (.int iv), .val (.int jv), .val (.int lv), .val (.int cv), .val (.int kv), .val (.ref b270), .val (.ref b290), .val (.int (1 : Int32)), .val (.int (1 : Int32)), .unset, .unset, .unset, .unset] [(.int (if ov = 0 then (if cv < nn then (1 : Int32) else 0) else (if lv + 1 < nn then 1 else 0)))]))
                      refine go _ _ (fun t' k' => XS.iconst X312h.here hx rfl (hb hby at_295) k') ?_
                      show G (T312.setTop (mkF m 296 #[.val (.int u0), .val (.int u1), .val (.int u2), .val (.int u3), .val (.int u4), .val (.int nn), .val (.int ov), .val (.int tv), .val (.int iv), .val (.int jv), .val (.int lv), .val (.int cv), .val (.int kv), .val (.ref b270), .val (.ref b290), .val (.int (1 : Int32)), .val (.int (1 : Int32)), .unset, .unset, .unset, .unset] [(.int (0 : Int32)), (.int (if ov = 0 then (if cv < nn then (1 : Int32) else 0) else (if lv + 1 < nn then 1 else 0)))]))
                      exact J296 T312 _ X312h hh312 N312h _ (by rw [if_pos c324]; simp [c325])
                  · refine go _ _ (fun t' k' => XS.ifNo X312h.here hx rfl (hb hby at_264) rfl (Free.XT.i0_eq_f c324) k') ?_
                    show G (T312.setTop (mkF m 267 #[.val (.int u0), .val (.int u1), .val (.int u2), .val (.int u3), .val (.int u4), .val (.int nn), .val (.int ov), .val (.int tv), .val (.int iv), .val (.int jv), .val (.int lv), .val (.int cv), .val (.int kv), .val (.ref b270), .val (.ref b290), .val (.int (1 : Int32)), .val (.int (1 : Int32)), .unset, .unset, .unset, .unset] [(.int (if ov = 0 then (if cv < nn then (1 : Int32) else 0) else (if lv + 1 < nn then 1 else 0)))]))
                    refine go _ _ (fun t' k' => XS.iload X312h.here hx rfl (hb hby at_267) rfl  k') ?_
                    show G (T312.setTop (mkF m 269 #[.val (.int u0), .val (.int u1), .val (.int u2), .val (.int u3), .val (.int u4), .val (.int nn), .val (.int ov), .val (.int tv), .val (.int iv), .val (.int jv), .val (.int lv), .val (.int cv), .val (.int kv), .val (.ref b270), .val (.ref b290), .val (.int (1 : Int32)), .val (.int (1 : Int32)), .unset, .unset, .unset, .unset] [(.int lv), (.int (if ov = 0 then (if cv < nn then (1 : Int32) else 0) else (if lv + 1 < nn then 1 else 0)))]))
                    refine go _ _ (fun t' k' => XS.iconst X312h.here hx rfl (hb hby at_269) k') ?_
                    show G (T312.setTop (mkF m 270 #[.val (.int u0), .val (.int u1), .val (.int u2), .val (.int u3), .val (.int u4), .val (.int nn), .val (.int ov), .val (.int tv), .val (.int iv), .val (.int jv), .val (.int lv), .val (.int cv), .val (.int kv), .val (.ref b270), .val (.ref b290), .val (.int (1 : Int32)), .val (.int (1 : Int32)), .unset, .unset, .unset, .unset] [(.int (1 : Int32)), (.int lv), (.int (if ov = 0 then (if cv < nn then (1 : Int32) else 0) else (if lv + 1 < nn then 1 else 0)))]))
                    refine go _ _ (fun t' k' => XS.iadd X312h.here hx rfl (hb hby at_270) rfl k') ?_
                    show G (T312.setTop (mkF m 271 #[.val (.int u0), .val (.int u1), .val (.int u2), .val (.int u3), .val (.int u4), .val (.int nn), .val (.int ov), .val (.int tv), .val (.int iv), .val (.int jv), .val (.int lv), .val (.int cv), .val (.int kv), .val (.ref b270), .val (.ref b290), .val (.int (1 : Int32)), .val (.int (1 : Int32)), .unset, .unset, .unset, .unset] [(.int (lv + (1 : Int32))), (.int (if ov = 0 then (if cv < nn then (1 : Int32) else 0) else (if lv + 1 < nn then 1 else 0)))]))
                    refine go _ _ (fun t' k' => XS.iload X312h.here hx rfl (hb hby at_271) rfl  k') ?_
                    show G (T312.setTop (mkF m 273 #[.val (.int u0), .val (.int u1), .val (.int u2), .val (.int u3), .val (.int u4), .val (.int nn), .val (.int ov), .val (.int tv), .val (.int iv), .val (.int jv), .val (.int lv), .val (.int cv), .val (.int kv), .val (.ref b270), .val (.ref b290), .val (.int (1 : Int32)), .val (.int (1 : Int32)), .unset, .unset, .unset, .unset] [(.int nn), (.int (lv + (1 : Int32))), (.int (if ov = 0 then (if cv < nn then (1 : Int32) else 0) else (if lv + 1 < nn then 1 else 0)))]))
                    by_cases c326 : (lv + (1 : Int32)) < nn
                    · refine go _ _ (fun t' k' => XS.icmpNo X312h.here hx rfl (hb hby at_273) rfl (Free.XT.ii_ge_f c326) k') ?_
                      show G (T312.setTop (mkF m 276 #[.val (.int u0), .val (.int u1), .val (.int u2), .val (.int u3), .val (.int u4), .val (.int nn), .val (.int ov), .val (.int tv), .val (.int iv), .val (.int jv), .val (.int lv), .val (.int cv), .val (.int kv), .val (.ref b270), .val (.ref b290), .val (.int (1 : Int32)), .val (.int (1 : Int32)), .unset, .unset, .unset, .unset] [(.int (if ov = 0 then (if cv < nn then (1 : Int32) else 0) else (if lv + 1 < nn then 1 else 0)))]))
                      refine go _ _ (fun t' k' => XS.iconst X312h.here hx rfl (hb hby at_276) k') ?_
                      show G (T312.setTop (mkF m 277 #[.val (.int u0), .val (.int u1), .val (.int u2), .val (.int u3), .val (.int u4), .val (.int nn), .val (.int ov), .val (.int tv), .val (.int iv), .val (.int jv), .val (.int lv), .val (.int cv), .val (.int kv), .val (.ref b270), .val (.ref b290), .val (.int (1 : Int32)), .val (.int (1 : Int32)), .unset, .unset, .unset, .unset] [(.int (1 : Int32)), (.int (if ov = 0 then (if cv < nn then (1 : Int32) else 0) else (if lv + 1 < nn then 1 else 0)))]))
                      refine go _ _ (fun t' k' => XS.goto X312h.here hx rfl (pc0 := 277) (pc' := 296) rfl (hb hby at_277) (by decide) (by decide) k') ?_
                      show G (T312.setTop (mkF m 296 #[.val (.int u0), .val (.int u1), .val (.int u2), .val (.int u3), .val (.int u4), .val (.int nn), .val (.int ov), .val (.int tv), .val (.int iv), .val (.int jv), .val (.int lv), .val (.int cv), .val (.int kv), .val (.ref b270), .val (.ref b290), .val (.int (1 : Int32)), .val (.int (1 : Int32)), .unset, .unset, .unset, .unset] [(.int (1 : Int32)), (.int (if ov = 0 then (if cv < nn then (1 : Int32) else 0) else (if lv + 1 < nn then 1 else 0)))]))
                      exact J296 T312 _ X312h hh312 N312h _ (by rw [if_neg c324]; simp [c326])
                    · refine go _ _ (fun t' k' => XS.icmpYes X312h.here hx rfl (pc0 := 273) (pc' := 280) rfl (hb hby at_273) rfl (Free.XT.ii_ge_t c326) (by decide) (by decide) k') ?_
                      show G (T312.setTop (mkF m 280 #[.val (.int u0), .val (.int u1), .val (.int u2), .val (.int u3), .val (.int u4), .val (.int nn), .val (.int ov), .val (.int tv), .val (.int iv), .val (.int jv), .val (.int lv), .val (.int cv), .val (.int kv), .val (.ref b270), .val (.ref b290), .val (.int (1 : Int32)), .val (.int (1 : Int32)), .unset, .unset, .unset, .unset] [(.int (if ov = 0 then (if cv < nn then (1 : Int32) else 0) else (if lv + 1 < nn then 1 else 0)))]))
                      refine go _ _ (fun t' k' => XS.iconst X312h.here hx rfl (hb hby at_280) k') ?_
                      show G (T312.setTop (mkF m 281 #[.val (.int u0), .val (.int u1), .val (.int u2), .val (.int u3), .val (.int u4), .val (.int nn), .val (.int ov), .val (.int tv), .val (.int iv), .val (.int jv), .val (.int lv), .val (.int cv), .val (.int kv), .val (.ref b270), .val (.ref b290), .val (.int (1 : Int32)), .val (.int (1 : Int32)), .unset, .unset, .unset, .unset] [(.int (0 : Int32)), (.int (if ov = 0 then (if cv < nn then (1 : Int32) else 0) else (if lv + 1 < nn then 1 else 0)))]))
                      refine go _ _ (fun t' k' => XS.goto X312h.here hx rfl (pc0 := 281) (pc' := 296) rfl (hb hby at_281) (by decide) (by decide) k') ?_
                      show G (T312.setTop (mkF m 296 #[.val (.int u0), .val (.int u1), .val (.int u2), .val (.int u3), .val (.int u4), .val (.int nn), .val (.int ov), .val (.int tv), .val (.int iv), .val (.int jv), .val (.int lv), .val (.int cv), .val (.int kv), .val (.ref b270), .val (.ref b290), .val (.int (1 : Int32)), .val (.int (1 : Int32)), .unset, .unset, .unset, .unset] [(.int (0 : Int32)), (.int (if ov = 0 then (if cv < nn then (1 : Int32) else 0) else (if lv + 1 < nn then 1 else 0)))]))
                      exact J296 T312 _ X312h hh312 N312h _ (by rw [if_neg c324]; simp [c326])
                by_cases c327 : kv = iv
                · refine go _ _ (fun t' k' => XS.icmpYes X310h.here hx rfl (pc0 := 227) (pc' := 242) rfl (hb hby at_227) rfl (Free.XT.ii_eq_t c327) (by decide) (by decide) k') ?_
                  show G (T310.setTop (mkF m 242 #[.val (.int u0), .val (.int u1), .val (.int u2), .val (.int u3), .val (.int u4), .val (.int nn), .val (.int ov), .val (.int tv), .val (.int iv), .val (.int jv), .val (.int lv), .val (.int cv), .val (.int kv), .val (.ref b270), .val (.ref b290), .val (.int (1 : Int32)), .unset, .unset, .unset, .unset, .unset] [(.int (b2i (gb kN)))]))
                  refine go _ _ (fun t' k' => XS.iconst X310h.here hx rfl (hb hby at_242) k') ?_
                  show G (T310.setTop (mkF m 243 #[.val (.int u0), .val (.int u1), .val (.int u2), .val (.int u3), .val (.int u4), .val (.int nn), .val (.int ov), .val (.int tv), .val (.int iv), .val (.int jv), .val (.int lv), .val (.int cv), .val (.int kv), .val (.ref b270), .val (.ref b290), .val (.int (1 : Int32)), .unset, .unset, .unset, .unset, .unset] [(.int (1 : Int32)), (.int (b2i (gb kN)))]))
                  refine go _ _ (fun t' k' => XS.goto X310h.here hx rfl (pc0 := 243) (pc' := 247) rfl (hb hby at_243) (by decide) (by decide) k') ?_
                  show G (T310.setTop (mkF m 247 #[.val (.int u0), .val (.int u1), .val (.int u2), .val (.int u3), .val (.int u4), .val (.int nn), .val (.int ov), .val (.int tv), .val (.int iv), .val (.int jv), .val (.int lv), .val (.int cv), .val (.int kv), .val (.ref b270), .val (.ref b290), .val (.int (1 : Int32)), .unset, .unset, .unset, .unset, .unset] [(.int (1 : Int32)), (.int (b2i (gb kN)))]))
                  exact J247 T310 _ X310h hh310 N310h _ (own_tt ((hgb kN).mpr (Or.inl ((own_eq hk hi).mp c327))))
                · refine go _ _ (fun t' k' => XS.icmpNo X310h.here hx rfl (hb hby at_227) rfl (Free.XT.ii_eq_f c327) k') ?_
                  show G (T310.setTop (mkF m 230 #[.val (.int u0), .val (.int u1), .val (.int u2), .val (.int u3), .val (.int u4), .val (.int nn), .val (.int ov), .val (.int tv), .val (.int iv), .val (.int jv), .val (.int lv), .val (.int cv), .val (.int kv), .val (.ref b270), .val (.ref b290), .val (.int (1 : Int32)), .unset, .unset, .unset, .unset, .unset] [(.int (b2i (gb kN)))]))
                  refine go _ _ (fun t' k' => XS.iload X310h.here hx rfl (hb hby at_230) rfl  k') ?_
                  show G (T310.setTop (mkF m 232 #[.val (.int u0), .val (.int u1), .val (.int u2), .val (.int u3), .val (.int u4), .val (.int nn), .val (.int ov), .val (.int tv), .val (.int iv), .val (.int jv), .val (.int lv), .val (.int cv), .val (.int kv), .val (.ref b270), .val (.ref b290), .val (.int (1 : Int32)), .unset, .unset, .unset, .unset, .unset] [(.int tv), (.int (b2i (gb kN)))]))
                  by_cases c328 : tv = (0 : Int32)
                  · refine go _ _ (fun t' k' => XS.ifYes X310h.here hx rfl (pc0 := 232) (pc' := 246) rfl (hb hby at_232) rfl (Free.XT.i0_eq_t c328) (by decide) (by decide) k') ?_
                    show G (T310.setTop (mkF m 246 #[.val (.int u0), .val (.int u1), .val (.int u2), .val (.int u3), .val (.int u4), .val (.int nn), .val (.int ov), .val (.int tv), .val (.int iv), .val (.int jv), .val (.int lv), .val (.int cv), .val (.int kv), .val (.ref b270), .val (.ref b290), .val (.int (1 : Int32)), .unset, .unset, .unset, .unset, .unset] [(.int (b2i (gb kN)))]))
                    refine go _ _ (fun t' k' => XS.iconst X310h.here hx rfl (hb hby at_246) k') ?_
                    show G (T310.setTop (mkF m 247 #[.val (.int u0), .val (.int u1), .val (.int u2), .val (.int u3), .val (.int u4), .val (.int nn), .val (.int ov), .val (.int tv), .val (.int iv), .val (.int jv), .val (.int lv), .val (.int cv), .val (.int kv), .val (.ref b270), .val (.ref b290), .val (.int (1 : Int32)), .unset, .unset, .unset, .unset, .unset] [(.int (0 : Int32)), (.int (b2i (gb kN)))]))
                    exact J247 T310 _ X310h hh310 N310h _ (own_ff (fun z => ((hgb kN).mp z).elim (fun y => c327 ((own_eq hk hi).mpr y)) (fun y => c327 ((own_eq hk hi).mpr (y.trans ((hjt.resolve_right (fun z => z.1 c328)).2))))))
                  · refine go _ _ (fun t' k' => XS.ifNo X310h.here hx rfl (hb hby at_232) rfl (Free.XT.i0_eq_f c328) k') ?_
                    show G (T310.setTop (mkF m 235 #[.val (.int u0), .val (.int u1), .val (.int u2), .val (.int u3), .val (.int u4), .val (.int nn), .val (.int ov), .val (.int tv), .val (.int iv), .val (.int jv), .val (.int lv), .val (.int cv), .val (.int kv), .val (.ref b270), .val (.ref b290), .val (.int (1 : Int32)), .unset, .unset, .unset, .unset, .unset] [(.int (b2i (gb kN)))]))
                    refine go _ _ (fun t' k' => XS.iload X310h.here hx rfl (hb hby at_235) rfl  k') ?_
                    show G (T310.setTop (mkF m 237 #[.val (.int u0), .val (.int u1), .val (.int u2), .val (.int u3), .val (.int u4), .val (.int nn), .val (.int ov), .val (.int tv), .val (.int iv), .val (.int jv), .val (.int lv), .val (.int cv), .val (.int kv), .val (.ref b270), .val (.ref b290), .val (.int (1 : Int32)), .unset, .unset, .unset, .unset, .unset] [(.int kv), (.int (b2i (gb kN)))]))
                    refine go _ _ (fun t' k' => XS.iload X310h.here hx rfl (hb hby at_237) rfl  k') ?_
                    show G (T310.setTop (mkF m 239 #[.val (.int u0), .val (.int u1), .val (.int u2), .val (.int u3), .val (.int u4), .val (.int nn), .val (.int ov), .val (.int tv), .val (.int iv), .val (.int jv), .val (.int lv), .val (.int cv), .val (.int kv), .val (.ref b270), .val (.ref b290), .val (.int (1 : Int32)), .unset, .unset, .unset, .unset, .unset] [(.int jv), (.int kv), (.int (b2i (gb kN)))]))
                    by_cases c329 : kv = jv
                    · refine go _ _ (fun t' k' => XS.icmpNo X310h.here hx rfl (hb hby at_239) rfl (Free.XT.ii_ne_f c329) k') ?_
                      show G (T310.setTop (mkF m 242 #[.val (.int u0), .val (.int u1), .val (.int u2), .val (.int u3), .val (.int u4), .val (.int nn), .val (.int ov), .val (.int tv), .val (.int iv), .val (.int jv), .val (.int lv), .val (.int cv), .val (.int kv), .val (.ref b270), .val (.ref b290), .val (.int (1 : Int32)), .unset, .unset, .unset, .unset, .unset] [(.int (b2i (gb kN)))]))
                      refine go _ _ (fun t' k' => XS.iconst X310h.here hx rfl (hb hby at_242) k') ?_
                      show G (T310.setTop (mkF m 243 #[.val (.int u0), .val (.int u1), .val (.int u2), .val (.int u3), .val (.int u4), .val (.int nn), .val (.int ov), .val (.int tv), .val (.int iv), .val (.int jv), .val (.int lv), .val (.int cv), .val (.int kv), .val (.ref b270), .val (.ref b290), .val (.int (1 : Int32)), .unset, .unset, .unset, .unset, .unset] [(.int (1 : Int32)), (.int (b2i (gb kN)))]))
                      refine go _ _ (fun t' k' => XS.goto X310h.here hx rfl (pc0 := 243) (pc' := 247) rfl (hb hby at_243) (by decide) (by decide) k') ?_
                      show G (T310.setTop (mkF m 247 #[.val (.int u0), .val (.int u1), .val (.int u2), .val (.int u3), .val (.int u4), .val (.int nn), .val (.int ov), .val (.int tv), .val (.int iv), .val (.int jv), .val (.int lv), .val (.int cv), .val (.int kv), .val (.ref b270), .val (.ref b290), .val (.int (1 : Int32)), .unset, .unset, .unset, .unset, .unset] [(.int (1 : Int32)), (.int (b2i (gb kN)))]))
                      exact J247 T310 _ X310h hh310 N310h _ (own_tt ((hgb kN).mpr (Or.inr ((own_eq hk hj).mp c329))))
                    · refine go _ _ (fun t' k' => XS.icmpYes X310h.here hx rfl (pc0 := 239) (pc' := 246) rfl (hb hby at_239) rfl (Free.XT.ii_ne_t c329) (by decide) (by decide) k') ?_
                      show G (T310.setTop (mkF m 246 #[.val (.int u0), .val (.int u1), .val (.int u2), .val (.int u3), .val (.int u4), .val (.int nn), .val (.int ov), .val (.int tv), .val (.int iv), .val (.int jv), .val (.int lv), .val (.int cv), .val (.int kv), .val (.ref b270), .val (.ref b290), .val (.int (1 : Int32)), .unset, .unset, .unset, .unset, .unset] [(.int (b2i (gb kN)))]))
                      refine go _ _ (fun t' k' => XS.iconst X310h.here hx rfl (hb hby at_246) k') ?_
                      show G (T310.setTop (mkF m 247 #[.val (.int u0), .val (.int u1), .val (.int u2), .val (.int u3), .val (.int u4), .val (.int nn), .val (.int ov), .val (.int tv), .val (.int iv), .val (.int jv), .val (.int lv), .val (.int cv), .val (.int kv), .val (.ref b270), .val (.ref b290), .val (.int (1 : Int32)), .unset, .unset, .unset, .unset, .unset] [(.int (0 : Int32)), (.int (b2i (gb kN)))]))
                      exact J247 T310 _ X310h hh310 N310h _ (own_ff (fun z => ((hgb kN).mp z).elim (fun y => c327 ((own_eq hk hi).mpr y)) (fun y => c329 ((own_eq hk hj).mpr y))))
              by_cases c330 : tv = (0 : Int32)
              · refine go _ _ (fun t' k' => XS.ifYes X306h.here hx rfl (pc0 := 206) (pc' := 216) rfl (hb hby at_206) rfl (Free.XT.i0_eq_t c330) (by decide) (by decide) k') ?_
                show G (T306.setTop (mkF m 216 #[.val (.int u0), .val (.int u1), .val (.int u2), .val (.int u3), .val (.int u4), .val (.int nn), .val (.int ov), .val (.int tv), .val (.int iv), .val (.int jv), .val (.int lv), .val (.int cv), .val (.int kv), .val (.ref b270), .val (.ref b290), .val (.int (1 : Int32)), .unset, .unset, .unset, .unset, .unset] []))
                have hjj : jN = iN := (hjt.resolve_right (fun z => z.1 c330)).2
                have hll : iv = lv := (own_eq hi hlv).mpr hjj.symm
                have hcc : cv = 1 := (hcv.resolve_right (fun z => z.1 c330)).2
                have Fcc : Fld Z T306.heap b290 "com/example/clearbrace/clearbrace/gser/ComponentOrder" "_count" "I" (.int cv) := hcc ▸ Cd306
                have Fnn : Fld Z T306.heap b290 "com/example/clearbrace/clearbrace/gser/ComponentOrder" "_next" "I" (.int (lv + 1)) := hll ▸ Ce306
                have f331 := (f305.keep K306)
                have f332 := ((f299.keep K301).keep K306)
                have f333 := ((f300.keep K301 (ninS ne291 nin0)).keep K306 (ninS ne291 (ninS nlg nin0)))
                exact J216 T306 _ T306.heap X306h rfl N306h K307 Z308 _ (fun q => by simp [hjj]) f331 f332 f333 Ag306 Ca306 Cb306 Cc306 Fcc Fnn
              · refine go _ _ (fun t' k' => XS.ifNo X306h.here hx rfl (hb hby at_206) rfl (Free.XT.i0_eq_f c330) k') ?_
                show G (T306.setTop (mkF m 209 #[.val (.int u0), .val (.int u1), .val (.int u2), .val (.int u3), .val (.int u4), .val (.int nn), .val (.int ov), .val (.int tv), .val (.int iv), .val (.int jv), .val (.int lv), .val (.int cv), .val (.int kv), .val (.ref b270), .val (.ref b290), .val (.int (1 : Int32)), .unset, .unset, .unset, .unset, .unset] []))
                refine go _ _ (fun t' k' => XS.aload X306h.here hx rfl (hb hby at_209) rfl rfl  k') ?_
                show G (T306.setTop (mkF m 211 #[.val (.int u0), .val (.int u1), .val (.int u2), .val (.int u3), .val (.int u4), .val (.int nn), .val (.int ov), .val (.int tv), .val (.int iv), .val (.int jv), .val (.int lv), .val (.int cv), .val (.int kv), .val (.ref b270), .val (.ref b290), .val (.int (1 : Int32)), .unset, .unset, .unset, .unset, .unset] [(.ref b290)]))
                refine go _ _ (fun t' k' => XS.iload X306h.here hx rfl (hb hby at_211) rfl  k') ?_
                show G (T306.setTop (mkF m 213 #[.val (.int u0), .val (.int u1), .val (.int u2), .val (.int u3), .val (.int u4), .val (.int nn), .val (.int ov), .val (.int tv), .val (.int iv), .val (.int jv), .val (.int lv), .val (.int cv), .val (.int kv), .val (.ref b270), .val (.ref b290), .val (.int (1 : Int32)), .unset, .unset, .unset, .unset, .unset] [(.int jv), (.ref b290)]))
                have f334 := (f305.keep K306)
                refine own_virtual go X306h hx hZ rfl hown (hw _ (List.mem_of_getElem? (i := 85) rfl)) (hw _ (List.mem_of_getElem? (i := 86) rfl)) (notFace_of_selects (args := #[]) (mvT hZ (hw _ (List.mem_of_getElem? (i := 88) rfl)))) (hw _ (List.mem_of_getElem? (i := 88) rfl)) (hw _ (List.mem_of_getElem? (i := 87) rfl)) (hw _ (List.mem_of_getElem? (i := 59) rfl)) (hw _ (List.mem_of_getElem? (i := 89) rfl)) (by decide) (rm_gi l Z a0 hw b290 jv gv (fun q => if q = iN then true else (fun _ => false) q) N jN b270 ov ((0 : Int32) + 1) (iv + 1) T306.heap n0 Z308 g_b290 g_gv ngv f334 Ca306 Cb306 Cc306 Cd306 Ce306 Ag306 hj hjN) 0 (by decide) (by decide) (by decide) (by decide) f334 (g := (mkF m 213 #[.val (.int u0), .val (.int u1), .val (.int u2), .val (.int u3), .val (.int u4), .val (.int nn), .val (.int ov), .val (.int tv), .val (.int iv), .val (.int jv), .val (.int lv), .val (.int cv), .val (.int kv), .val (.ref b270), .val (.ref b290), .val (.int (1 : Int32)), .unset, .unset, .unset, .unset, .unset] [(.int jv), (.ref b290)])) rfl (by rw [hml]; rfl) [(.int jv)] [] rfl (lenOf pd_9 rfl) rfl (by show 2 * 0 + _ ≤ _; exact Nat.le_of_eq rfl) (hb hby at_213) ?_
                intro T335 L335 v335 X335 q335
                obtain ⟨rfl, N335, K335, Ca335, Cb335, Cc335, Cd335, Ce335, Ag335⟩ := q335
                obtain ⟨lc335, X335h, N335h⟩ := own_hide X335 (Fr.app N306h N335)
                have K336 : Keep h0 T335.heap [] := K307.trans K335 (allS (Or.inr sz_b290) (allS (Or.inr sz_gv) all0))
                have Z337 : n0 ≤ T335.heap.size := Nat.le_trans Z308 K335.1
                show G (T335.setTop (mkF m 216 #[.val (.int u0), .val (.int u1), .val (.int u2), .val (.int u3), .val (.int u4), .val (.int nn), .val (.int ov), .val (.int tv), .val (.int iv), .val (.int jv), .val (.int lv), .val (.int cv), .val (.int kv), .val (.ref b270), .val (.ref b290), .val (.int (1 : Int32)), .unset, .unset, .unset, .unset, .unset] []))
                have hll : jv = lv := (own_eq hj hlv).mpr rfl
                have hcc : cv = 2 := (hcv.resolve_left (fun z => c330 z.1)).2
                have Fcc : Fld Z T335.heap b290 "com/example/clearbrace/clearbrace/gser/ComponentOrder" "_count" "I" (.int cv) := hcc ▸ Cd335
                have Fnn : Fld Z T335.heap b290 "com/example/clearbrace/clearbrace/gser/ComponentOrder" "_next" "I" (.int (lv + 1)) := hll ▸ Ce335
                have f338 := (f334.keep K335)
                have f339 := (((f299.keep K301).keep K306).keep K335)
                have f340 := (((f300.keep K301 (ninS ne291 nin0)).keep K306 (ninS ne291 (ninS nlg nin0))).keep K335 (ninS ne291 (ninS nlg nin0)))
                exact J216 T335 _ T335.heap X335h rfl N335h K336 Z337 _ (fun q => by by_cases z1 : q = jN <;> by_cases z2 : q = iN <;> simp [z1, z2]) f338 f339 f340 Ag335 Ca335 Cb335 Cc335 Fcc Fnn
            rcases own_n4c hN h1N hN4 with rfl | rfl | rfl | rfl
            · clear hnn
              show G (T285.setTop (mkF m 128 #[.val (.int u0), .val (.int u1), .val (.int u2), .val (.int u3), .val (.int u4), .val (.int (1 : Int32)), .val (.int ov), .val (.int tv), .val (.int iv), .val (.int jv), .val (.int lv), .val (.int cv), .val (.int kv), .val (.ref b270), .unset, .unset, .unset, .unset, .unset, .unset, .unset] []))
              refine go _ _ (fun t' k' => XS.iload X285h.here hx rfl (hb hby at_128) rfl  k') ?_
              show G (T285.setTop (mkF m 130 #[.val (.int u0), .val (.int u1), .val (.int u2), .val (.int u3), .val (.int u4), .val (.int (1 : Int32)), .val (.int ov), .val (.int tv), .val (.int iv), .val (.int jv), .val (.int lv), .val (.int cv), .val (.int kv), .val (.ref b270), .unset, .unset, .unset, .unset, .unset, .unset, .unset] [(.int (1 : Int32))]))
              refine go _ _ (fun t' k' => XS.iconst X285h.here hx rfl (hb hby at_130) k') ?_
              show G (T285.setTop (mkF m 131 #[.val (.int u0), .val (.int u1), .val (.int u2), .val (.int u3), .val (.int u4), .val (.int (1 : Int32)), .val (.int ov), .val (.int tv), .val (.int iv), .val (.int jv), .val (.int lv), .val (.int cv), .val (.int kv), .val (.ref b270), .unset, .unset, .unset, .unset, .unset, .unset, .unset] [(.int (2 : Int32)), (.int (1 : Int32))]))
              refine go _ _ (fun t' k' => XS.icmpYes X285h.here hx rfl (pc0 := 131) (pc' := 141) rfl (hb hby at_131) rfl (Free.XT.ii_lt_t (by decide)) (by decide) (by decide) k') ?_
              show G (T285.setTop (mkF m 141 #[.val (.int u0), .val (.int u1), .val (.int u2), .val (.int u3), .val (.int u4), .val (.int (1 : Int32)), .val (.int ov), .val (.int tv), .val (.int iv), .val (.int jv), .val (.int lv), .val (.int cv), .val (.int kv), .val (.ref b270), .unset, .unset, .unset, .unset, .unset, .unset, .unset] []))
              refine go _ _ (fun t' k' => XS.iload X285h.here hx rfl (hb hby at_141) rfl  k') ?_
              show G (T285.setTop (mkF m 143 #[.val (.int u0), .val (.int u1), .val (.int u2), .val (.int u3), .val (.int u4), .val (.int (1 : Int32)), .val (.int ov), .val (.int tv), .val (.int iv), .val (.int jv), .val (.int lv), .val (.int cv), .val (.int kv), .val (.ref b270), .unset, .unset, .unset, .unset, .unset, .unset, .unset] [(.int (1 : Int32))]))
              refine go _ _ (fun t' k' => XS.iconst X285h.here hx rfl (hb hby at_143) k') ?_
              show G (T285.setTop (mkF m 144 #[.val (.int u0), .val (.int u1), .val (.int u2), .val (.int u3), .val (.int u4), .val (.int (1 : Int32)), .val (.int ov), .val (.int tv), .val (.int iv), .val (.int jv), .val (.int lv), .val (.int cv), .val (.int kv), .val (.ref b270), .unset, .unset, .unset, .unset, .unset, .unset, .unset] [(.int (3 : Int32)), (.int (1 : Int32))]))
              refine go _ _ (fun t' k' => XS.icmpYes X285h.here hx rfl (pc0 := 144) (pc' := 154) rfl (hb hby at_144) rfl (Free.XT.ii_lt_t (by decide)) (by decide) (by decide) k') ?_
              show G (T285.setTop (mkF m 154 #[.val (.int u0), .val (.int u1), .val (.int u2), .val (.int u3), .val (.int u4), .val (.int (1 : Int32)), .val (.int ov), .val (.int tv), .val (.int iv), .val (.int jv), .val (.int lv), .val (.int cv), .val (.int kv), .val (.ref b270), .unset, .unset, .unset, .unset, .unset, .unset, .unset] []))
              refine go _ _ (fun t' k' => XS.iload X285h.here hx rfl (hb hby at_154) rfl  k') ?_
              show G (T285.setTop (mkF m 156 #[.val (.int u0), .val (.int u1), .val (.int u2), .val (.int u3), .val (.int u4), .val (.int (1 : Int32)), .val (.int ov), .val (.int tv), .val (.int iv), .val (.int jv), .val (.int lv), .val (.int cv), .val (.int kv), .val (.ref b270), .unset, .unset, .unset, .unset, .unset, .unset, .unset] [(.int (1 : Int32))]))
              refine go _ _ (fun t' k' => XS.iconst X285h.here hx rfl (hb hby at_156) k') ?_
              show G (T285.setTop (mkF m 157 #[.val (.int u0), .val (.int u1), .val (.int u2), .val (.int u3), .val (.int u4), .val (.int (1 : Int32)), .val (.int ov), .val (.int tv), .val (.int iv), .val (.int jv), .val (.int lv), .val (.int cv), .val (.int kv), .val (.ref b270), .unset, .unset, .unset, .unset, .unset, .unset, .unset] [(.int (4 : Int32)), (.int (1 : Int32))]))
              refine go _ _ (fun t' k' => XS.icmpYes X285h.here hx rfl (pc0 := 157) (pc' := 167) rfl (hb hby at_157) rfl (Free.XT.ii_lt_t (by decide)) (by decide) (by decide) k') ?_
              show G (T285.setTop (mkF m 167 #[.val (.int u0), .val (.int u1), .val (.int u2), .val (.int u3), .val (.int u4), .val (.int (1 : Int32)), .val (.int ov), .val (.int tv), .val (.int iv), .val (.int jv), .val (.int lv), .val (.int cv), .val (.int kv), .val (.ref b270), .unset, .unset, .unset, .unset, .unset, .unset, .unset] []))
              have f341 := (f283.keep K285)
              exact J167 T285 _ T285.heap X285h rfl N285h K287 Z288   f341 Fb285
            · clear hnn
              show G (T285.setTop (mkF m 128 #[.val (.int u0), .val (.int u1), .val (.int u2), .val (.int u3), .val (.int u4), .val (.int (2 : Int32)), .val (.int ov), .val (.int tv), .val (.int iv), .val (.int jv), .val (.int lv), .val (.int cv), .val (.int kv), .val (.ref b270), .unset, .unset, .unset, .unset, .unset, .unset, .unset] []))
              refine go _ _ (fun t' k' => XS.iload X285h.here hx rfl (hb hby at_128) rfl  k') ?_
              show G (T285.setTop (mkF m 130 #[.val (.int u0), .val (.int u1), .val (.int u2), .val (.int u3), .val (.int u4), .val (.int (2 : Int32)), .val (.int ov), .val (.int tv), .val (.int iv), .val (.int jv), .val (.int lv), .val (.int cv), .val (.int kv), .val (.ref b270), .unset, .unset, .unset, .unset, .unset, .unset, .unset] [(.int (2 : Int32))]))
              refine go _ _ (fun t' k' => XS.iconst X285h.here hx rfl (hb hby at_130) k') ?_
              show G (T285.setTop (mkF m 131 #[.val (.int u0), .val (.int u1), .val (.int u2), .val (.int u3), .val (.int u4), .val (.int (2 : Int32)), .val (.int ov), .val (.int tv), .val (.int iv), .val (.int jv), .val (.int lv), .val (.int cv), .val (.int kv), .val (.ref b270), .unset, .unset, .unset, .unset, .unset, .unset, .unset] [(.int (2 : Int32)), (.int (2 : Int32))]))
              refine go _ _ (fun t' k' => XS.icmpNo X285h.here hx rfl (hb hby at_131) rfl (Free.XT.ii_lt_f (by decide)) k') ?_
              show G (T285.setTop (mkF m 134 #[.val (.int u0), .val (.int u1), .val (.int u2), .val (.int u3), .val (.int u4), .val (.int (2 : Int32)), .val (.int ov), .val (.int tv), .val (.int iv), .val (.int jv), .val (.int lv), .val (.int cv), .val (.int kv), .val (.ref b270), .unset, .unset, .unset, .unset, .unset, .unset, .unset] []))
              refine go _ _ (fun t' k' => XS.aload X285h.here hx rfl (hb hby at_134) rfl rfl  k') ?_
              show G (T285.setTop (mkF m 136 #[.val (.int u0), .val (.int u1), .val (.int u2), .val (.int u3), .val (.int u4), .val (.int (2 : Int32)), .val (.int ov), .val (.int tv), .val (.int iv), .val (.int jv), .val (.int lv), .val (.int cv), .val (.int kv), .val (.ref b270), .unset, .unset, .unset, .unset, .unset, .unset, .unset] [(.ref b270)]))
              refine go _ _ (fun t' k' => XS.aconstNull X285h.here hx rfl (hb hby at_136) k') ?_
              show G (T285.setTop (mkF m 137 #[.val (.int u0), .val (.int u1), .val (.int u2), .val (.int u3), .val (.int u4), .val (.int (2 : Int32)), .val (.int ov), .val (.int tv), .val (.int iv), .val (.int jv), .val (.int lv), .val (.int cv), .val (.int kv), .val (.ref b270), .unset, .unset, .unset, .unset, .unset, .unset, .unset] [.null, (.ref b270)]))
              have f342 := (f283.keep K285)
              refine own_virtual go X285h hx hZ rfl hown (hw _ (List.mem_of_getElem? (i := 27) rfl)) (hw _ (List.mem_of_getElem? (i := 28) rfl)) (notFace_of_selects (args := #[]) (mvT hZ (hw _ (List.mem_of_getElem? (i := 30) rfl)))) (hw _ (List.mem_of_getElem? (i := 30) rfl)) (hw _ (List.mem_of_getElem? (i := 29) rfl)) (hw _ (List.mem_of_getElem? (i := 3) rfl)) (hw _ (List.mem_of_getElem? (i := 31) rfl)) (by decide) (rm_m1 l Z a0 hw b270 el285 (1 : Int32) (2 : Int32) 1 f285 ((0 : Int32) + (1 : Int32)) T285.heap n0 Z288 g_b270 g_el285 f342 Fa285 Fb285 Fc285 Ae285 ne285 rfl (by decide) rfl) 0 (by decide) (by decide) (by decide) (by decide) f342 (g := (mkF m 137 #[.val (.int u0), .val (.int u1), .val (.int u2), .val (.int u3), .val (.int u4), .val (.int (2 : Int32)), .val (.int ov), .val (.int tv), .val (.int iv), .val (.int jv), .val (.int lv), .val (.int cv), .val (.int kv), .val (.ref b270), .unset, .unset, .unset, .unset, .unset, .unset, .unset] [.null, (.ref b270)])) rfl (by rw [hml]; rfl) [.null] [] rfl (lenOf pd_6 rfl) rfl (by show 2 * 0 + _ ≤ _; exact Nat.le_of_eq rfl) (hb hby at_137) ?_
              intro T343 L343 v343 X343 q343
              obtain ⟨rfl, N343, K343, Fa343, Fb343, Fc343, f343, Ae343⟩ := q343
              have ns344 : ∀ w ∈ [b270, el285], ∃ c : Cell, T285.heap[w]? = some c ∧ c.vm.isStatics = false := (allS (own_exa_ns f342) (allS (own_ary_ns Ae285) all0))
              obtain ⟨lc343, X343h, N343h⟩ := own_hide X343 (Fr.app N285h N343)
              have K345 : Keep h0 T343.heap [] := K287.trans K343 (allS (Or.inr sz_b270) (allS (Or.inr sz_el285) all0))
              have Z346 : n0 ≤ T343.heap.size := Nat.le_trans Z288 K343.1
              show G (T343.setTop (mkF m 140 #[.val (.int u0), .val (.int u1), .val (.int u2), .val (.int u3), .val (.int u4), .val (.int (2 : Int32)), .val (.int ov), .val (.int tv), .val (.int iv), .val (.int jv), .val (.int lv), .val (.int cv), .val (.int kv), .val (.ref b270), .unset, .unset, .unset, .unset, .unset, .unset, .unset] [(.int (1 : Int32))]))
              refine go _ _ (fun t' k' => XS.pop X343h.here hx rfl (hb hby at_140) rfl rfl k') ?_
              show G (T343.setTop (mkF m 141 #[.val (.int u0), .val (.int u1), .val (.int u2), .val (.int u3), .val (.int u4), .val (.int (2 : Int32)), .val (.int ov), .val (.int tv), .val (.int iv), .val (.int jv), .val (.int lv), .val (.int cv), .val (.int kv), .val (.ref b270), .unset, .unset, .unset, .unset, .unset, .unset, .unset] []))
              refine go _ _ (fun t' k' => XS.iload X343h.here hx rfl (hb hby at_141) rfl  k') ?_
              show G (T343.setTop (mkF m 143 #[.val (.int u0), .val (.int u1), .val (.int u2), .val (.int u3), .val (.int u4), .val (.int (2 : Int32)), .val (.int ov), .val (.int tv), .val (.int iv), .val (.int jv), .val (.int lv), .val (.int cv), .val (.int kv), .val (.ref b270), .unset, .unset, .unset, .unset, .unset, .unset, .unset] [(.int (2 : Int32))]))
              refine go _ _ (fun t' k' => XS.iconst X343h.here hx rfl (hb hby at_143) k') ?_
              show G (T343.setTop (mkF m 144 #[.val (.int u0), .val (.int u1), .val (.int u2), .val (.int u3), .val (.int u4), .val (.int (2 : Int32)), .val (.int ov), .val (.int tv), .val (.int iv), .val (.int jv), .val (.int lv), .val (.int cv), .val (.int kv), .val (.ref b270), .unset, .unset, .unset, .unset, .unset, .unset, .unset] [(.int (3 : Int32)), (.int (2 : Int32))]))
              refine go _ _ (fun t' k' => XS.icmpYes X343h.here hx rfl (pc0 := 144) (pc' := 154) rfl (hb hby at_144) rfl (Free.XT.ii_lt_t (by decide)) (by decide) (by decide) k') ?_
              show G (T343.setTop (mkF m 154 #[.val (.int u0), .val (.int u1), .val (.int u2), .val (.int u3), .val (.int u4), .val (.int (2 : Int32)), .val (.int ov), .val (.int tv), .val (.int iv), .val (.int jv), .val (.int lv), .val (.int cv), .val (.int kv), .val (.ref b270), .unset, .unset, .unset, .unset, .unset, .unset, .unset] []))
              refine go _ _ (fun t' k' => XS.iload X343h.here hx rfl (hb hby at_154) rfl  k') ?_
              show G (T343.setTop (mkF m 156 #[.val (.int u0), .val (.int u1), .val (.int u2), .val (.int u3), .val (.int u4), .val (.int (2 : Int32)), .val (.int ov), .val (.int tv), .val (.int iv), .val (.int jv), .val (.int lv), .val (.int cv), .val (.int kv), .val (.ref b270), .unset, .unset, .unset, .unset, .unset, .unset, .unset] [(.int (2 : Int32))]))
              refine go _ _ (fun t' k' => XS.iconst X343h.here hx rfl (hb hby at_156) k') ?_
              show G (T343.setTop (mkF m 157 #[.val (.int u0), .val (.int u1), .val (.int u2), .val (.int u3), .val (.int u4), .val (.int (2 : Int32)), .val (.int ov), .val (.int tv), .val (.int iv), .val (.int jv), .val (.int lv), .val (.int cv), .val (.int kv), .val (.ref b270), .unset, .unset, .unset, .unset, .unset, .unset, .unset] [(.int (4 : Int32)), (.int (2 : Int32))]))
              refine go _ _ (fun t' k' => XS.icmpYes X343h.here hx rfl (pc0 := 157) (pc' := 167) rfl (hb hby at_157) rfl (Free.XT.ii_lt_t (by decide)) (by decide) (by decide) k') ?_
              show G (T343.setTop (mkF m 167 #[.val (.int u0), .val (.int u1), .val (.int u2), .val (.int u3), .val (.int u4), .val (.int (2 : Int32)), .val (.int ov), .val (.int tv), .val (.int iv), .val (.int jv), .val (.int lv), .val (.int cv), .val (.int kv), .val (.ref b270), .unset, .unset, .unset, .unset, .unset, .unset, .unset] []))
              have f347 := (f342.keep K343)
              exact J167 T343 _ T343.heap X343h rfl N343h K345 Z346   f347 Fb343
            · clear hnn
              show G (T285.setTop (mkF m 128 #[.val (.int u0), .val (.int u1), .val (.int u2), .val (.int u3), .val (.int u4), .val (.int (3 : Int32)), .val (.int ov), .val (.int tv), .val (.int iv), .val (.int jv), .val (.int lv), .val (.int cv), .val (.int kv), .val (.ref b270), .unset, .unset, .unset, .unset, .unset, .unset, .unset] []))
              refine go _ _ (fun t' k' => XS.iload X285h.here hx rfl (hb hby at_128) rfl  k') ?_
              show G (T285.setTop (mkF m 130 #[.val (.int u0), .val (.int u1), .val (.int u2), .val (.int u3), .val (.int u4), .val (.int (3 : Int32)), .val (.int ov), .val (.int tv), .val (.int iv), .val (.int jv), .val (.int lv), .val (.int cv), .val (.int kv), .val (.ref b270), .unset, .unset, .unset, .unset, .unset, .unset, .unset] [(.int (3 : Int32))]))
              refine go _ _ (fun t' k' => XS.iconst X285h.here hx rfl (hb hby at_130) k') ?_
              show G (T285.setTop (mkF m 131 #[.val (.int u0), .val (.int u1), .val (.int u2), .val (.int u3), .val (.int u4), .val (.int (3 : Int32)), .val (.int ov), .val (.int tv), .val (.int iv), .val (.int jv), .val (.int lv), .val (.int cv), .val (.int kv), .val (.ref b270), .unset, .unset, .unset, .unset, .unset, .unset, .unset] [(.int (2 : Int32)), (.int (3 : Int32))]))
              refine go _ _ (fun t' k' => XS.icmpNo X285h.here hx rfl (hb hby at_131) rfl (Free.XT.ii_lt_f (by decide)) k') ?_
              show G (T285.setTop (mkF m 134 #[.val (.int u0), .val (.int u1), .val (.int u2), .val (.int u3), .val (.int u4), .val (.int (3 : Int32)), .val (.int ov), .val (.int tv), .val (.int iv), .val (.int jv), .val (.int lv), .val (.int cv), .val (.int kv), .val (.ref b270), .unset, .unset, .unset, .unset, .unset, .unset, .unset] []))
              refine go _ _ (fun t' k' => XS.aload X285h.here hx rfl (hb hby at_134) rfl rfl  k') ?_
              show G (T285.setTop (mkF m 136 #[.val (.int u0), .val (.int u1), .val (.int u2), .val (.int u3), .val (.int u4), .val (.int (3 : Int32)), .val (.int ov), .val (.int tv), .val (.int iv), .val (.int jv), .val (.int lv), .val (.int cv), .val (.int kv), .val (.ref b270), .unset, .unset, .unset, .unset, .unset, .unset, .unset] [(.ref b270)]))
              refine go _ _ (fun t' k' => XS.aconstNull X285h.here hx rfl (hb hby at_136) k') ?_
              show G (T285.setTop (mkF m 137 #[.val (.int u0), .val (.int u1), .val (.int u2), .val (.int u3), .val (.int u4), .val (.int (3 : Int32)), .val (.int ov), .val (.int tv), .val (.int iv), .val (.int jv), .val (.int lv), .val (.int cv), .val (.int kv), .val (.ref b270), .unset, .unset, .unset, .unset, .unset, .unset, .unset] [.null, (.ref b270)]))
              have f348 := (f283.keep K285)
              refine own_virtual go X285h hx hZ rfl hown (hw _ (List.mem_of_getElem? (i := 27) rfl)) (hw _ (List.mem_of_getElem? (i := 28) rfl)) (notFace_of_selects (args := #[]) (mvT hZ (hw _ (List.mem_of_getElem? (i := 30) rfl)))) (hw _ (List.mem_of_getElem? (i := 30) rfl)) (hw _ (List.mem_of_getElem? (i := 29) rfl)) (hw _ (List.mem_of_getElem? (i := 3) rfl)) (hw _ (List.mem_of_getElem? (i := 31) rfl)) (by decide) (rm_m1 l Z a0 hw b270 el285 (1 : Int32) (2 : Int32) 1 f285 ((0 : Int32) + (1 : Int32)) T285.heap n0 Z288 g_b270 g_el285 f348 Fa285 Fb285 Fc285 Ae285 ne285 rfl (by decide) rfl) 0 (by decide) (by decide) (by decide) (by decide) f348 (g := (mkF m 137 #[.val (.int u0), .val (.int u1), .val (.int u2), .val (.int u3), .val (.int u4), .val (.int (3 : Int32)), .val (.int ov), .val (.int tv), .val (.int iv), .val (.int jv), .val (.int lv), .val (.int cv), .val (.int kv), .val (.ref b270), .unset, .unset, .unset, .unset, .unset, .unset, .unset] [.null, (.ref b270)])) rfl (by rw [hml]; rfl) [.null] [] rfl (lenOf pd_6 rfl) rfl (by show 2 * 0 + _ ≤ _; exact Nat.le_of_eq rfl) (hb hby at_137) ?_
              intro T349 L349 v349 X349 q349
              obtain ⟨rfl, N349, K349, Fa349, Fb349, Fc349, f349, Ae349⟩ := q349
              have ns350 : ∀ w ∈ [b270, el285], ∃ c : Cell, T285.heap[w]? = some c ∧ c.vm.isStatics = false := (allS (own_exa_ns f348) (allS (own_ary_ns Ae285) all0))
              obtain ⟨lc349, X349h, N349h⟩ := own_hide X349 (Fr.app N285h N349)
              have K351 : Keep h0 T349.heap [] := K287.trans K349 (allS (Or.inr sz_b270) (allS (Or.inr sz_el285) all0))
              have Z352 : n0 ≤ T349.heap.size := Nat.le_trans Z288 K349.1
              show G (T349.setTop (mkF m 140 #[.val (.int u0), .val (.int u1), .val (.int u2), .val (.int u3), .val (.int u4), .val (.int (3 : Int32)), .val (.int ov), .val (.int tv), .val (.int iv), .val (.int jv), .val (.int lv), .val (.int cv), .val (.int kv), .val (.ref b270), .unset, .unset, .unset, .unset, .unset, .unset, .unset] [(.int (1 : Int32))]))
              refine go _ _ (fun t' k' => XS.pop X349h.here hx rfl (hb hby at_140) rfl rfl k') ?_
              show G (T349.setTop (mkF m 141 #[.val (.int u0), .val (.int u1), .val (.int u2), .val (.int u3), .val (.int u4), .val (.int (3 : Int32)), .val (.int ov), .val (.int tv), .val (.int iv), .val (.int jv), .val (.int lv), .val (.int cv), .val (.int kv), .val (.ref b270), .unset, .unset, .unset, .unset, .unset, .unset, .unset] []))
              refine go _ _ (fun t' k' => XS.iload X349h.here hx rfl (hb hby at_141) rfl  k') ?_
              show G (T349.setTop (mkF m 143 #[.val (.int u0), .val (.int u1), .val (.int u2), .val (.int u3), .val (.int u4), .val (.int (3 : Int32)), .val (.int ov), .val (.int tv), .val (.int iv), .val (.int jv), .val (.int lv), .val (.int cv), .val (.int kv), .val (.ref b270), .unset, .unset, .unset, .unset, .unset, .unset, .unset] [(.int (3 : Int32))]))
              refine go _ _ (fun t' k' => XS.iconst X349h.here hx rfl (hb hby at_143) k') ?_
              show G (T349.setTop (mkF m 144 #[.val (.int u0), .val (.int u1), .val (.int u2), .val (.int u3), .val (.int u4), .val (.int (3 : Int32)), .val (.int ov), .val (.int tv), .val (.int iv), .val (.int jv), .val (.int lv), .val (.int cv), .val (.int kv), .val (.ref b270), .unset, .unset, .unset, .unset, .unset, .unset, .unset] [(.int (3 : Int32)), (.int (3 : Int32))]))
              refine go _ _ (fun t' k' => XS.icmpNo X349h.here hx rfl (hb hby at_144) rfl (Free.XT.ii_lt_f (by decide)) k') ?_
              show G (T349.setTop (mkF m 147 #[.val (.int u0), .val (.int u1), .val (.int u2), .val (.int u3), .val (.int u4), .val (.int (3 : Int32)), .val (.int ov), .val (.int tv), .val (.int iv), .val (.int jv), .val (.int lv), .val (.int cv), .val (.int kv), .val (.ref b270), .unset, .unset, .unset, .unset, .unset, .unset, .unset] []))
              refine go _ _ (fun t' k' => XS.aload X349h.here hx rfl (hb hby at_147) rfl rfl  k') ?_
              show G (T349.setTop (mkF m 149 #[.val (.int u0), .val (.int u1), .val (.int u2), .val (.int u3), .val (.int u4), .val (.int (3 : Int32)), .val (.int ov), .val (.int tv), .val (.int iv), .val (.int jv), .val (.int lv), .val (.int cv), .val (.int kv), .val (.ref b270), .unset, .unset, .unset, .unset, .unset, .unset, .unset] [(.ref b270)]))
              refine go _ _ (fun t' k' => XS.aconstNull X349h.here hx rfl (hb hby at_149) k') ?_
              show G (T349.setTop (mkF m 150 #[.val (.int u0), .val (.int u1), .val (.int u2), .val (.int u3), .val (.int u4), .val (.int (3 : Int32)), .val (.int ov), .val (.int tv), .val (.int iv), .val (.int jv), .val (.int lv), .val (.int cv), .val (.int kv), .val (.ref b270), .unset, .unset, .unset, .unset, .unset, .unset, .unset] [.null, (.ref b270)]))
              have f353 := (f348.keep K349)
              refine own_virtual go X349h hx hZ rfl hown (hw _ (List.mem_of_getElem? (i := 27) rfl)) (hw _ (List.mem_of_getElem? (i := 28) rfl)) (notFace_of_selects (args := #[]) (mvT hZ (hw _ (List.mem_of_getElem? (i := 30) rfl)))) (hw _ (List.mem_of_getElem? (i := 30) rfl)) (hw _ (List.mem_of_getElem? (i := 29) rfl)) (hw _ (List.mem_of_getElem? (i := 3) rfl)) (hw _ (List.mem_of_getElem? (i := 31) rfl)) (by decide) (rm_m1 l Z a0 hw b270 el285 (2 : Int32) (3 : Int32) 2 f349 (((0 : Int32) + (1 : Int32)) + (1 : Int32)) T349.heap n0 Z352 g_b270 g_el285 f353 Fa349 Fb349 Fc349 Ae349 ne285 rfl (by decide) rfl) 0 (by decide) (by decide) (by decide) (by decide) f353 (g := (mkF m 150 #[.val (.int u0), .val (.int u1), .val (.int u2), .val (.int u3), .val (.int u4), .val (.int (3 : Int32)), .val (.int ov), .val (.int tv), .val (.int iv), .val (.int jv), .val (.int lv), .val (.int cv), .val (.int kv), .val (.ref b270), .unset, .unset, .unset, .unset, .unset, .unset, .unset] [.null, (.ref b270)])) rfl (by rw [hml]; rfl) [.null] [] rfl (lenOf pd_6 rfl) rfl (by show 2 * 0 + _ ≤ _; exact Nat.le_of_eq rfl) (hb hby at_150) ?_
              intro T354 L354 v354 X354 q354
              obtain ⟨rfl, N354, K354, Fa354, Fb354, Fc354, f354, Ae354⟩ := q354
              have ns355 : ∀ w ∈ [b270, el285], ∃ c : Cell, T349.heap[w]? = some c ∧ c.vm.isStatics = false := (allS (own_exa_ns f353) (allS (own_ary_ns Ae349) all0))
              obtain ⟨lc354, X354h, N354h⟩ := own_hide X354 (Fr.app N349h N354)
              have K356 : Keep h0 T354.heap [] := K351.trans K354 (allS (Or.inr sz_b270) (allS (Or.inr sz_el285) all0))
              have Z357 : n0 ≤ T354.heap.size := Nat.le_trans Z352 K354.1
              show G (T354.setTop (mkF m 153 #[.val (.int u0), .val (.int u1), .val (.int u2), .val (.int u3), .val (.int u4), .val (.int (3 : Int32)), .val (.int ov), .val (.int tv), .val (.int iv), .val (.int jv), .val (.int lv), .val (.int cv), .val (.int kv), .val (.ref b270), .unset, .unset, .unset, .unset, .unset, .unset, .unset] [(.int (1 : Int32))]))
              refine go _ _ (fun t' k' => XS.pop X354h.here hx rfl (hb hby at_153) rfl rfl k') ?_
              show G (T354.setTop (mkF m 154 #[.val (.int u0), .val (.int u1), .val (.int u2), .val (.int u3), .val (.int u4), .val (.int (3 : Int32)), .val (.int ov), .val (.int tv), .val (.int iv), .val (.int jv), .val (.int lv), .val (.int cv), .val (.int kv), .val (.ref b270), .unset, .unset, .unset, .unset, .unset, .unset, .unset] []))
              refine go _ _ (fun t' k' => XS.iload X354h.here hx rfl (hb hby at_154) rfl  k') ?_
              show G (T354.setTop (mkF m 156 #[.val (.int u0), .val (.int u1), .val (.int u2), .val (.int u3), .val (.int u4), .val (.int (3 : Int32)), .val (.int ov), .val (.int tv), .val (.int iv), .val (.int jv), .val (.int lv), .val (.int cv), .val (.int kv), .val (.ref b270), .unset, .unset, .unset, .unset, .unset, .unset, .unset] [(.int (3 : Int32))]))
              refine go _ _ (fun t' k' => XS.iconst X354h.here hx rfl (hb hby at_156) k') ?_
              show G (T354.setTop (mkF m 157 #[.val (.int u0), .val (.int u1), .val (.int u2), .val (.int u3), .val (.int u4), .val (.int (3 : Int32)), .val (.int ov), .val (.int tv), .val (.int iv), .val (.int jv), .val (.int lv), .val (.int cv), .val (.int kv), .val (.ref b270), .unset, .unset, .unset, .unset, .unset, .unset, .unset] [(.int (4 : Int32)), (.int (3 : Int32))]))
              refine go _ _ (fun t' k' => XS.icmpYes X354h.here hx rfl (pc0 := 157) (pc' := 167) rfl (hb hby at_157) rfl (Free.XT.ii_lt_t (by decide)) (by decide) (by decide) k') ?_
              show G (T354.setTop (mkF m 167 #[.val (.int u0), .val (.int u1), .val (.int u2), .val (.int u3), .val (.int u4), .val (.int (3 : Int32)), .val (.int ov), .val (.int tv), .val (.int iv), .val (.int jv), .val (.int lv), .val (.int cv), .val (.int kv), .val (.ref b270), .unset, .unset, .unset, .unset, .unset, .unset, .unset] []))
              have f358 := (f353.keep K354)
              exact J167 T354 _ T354.heap X354h rfl N354h K356 Z357   f358 Fb354
            · clear hnn
              show G (T285.setTop (mkF m 128 #[.val (.int u0), .val (.int u1), .val (.int u2), .val (.int u3), .val (.int u4), .val (.int (4 : Int32)), .val (.int ov), .val (.int tv), .val (.int iv), .val (.int jv), .val (.int lv), .val (.int cv), .val (.int kv), .val (.ref b270), .unset, .unset, .unset, .unset, .unset, .unset, .unset] []))
              refine go _ _ (fun t' k' => XS.iload X285h.here hx rfl (hb hby at_128) rfl  k') ?_
              show G (T285.setTop (mkF m 130 #[.val (.int u0), .val (.int u1), .val (.int u2), .val (.int u3), .val (.int u4), .val (.int (4 : Int32)), .val (.int ov), .val (.int tv), .val (.int iv), .val (.int jv), .val (.int lv), .val (.int cv), .val (.int kv), .val (.ref b270), .unset, .unset, .unset, .unset, .unset, .unset, .unset] [(.int (4 : Int32))]))
              refine go _ _ (fun t' k' => XS.iconst X285h.here hx rfl (hb hby at_130) k') ?_
              show G (T285.setTop (mkF m 131 #[.val (.int u0), .val (.int u1), .val (.int u2), .val (.int u3), .val (.int u4), .val (.int (4 : Int32)), .val (.int ov), .val (.int tv), .val (.int iv), .val (.int jv), .val (.int lv), .val (.int cv), .val (.int kv), .val (.ref b270), .unset, .unset, .unset, .unset, .unset, .unset, .unset] [(.int (2 : Int32)), (.int (4 : Int32))]))
              refine go _ _ (fun t' k' => XS.icmpNo X285h.here hx rfl (hb hby at_131) rfl (Free.XT.ii_lt_f (by decide)) k') ?_
              show G (T285.setTop (mkF m 134 #[.val (.int u0), .val (.int u1), .val (.int u2), .val (.int u3), .val (.int u4), .val (.int (4 : Int32)), .val (.int ov), .val (.int tv), .val (.int iv), .val (.int jv), .val (.int lv), .val (.int cv), .val (.int kv), .val (.ref b270), .unset, .unset, .unset, .unset, .unset, .unset, .unset] []))
              refine go _ _ (fun t' k' => XS.aload X285h.here hx rfl (hb hby at_134) rfl rfl  k') ?_
              show G (T285.setTop (mkF m 136 #[.val (.int u0), .val (.int u1), .val (.int u2), .val (.int u3), .val (.int u4), .val (.int (4 : Int32)), .val (.int ov), .val (.int tv), .val (.int iv), .val (.int jv), .val (.int lv), .val (.int cv), .val (.int kv), .val (.ref b270), .unset, .unset, .unset, .unset, .unset, .unset, .unset] [(.ref b270)]))
              refine go _ _ (fun t' k' => XS.aconstNull X285h.here hx rfl (hb hby at_136) k') ?_
              show G (T285.setTop (mkF m 137 #[.val (.int u0), .val (.int u1), .val (.int u2), .val (.int u3), .val (.int u4), .val (.int (4 : Int32)), .val (.int ov), .val (.int tv), .val (.int iv), .val (.int jv), .val (.int lv), .val (.int cv), .val (.int kv), .val (.ref b270), .unset, .unset, .unset, .unset, .unset, .unset, .unset] [.null, (.ref b270)]))
              have f359 := (f283.keep K285)
              refine own_virtual go X285h hx hZ rfl hown (hw _ (List.mem_of_getElem? (i := 27) rfl)) (hw _ (List.mem_of_getElem? (i := 28) rfl)) (notFace_of_selects (args := #[]) (mvT hZ (hw _ (List.mem_of_getElem? (i := 30) rfl)))) (hw _ (List.mem_of_getElem? (i := 30) rfl)) (hw _ (List.mem_of_getElem? (i := 29) rfl)) (hw _ (List.mem_of_getElem? (i := 3) rfl)) (hw _ (List.mem_of_getElem? (i := 31) rfl)) (by decide) (rm_m1 l Z a0 hw b270 el285 (1 : Int32) (2 : Int32) 1 f285 ((0 : Int32) + (1 : Int32)) T285.heap n0 Z288 g_b270 g_el285 f359 Fa285 Fb285 Fc285 Ae285 ne285 rfl (by decide) rfl) 0 (by decide) (by decide) (by decide) (by decide) f359 (g := (mkF m 137 #[.val (.int u0), .val (.int u1), .val (.int u2), .val (.int u3), .val (.int u4), .val (.int (4 : Int32)), .val (.int ov), .val (.int tv), .val (.int iv), .val (.int jv), .val (.int lv), .val (.int cv), .val (.int kv), .val (.ref b270), .unset, .unset, .unset, .unset, .unset, .unset, .unset] [.null, (.ref b270)])) rfl (by rw [hml]; rfl) [.null] [] rfl (lenOf pd_6 rfl) rfl (by show 2 * 0 + _ ≤ _; exact Nat.le_of_eq rfl) (hb hby at_137) ?_
              intro T360 L360 v360 X360 q360
              obtain ⟨rfl, N360, K360, Fa360, Fb360, Fc360, f360, Ae360⟩ := q360
              have ns361 : ∀ w ∈ [b270, el285], ∃ c : Cell, T285.heap[w]? = some c ∧ c.vm.isStatics = false := (allS (own_exa_ns f359) (allS (own_ary_ns Ae285) all0))
              obtain ⟨lc360, X360h, N360h⟩ := own_hide X360 (Fr.app N285h N360)
              have K362 : Keep h0 T360.heap [] := K287.trans K360 (allS (Or.inr sz_b270) (allS (Or.inr sz_el285) all0))
              have Z363 : n0 ≤ T360.heap.size := Nat.le_trans Z288 K360.1
              show G (T360.setTop (mkF m 140 #[.val (.int u0), .val (.int u1), .val (.int u2), .val (.int u3), .val (.int u4), .val (.int (4 : Int32)), .val (.int ov), .val (.int tv), .val (.int iv), .val (.int jv), .val (.int lv), .val (.int cv), .val (.int kv), .val (.ref b270), .unset, .unset, .unset, .unset, .unset, .unset, .unset] [(.int (1 : Int32))]))
              refine go _ _ (fun t' k' => XS.pop X360h.here hx rfl (hb hby at_140) rfl rfl k') ?_
              show G (T360.setTop (mkF m 141 #[.val (.int u0), .val (.int u1), .val (.int u2), .val (.int u3), .val (.int u4), .val (.int (4 : Int32)), .val (.int ov), .val (.int tv), .val (.int iv), .val (.int jv), .val (.int lv), .val (.int cv), .val (.int kv), .val (.ref b270), .unset, .unset, .unset, .unset, .unset, .unset, .unset] []))
              refine go _ _ (fun t' k' => XS.iload X360h.here hx rfl (hb hby at_141) rfl  k') ?_
              show G (T360.setTop (mkF m 143 #[.val (.int u0), .val (.int u1), .val (.int u2), .val (.int u3), .val (.int u4), .val (.int (4 : Int32)), .val (.int ov), .val (.int tv), .val (.int iv), .val (.int jv), .val (.int lv), .val (.int cv), .val (.int kv), .val (.ref b270), .unset, .unset, .unset, .unset, .unset, .unset, .unset] [(.int (4 : Int32))]))
              refine go _ _ (fun t' k' => XS.iconst X360h.here hx rfl (hb hby at_143) k') ?_
              show G (T360.setTop (mkF m 144 #[.val (.int u0), .val (.int u1), .val (.int u2), .val (.int u3), .val (.int u4), .val (.int (4 : Int32)), .val (.int ov), .val (.int tv), .val (.int iv), .val (.int jv), .val (.int lv), .val (.int cv), .val (.int kv), .val (.ref b270), .unset, .unset, .unset, .unset, .unset, .unset, .unset] [(.int (3 : Int32)), (.int (4 : Int32))]))
              refine go _ _ (fun t' k' => XS.icmpNo X360h.here hx rfl (hb hby at_144) rfl (Free.XT.ii_lt_f (by decide)) k') ?_
              show G (T360.setTop (mkF m 147 #[.val (.int u0), .val (.int u1), .val (.int u2), .val (.int u3), .val (.int u4), .val (.int (4 : Int32)), .val (.int ov), .val (.int tv), .val (.int iv), .val (.int jv), .val (.int lv), .val (.int cv), .val (.int kv), .val (.ref b270), .unset, .unset, .unset, .unset, .unset, .unset, .unset] []))
              refine go _ _ (fun t' k' => XS.aload X360h.here hx rfl (hb hby at_147) rfl rfl  k') ?_
              show G (T360.setTop (mkF m 149 #[.val (.int u0), .val (.int u1), .val (.int u2), .val (.int u3), .val (.int u4), .val (.int (4 : Int32)), .val (.int ov), .val (.int tv), .val (.int iv), .val (.int jv), .val (.int lv), .val (.int cv), .val (.int kv), .val (.ref b270), .unset, .unset, .unset, .unset, .unset, .unset, .unset] [(.ref b270)]))
              refine go _ _ (fun t' k' => XS.aconstNull X360h.here hx rfl (hb hby at_149) k') ?_
              show G (T360.setTop (mkF m 150 #[.val (.int u0), .val (.int u1), .val (.int u2), .val (.int u3), .val (.int u4), .val (.int (4 : Int32)), .val (.int ov), .val (.int tv), .val (.int iv), .val (.int jv), .val (.int lv), .val (.int cv), .val (.int kv), .val (.ref b270), .unset, .unset, .unset, .unset, .unset, .unset, .unset] [.null, (.ref b270)]))
              have f364 := (f359.keep K360)
              refine own_virtual go X360h hx hZ rfl hown (hw _ (List.mem_of_getElem? (i := 27) rfl)) (hw _ (List.mem_of_getElem? (i := 28) rfl)) (notFace_of_selects (args := #[]) (mvT hZ (hw _ (List.mem_of_getElem? (i := 30) rfl)))) (hw _ (List.mem_of_getElem? (i := 30) rfl)) (hw _ (List.mem_of_getElem? (i := 29) rfl)) (hw _ (List.mem_of_getElem? (i := 3) rfl)) (hw _ (List.mem_of_getElem? (i := 31) rfl)) (by decide) (rm_m1 l Z a0 hw b270 el285 (2 : Int32) (3 : Int32) 2 f360 (((0 : Int32) + (1 : Int32)) + (1 : Int32)) T360.heap n0 Z363 g_b270 g_el285 f364 Fa360 Fb360 Fc360 Ae360 ne285 rfl (by decide) rfl) 0 (by decide) (by decide) (by decide) (by decide) f364 (g := (mkF m 150 #[.val (.int u0), .val (.int u1), .val (.int u2), .val (.int u3), .val (.int u4), .val (.int (4 : Int32)), .val (.int ov), .val (.int tv), .val (.int iv), .val (.int jv), .val (.int lv), .val (.int cv), .val (.int kv), .val (.ref b270), .unset, .unset, .unset, .unset, .unset, .unset, .unset] [.null, (.ref b270)])) rfl (by rw [hml]; rfl) [.null] [] rfl (lenOf pd_6 rfl) rfl (by show 2 * 0 + _ ≤ _; exact Nat.le_of_eq rfl) (hb hby at_150) ?_
              intro T365 L365 v365 X365 q365
              obtain ⟨rfl, N365, K365, Fa365, Fb365, Fc365, f365, Ae365⟩ := q365
              have ns366 : ∀ w ∈ [b270, el285], ∃ c : Cell, T360.heap[w]? = some c ∧ c.vm.isStatics = false := (allS (own_exa_ns f364) (allS (own_ary_ns Ae360) all0))
              obtain ⟨lc365, X365h, N365h⟩ := own_hide X365 (Fr.app N360h N365)
              have K367 : Keep h0 T365.heap [] := K362.trans K365 (allS (Or.inr sz_b270) (allS (Or.inr sz_el285) all0))
              have Z368 : n0 ≤ T365.heap.size := Nat.le_trans Z363 K365.1
              show G (T365.setTop (mkF m 153 #[.val (.int u0), .val (.int u1), .val (.int u2), .val (.int u3), .val (.int u4), .val (.int (4 : Int32)), .val (.int ov), .val (.int tv), .val (.int iv), .val (.int jv), .val (.int lv), .val (.int cv), .val (.int kv), .val (.ref b270), .unset, .unset, .unset, .unset, .unset, .unset, .unset] [(.int (1 : Int32))]))
              refine go _ _ (fun t' k' => XS.pop X365h.here hx rfl (hb hby at_153) rfl rfl k') ?_
              show G (T365.setTop (mkF m 154 #[.val (.int u0), .val (.int u1), .val (.int u2), .val (.int u3), .val (.int u4), .val (.int (4 : Int32)), .val (.int ov), .val (.int tv), .val (.int iv), .val (.int jv), .val (.int lv), .val (.int cv), .val (.int kv), .val (.ref b270), .unset, .unset, .unset, .unset, .unset, .unset, .unset] []))
              refine go _ _ (fun t' k' => XS.iload X365h.here hx rfl (hb hby at_154) rfl  k') ?_
              show G (T365.setTop (mkF m 156 #[.val (.int u0), .val (.int u1), .val (.int u2), .val (.int u3), .val (.int u4), .val (.int (4 : Int32)), .val (.int ov), .val (.int tv), .val (.int iv), .val (.int jv), .val (.int lv), .val (.int cv), .val (.int kv), .val (.ref b270), .unset, .unset, .unset, .unset, .unset, .unset, .unset] [(.int (4 : Int32))]))
              refine go _ _ (fun t' k' => XS.iconst X365h.here hx rfl (hb hby at_156) k') ?_
              show G (T365.setTop (mkF m 157 #[.val (.int u0), .val (.int u1), .val (.int u2), .val (.int u3), .val (.int u4), .val (.int (4 : Int32)), .val (.int ov), .val (.int tv), .val (.int iv), .val (.int jv), .val (.int lv), .val (.int cv), .val (.int kv), .val (.ref b270), .unset, .unset, .unset, .unset, .unset, .unset, .unset] [(.int (4 : Int32)), (.int (4 : Int32))]))
              refine go _ _ (fun t' k' => XS.icmpNo X365h.here hx rfl (hb hby at_157) rfl (Free.XT.ii_lt_f (by decide)) k') ?_
              show G (T365.setTop (mkF m 160 #[.val (.int u0), .val (.int u1), .val (.int u2), .val (.int u3), .val (.int u4), .val (.int (4 : Int32)), .val (.int ov), .val (.int tv), .val (.int iv), .val (.int jv), .val (.int lv), .val (.int cv), .val (.int kv), .val (.ref b270), .unset, .unset, .unset, .unset, .unset, .unset, .unset] []))
              refine go _ _ (fun t' k' => XS.aload X365h.here hx rfl (hb hby at_160) rfl rfl  k') ?_
              show G (T365.setTop (mkF m 162 #[.val (.int u0), .val (.int u1), .val (.int u2), .val (.int u3), .val (.int u4), .val (.int (4 : Int32)), .val (.int ov), .val (.int tv), .val (.int iv), .val (.int jv), .val (.int lv), .val (.int cv), .val (.int kv), .val (.ref b270), .unset, .unset, .unset, .unset, .unset, .unset, .unset] [(.ref b270)]))
              refine go _ _ (fun t' k' => XS.aconstNull X365h.here hx rfl (hb hby at_162) k') ?_
              show G (T365.setTop (mkF m 163 #[.val (.int u0), .val (.int u1), .val (.int u2), .val (.int u3), .val (.int u4), .val (.int (4 : Int32)), .val (.int ov), .val (.int tv), .val (.int iv), .val (.int jv), .val (.int lv), .val (.int cv), .val (.int kv), .val (.ref b270), .unset, .unset, .unset, .unset, .unset, .unset, .unset] [.null, (.ref b270)]))
              have f369 := (f364.keep K365)
              refine own_virtual go X365h hx hZ rfl hown (hw _ (List.mem_of_getElem? (i := 27) rfl)) (hw _ (List.mem_of_getElem? (i := 28) rfl)) (notFace_of_selects (args := #[]) (mvT hZ (hw _ (List.mem_of_getElem? (i := 30) rfl)))) (hw _ (List.mem_of_getElem? (i := 30) rfl)) (hw _ (List.mem_of_getElem? (i := 29) rfl)) (hw _ (List.mem_of_getElem? (i := 3) rfl)) (hw _ (List.mem_of_getElem? (i := 31) rfl)) (by decide) (rm_m1 l Z a0 hw b270 el285 (3 : Int32) (4 : Int32) 3 f365 ((((0 : Int32) + (1 : Int32)) + (1 : Int32)) + (1 : Int32)) T365.heap n0 Z368 g_b270 g_el285 f369 Fa365 Fb365 Fc365 Ae365 ne285 rfl (by decide) rfl) 0 (by decide) (by decide) (by decide) (by decide) f369 (g := (mkF m 163 #[.val (.int u0), .val (.int u1), .val (.int u2), .val (.int u3), .val (.int u4), .val (.int (4 : Int32)), .val (.int ov), .val (.int tv), .val (.int iv), .val (.int jv), .val (.int lv), .val (.int cv), .val (.int kv), .val (.ref b270), .unset, .unset, .unset, .unset, .unset, .unset, .unset] [.null, (.ref b270)])) rfl (by rw [hml]; rfl) [.null] [] rfl (lenOf pd_6 rfl) rfl (by show 2 * 0 + _ ≤ _; exact Nat.le_of_eq rfl) (hb hby at_163) ?_
              intro T370 L370 v370 X370 q370
              obtain ⟨rfl, N370, K370, Fa370, Fb370, Fc370, f370, Ae370⟩ := q370
              have ns371 : ∀ w ∈ [b270, el285], ∃ c : Cell, T365.heap[w]? = some c ∧ c.vm.isStatics = false := (allS (own_exa_ns f369) (allS (own_ary_ns Ae365) all0))
              obtain ⟨lc370, X370h, N370h⟩ := own_hide X370 (Fr.app N365h N370)
              have K372 : Keep h0 T370.heap [] := K367.trans K370 (allS (Or.inr sz_b270) (allS (Or.inr sz_el285) all0))
              have Z373 : n0 ≤ T370.heap.size := Nat.le_trans Z368 K370.1
              show G (T370.setTop (mkF m 166 #[.val (.int u0), .val (.int u1), .val (.int u2), .val (.int u3), .val (.int u4), .val (.int (4 : Int32)), .val (.int ov), .val (.int tv), .val (.int iv), .val (.int jv), .val (.int lv), .val (.int cv), .val (.int kv), .val (.ref b270), .unset, .unset, .unset, .unset, .unset, .unset, .unset] [(.int (1 : Int32))]))
              refine go _ _ (fun t' k' => XS.pop X370h.here hx rfl (hb hby at_166) rfl rfl k') ?_
              show G (T370.setTop (mkF m 167 #[.val (.int u0), .val (.int u1), .val (.int u2), .val (.int u3), .val (.int u4), .val (.int (4 : Int32)), .val (.int ov), .val (.int tv), .val (.int iv), .val (.int jv), .val (.int lv), .val (.int cv), .val (.int kv), .val (.ref b270), .unset, .unset, .unset, .unset, .unset, .unset, .unset] []))
              have f374 := (f369.keep K370)
              exact J167 T370 _ T370.heap X370h rfl N370h K372 Z373   f374 Fb370
          by_cases c375 : tv = (0 : Int32)
          · refine go _ _ (fun t' k' => XS.ifYes X268.here hx rfl (pc0 := 93) (pc' := 100) rfl (hb hby at_93) rfl (Free.XT.i0_eq_t c375) (by decide) (by decide) k') ?_
            show G (T268.setTop (mkF m 100 #[.val (.int u0), .val (.int u1), .val (.int u2), .val (.int u3), .val (.int u4), .val (.int nn), .val (.int ov), .val (.int tv), .val (.int iv), .val (.int jv), .val (.int lv), .unset, .unset, .unset, .unset, .unset, .unset, .unset, .unset, .unset, .unset] []))
            refine go _ _ (fun t' k' => XS.iconst X268.here hx rfl (hb hby at_100) k') ?_
            show G (T268.setTop (mkF m 101 #[.val (.int u0), .val (.int u1), .val (.int u2), .val (.int u3), .val (.int u4), .val (.int nn), .val (.int ov), .val (.int tv), .val (.int iv), .val (.int jv), .val (.int lv), .unset, .unset, .unset, .unset, .unset, .unset, .unset, .unset, .unset, .unset] [(.int (1 : Int32))]))
            exact J101 T268 _ X268 e268 N268j _ (Or.inl ⟨c375, rfl⟩)
          · refine go _ _ (fun t' k' => XS.ifNo X268.here hx rfl (hb hby at_93) rfl (Free.XT.i0_eq_f c375) k') ?_
            show G (T268.setTop (mkF m 96 #[.val (.int u0), .val (.int u1), .val (.int u2), .val (.int u3), .val (.int u4), .val (.int nn), .val (.int ov), .val (.int tv), .val (.int iv), .val (.int jv), .val (.int lv), .unset, .unset, .unset, .unset, .unset, .unset, .unset, .unset, .unset, .unset] []))
            refine go _ _ (fun t' k' => XS.iconst X268.here hx rfl (hb hby at_96) k') ?_
            show G (T268.setTop (mkF m 97 #[.val (.int u0), .val (.int u1), .val (.int u2), .val (.int u3), .val (.int u4), .val (.int nn), .val (.int ov), .val (.int tv), .val (.int iv), .val (.int jv), .val (.int lv), .unset, .unset, .unset, .unset, .unset, .unset, .unset, .unset, .unset, .unset] [(.int (2 : Int32))]))
            refine go _ _ (fun t' k' => XS.goto X268.here hx rfl (pc0 := 97) (pc' := 101) rfl (hb hby at_97) (by decide) (by decide) k') ?_
            show G (T268.setTop (mkF m 101 #[.val (.int u0), .val (.int u1), .val (.int u2), .val (.int u3), .val (.int u4), .val (.int nn), .val (.int ov), .val (.int tv), .val (.int iv), .val (.int jv), .val (.int lv), .unset, .unset, .unset, .unset, .unset, .unset, .unset, .unset, .unset, .unset] [(.int (2 : Int32))]))
            exact J101 T268 _ X268 e268 N268j _ (Or.inr ⟨c375, rfl⟩)
        by_cases c376 : tv = (0 : Int32)
        · refine go _ _ (fun t' k' => XS.ifYes X267.here hx rfl (pc0 := 79) (pc' := 87) rfl (hb hby at_79) rfl (Free.XT.i0_eq_t c376) (by decide) (by decide) k') ?_
          show G (T267.setTop (mkF m 87 #[.val (.int u0), .val (.int u1), .val (.int u2), .val (.int u3), .val (.int u4), .val (.int nn), .val (.int ov), .val (.int tv), .val (.int iv), .val (.int jv), .unset, .unset, .unset, .unset, .unset, .unset, .unset, .unset, .unset, .unset, .unset] []))
          refine go _ _ (fun t' k' => XS.iload X267.here hx rfl (hb hby at_87) rfl  k') ?_
          show G (T267.setTop (mkF m 89 #[.val (.int u0), .val (.int u1), .val (.int u2), .val (.int u3), .val (.int u4), .val (.int nn), .val (.int ov), .val (.int tv), .val (.int iv), .val (.int jv), .unset, .unset, .unset, .unset, .unset, .unset, .unset, .unset, .unset, .unset, .unset] [(.int iv)]))
          exact J89 T267 _ X267 e267 N267j _ (by rw [(hjt.resolve_right (fun z => z.1 c376)).2]; exact hi)
        · refine go _ _ (fun t' k' => XS.ifNo X267.here hx rfl (hb hby at_79) rfl (Free.XT.i0_eq_f c376) k') ?_
          show G (T267.setTop (mkF m 82 #[.val (.int u0), .val (.int u1), .val (.int u2), .val (.int u3), .val (.int u4), .val (.int nn), .val (.int ov), .val (.int tv), .val (.int iv), .val (.int jv), .unset, .unset, .unset, .unset, .unset, .unset, .unset, .unset, .unset, .unset, .unset] []))
          refine go _ _ (fun t' k' => XS.iload X267.here hx rfl (hb hby at_82) rfl  k') ?_
          show G (T267.setTop (mkF m 84 #[.val (.int u0), .val (.int u1), .val (.int u2), .val (.int u3), .val (.int u4), .val (.int nn), .val (.int ov), .val (.int tv), .val (.int iv), .val (.int jv), .unset, .unset, .unset, .unset, .unset, .unset, .unset, .unset, .unset, .unset, .unset] [(.int jv)]))
          refine go _ _ (fun t' k' => XS.goto X267.here hx rfl (pc0 := 84) (pc' := 89) rfl (hb hby at_84) (by decide) (by decide) k') ?_
          show G (T267.setTop (mkF m 89 #[.val (.int u0), .val (.int u1), .val (.int u2), .val (.int u3), .val (.int u4), .val (.int nn), .val (.int ov), .val (.int tv), .val (.int iv), .val (.int jv), .unset, .unset, .unset, .unset, .unset, .unset, .unset, .unset, .unset, .unset, .unset] [(.int jv)]))
          exact J89 T267 _ X267 e267 N267j _ hj
      by_cases c377 : tv = (0 : Int32)
      · refine go _ _ (fun t' k' => XS.ifYes X266.here hx rfl (pc0 := 55) (pc' := 77) rfl (hb hby at_55) rfl (Free.XT.i0_eq_t c377) (by decide) (by decide) k') ?_
        show G (T266.setTop (mkF m 77 #[.val (.int u0), .val (.int u1), .val (.int u2), .val (.int u3), .val (.int u4), .val (.int nn), .val (.int ov), .val (.int tv), .val (.int iv), .val (.int iv), .unset, .unset, .unset, .unset, .unset, .unset, .unset, .unset, .unset, .unset, .unset] []))
        exact J77 T266 _ X266 e266 N266j _ iN hi (Or.inl ⟨c377, rfl⟩)
      · refine go _ _ (fun t' k' => XS.ifNo X266.here hx rfl (hb hby at_55) rfl (Free.XT.i0_eq_f c377) k') ?_
        show G (T266.setTop (mkF m 58 #[.val (.int u0), .val (.int u1), .val (.int u2), .val (.int u3), .val (.int u4), .val (.int nn), .val (.int ov), .val (.int tv), .val (.int iv), .val (.int iv), .unset, .unset, .unset, .unset, .unset, .unset, .unset, .unset, .unset, .unset, .unset] []))
        have h2N : 2 ≤ N := (htv.resolve_left c377).2
        refine go _ _ (fun t' k' => XS.iload X266.here hx rfl (hb hby at_58) rfl  k') ?_
        show G (T266.setTop (mkF m 60 #[.val (.int u0), .val (.int u1), .val (.int u2), .val (.int u3), .val (.int u4), .val (.int nn), .val (.int ov), .val (.int tv), .val (.int iv), .val (.int iv), .unset, .unset, .unset, .unset, .unset, .unset, .unset, .unset, .unset, .unset, .unset] [(.int iv)]))
        refine go _ _ (fun t' k' => XS.iconst X266.here hx rfl (hb hby at_60) k') ?_
        show G (T266.setTop (mkF m 61 #[.val (.int u0), .val (.int u1), .val (.int u2), .val (.int u3), .val (.int u4), .val (.int nn), .val (.int ov), .val (.int tv), .val (.int iv), .val (.int iv), .unset, .unset, .unset, .unset, .unset, .unset, .unset, .unset, .unset, .unset, .unset] [(.int (1 : Int32)), (.int iv)]))
        refine go _ _ (fun t' k' => XS.iadd X266.here hx rfl (hb hby at_61) rfl k') ?_
        show G (T266.setTop (mkF m 62 #[.val (.int u0), .val (.int u1), .val (.int u2), .val (.int u3), .val (.int u4), .val (.int nn), .val (.int ov), .val (.int tv), .val (.int iv), .val (.int iv), .unset, .unset, .unset, .unset, .unset, .unset, .unset, .unset, .unset, .unset, .unset] [(.int (iv + (1 : Int32)))]))
        refine go _ _ (fun t' k' => XS.iloadN X266.here hx rfl (hb hby at_62) rfl  k') ?_
        show G (T266.setTop (mkF m 63 #[.val (.int u0), .val (.int u1), .val (.int u2), .val (.int u3), .val (.int u4), .val (.int nn), .val (.int ov), .val (.int tv), .val (.int iv), .val (.int iv), .unset, .unset, .unset, .unset, .unset, .unset, .unset, .unset, .unset, .unset, .unset] [(.int u2), (.int (iv + (1 : Int32)))]))
        refine go _ _ (fun t' k' => X266.ldcInt hx hown (mvT hZ (hw _ (List.mem_of_getElem? (i := 0) rfl))) (g := (mkF m 63 #[.val (.int u0), .val (.int u1), .val (.int u2), .val (.int u3), .val (.int u4), .val (.int nn), .val (.int ov), .val (.int tv), .val (.int iv), .val (.int iv), .unset, .unset, .unset, .unset, .unset, .unset, .unset, .unset, .unset, .unset, .unset] [(.int u2), (.int (iv + (1 : Int32)))])) rfl (hb hby at_63) _ k') ?_
        show G (T266.setTop (mkF m 65 #[.val (.int u0), .val (.int u1), .val (.int u2), .val (.int u3), .val (.int u4), .val (.int nn), .val (.int ov), .val (.int tv), .val (.int iv), .val (.int iv), .unset, .unset, .unset, .unset, .unset, .unset, .unset, .unset, .unset, .unset, .unset] [(.int (2147483647 : Int32)), (.int u2), (.int (iv + (1 : Int32)))]))
        refine go _ _ (fun t' k' => XS.iand X266.here hx rfl (hb hby at_65) rfl k') ?_
        show G (T266.setTop (mkF m 66 #[.val (.int u0), .val (.int u1), .val (.int u2), .val (.int u3), .val (.int u4), .val (.int nn), .val (.int ov), .val (.int tv), .val (.int iv), .val (.int iv), .unset, .unset, .unset, .unset, .unset, .unset, .unset, .unset, .unset, .unset, .unset] [(.int (u2 &&& (2147483647 : Int32))), (.int (iv + (1 : Int32)))]))
        refine go _ _ (fun t' k' => XS.iload X266.here hx rfl (hb hby at_66) rfl  k') ?_
        show G (T266.setTop (mkF m 68 #[.val (.int u0), .val (.int u1), .val (.int u2), .val (.int u3), .val (.int u4), .val (.int nn), .val (.int ov), .val (.int tv), .val (.int iv), .val (.int iv), .unset, .unset, .unset, .unset, .unset, .unset, .unset, .unset, .unset, .unset, .unset] [(.int nn), (.int (u2 &&& (2147483647 : Int32))), (.int (iv + (1 : Int32)))]))
        refine go _ _ (fun t' k' => XS.iconst X266.here hx rfl (hb hby at_68) k') ?_
        show G (T266.setTop (mkF m 69 #[.val (.int u0), .val (.int u1), .val (.int u2), .val (.int u3), .val (.int u4), .val (.int nn), .val (.int ov), .val (.int tv), .val (.int iv), .val (.int iv), .unset, .unset, .unset, .unset, .unset, .unset, .unset, .unset, .unset, .unset, .unset] [(.int (1 : Int32)), (.int nn), (.int (u2 &&& (2147483647 : Int32))), (.int (iv + (1 : Int32)))]))
        refine go _ _ (fun t' k' => XS.isub X266.here hx rfl (hb hby at_69) rfl k') ?_
        show G (T266.setTop (mkF m 70 #[.val (.int u0), .val (.int u1), .val (.int u2), .val (.int u3), .val (.int u4), .val (.int nn), .val (.int ov), .val (.int tv), .val (.int iv), .val (.int iv), .unset, .unset, .unset, .unset, .unset, .unset, .unset, .unset, .unset, .unset, .unset] [(.int (nn - (1 : Int32))), (.int (u2 &&& (2147483647 : Int32))), (.int (iv + (1 : Int32)))]))
        refine go _ _ (fun t' k' => iremM X266 hx rfl (hb hby at_70) rfl (own_nz (own_sub hN (j := 1) rfl (by omega) (by omega)) (by omega)) k') ?_
        show G (T266.setTop (mkF m 71 #[.val (.int u0), .val (.int u1), .val (.int u2), .val (.int u3), .val (.int u4), .val (.int nn), .val (.int ov), .val (.int tv), .val (.int iv), .val (.int iv), .unset, .unset, .unset, .unset, .unset, .unset, .unset, .unset, .unset, .unset, .unset] [(.int ((u2 &&& (2147483647 : Int32)) % (nn - (1 : Int32)))), (.int (iv + (1 : Int32)))]))
        obtain ⟨rv, hrv⟩ : ∃ z, z = ((u2 &&& (2147483647 : Int32)) % (nn - (1 : Int32))) := ⟨_, rfl⟩
        rw [← hrv]
        show G (T266.setTop (mkF m 71 #[.val (.int u0), .val (.int u1), .val (.int u2), .val (.int u3), .val (.int u4), .val (.int nn), .val (.int ov), .val (.int tv), .val (.int iv), .val (.int iv), .unset, .unset, .unset, .unset, .unset, .unset, .unset, .unset, .unset, .unset, .unset] [(.int rv), (.int (iv + (1 : Int32)))]))
        obtain ⟨rN, hr, hrN⟩ := own_rem (own_sub hN (j := 1) rfl (by omega) (by omega)) (by omega) hrv
        refine go _ _ (fun t' k' => XS.iadd X266.here hx rfl (hb hby at_71) rfl k') ?_
        show G (T266.setTop (mkF m 72 #[.val (.int u0), .val (.int u1), .val (.int u2), .val (.int u3), .val (.int u4), .val (.int nn), .val (.int ov), .val (.int tv), .val (.int iv), .val (.int iv), .unset, .unset, .unset, .unset, .unset, .unset, .unset, .unset, .unset, .unset, .unset] [(.int ((iv + (1 : Int32)) + rv))]))
        refine go _ _ (fun t' k' => XS.iload X266.here hx rfl (hb hby at_72) rfl  k') ?_
        show G (T266.setTop (mkF m 74 #[.val (.int u0), .val (.int u1), .val (.int u2), .val (.int u3), .val (.int u4), .val (.int nn), .val (.int ov), .val (.int tv), .val (.int iv), .val (.int iv), .unset, .unset, .unset, .unset, .unset, .unset, .unset, .unset, .unset, .unset, .unset] [(.int nn), (.int ((iv + (1 : Int32)) + rv))]))
        refine go _ _ (fun t' k' => iremM X266 hx rfl (hb hby at_74) rfl (own_nz hN h1N) k') ?_
        show G (T266.setTop (mkF m 75 #[.val (.int u0), .val (.int u1), .val (.int u2), .val (.int u3), .val (.int u4), .val (.int nn), .val (.int ov), .val (.int tv), .val (.int iv), .val (.int iv), .unset, .unset, .unset, .unset, .unset, .unset, .unset, .unset, .unset, .unset, .unset] [(.int (((iv + (1 : Int32)) + rv) % nn))]))
        refine go _ _ (fun t' k' => XS.istore X266.here hx rfl (hb hby at_75) rfl (l' := #[.val (.int u0), .val (.int u1), .val (.int u2), .val (.int u3), .val (.int u4), .val (.int nn), .val (.int ov), .val (.int tv), .val (.int iv), .val (.int (((iv + (1 : Int32)) + rv) % nn)), .unset, .unset, .unset, .unset, .unset, .unset, .unset, .unset, .unset, .unset, .unset]) rfl k') ?_
        show G (T266.setTop (mkF m 77 #[.val (.int u0), .val (.int u1), .val (.int u2), .val (.int u3), .val (.int u4), .val (.int nn), .val (.int ov), .val (.int tv), .val (.int iv), .val (.int (((iv + (1 : Int32)) + rv) % nn)), .unset, .unset, .unset, .unset, .unset, .unset, .unset, .unset, .unset, .unset, .unset] []))
        obtain ⟨jw, hjw⟩ : ∃ z, z = (((iv + (1 : Int32)) + rv) % nn) := ⟨_, rfl⟩
        rw [← hjw]
        show G (T266.setTop (mkF m 77 #[.val (.int u0), .val (.int u1), .val (.int u2), .val (.int u3), .val (.int u4), .val (.int nn), .val (.int ov), .val (.int tv), .val (.int iv), .val (.int jw), .unset, .unset, .unset, .unset, .unset, .unset, .unset, .unset, .unset, .unset, .unset] []))
        obtain ⟨jM, hjm, hjl, hjne⟩ := own_j hi hr hN hiN hrN hN4 hjw
        exact J77 T266 _ X266 e266 N266j _ jM hjm (Or.inr ⟨c377, h2N, hjl, hjne⟩)
    by_cases c378 : (u0 &&& (8 : Int32)) = (0 : Int32)
    · refine go _ _ (fun t' k' => XS.ifYes X265.here hx rfl (pc0 := 24) (pc' := 37) rfl (hb hby at_24) rfl (Free.XT.i0_eq_t c378) (by decide) (by decide) k') ?_
      show G (T265.setTop (mkF m 37 #[.val (.int u0), .val (.int u1), .val (.int u2), .val (.int u3), .val (.int u4), .val (.int nn), .val (.int ov), .unset, .unset, .unset, .unset, .unset, .unset, .unset, .unset, .unset, .unset, .unset, .unset, .unset, .unset] []))
      refine go _ _ (fun t' k' => XS.iconst X265.here hx rfl (hb hby at_37) k') ?_
      show G (T265.setTop (mkF m 38 #[.val (.int u0), .val (.int u1), .val (.int u2), .val (.int u3), .val (.int u4), .val (.int nn), .val (.int ov), .unset, .unset, .unset, .unset, .unset, .unset, .unset, .unset, .unset, .unset, .unset, .unset, .unset, .unset] [(.int (0 : Int32))]))
      exact J38 T265 _ X265 e265 N265j _ (Or.inl rfl)
    · refine go _ _ (fun t' k' => XS.ifNo X265.here hx rfl (hb hby at_24) rfl (Free.XT.i0_eq_f c378) k') ?_
      show G (T265.setTop (mkF m 27 #[.val (.int u0), .val (.int u1), .val (.int u2), .val (.int u3), .val (.int u4), .val (.int nn), .val (.int ov), .unset, .unset, .unset, .unset, .unset, .unset, .unset, .unset, .unset, .unset, .unset, .unset, .unset, .unset] []))
      refine go _ _ (fun t' k' => XS.iload X265.here hx rfl (hb hby at_27) rfl  k') ?_
      show G (T265.setTop (mkF m 29 #[.val (.int u0), .val (.int u1), .val (.int u2), .val (.int u3), .val (.int u4), .val (.int nn), .val (.int ov), .unset, .unset, .unset, .unset, .unset, .unset, .unset, .unset, .unset, .unset, .unset, .unset, .unset, .unset] [(.int nn)]))
      refine go _ _ (fun t' k' => XS.iconst X265.here hx rfl (hb hby at_29) k') ?_
      show G (T265.setTop (mkF m 30 #[.val (.int u0), .val (.int u1), .val (.int u2), .val (.int u3), .val (.int u4), .val (.int nn), .val (.int ov), .unset, .unset, .unset, .unset, .unset, .unset, .unset, .unset, .unset, .unset, .unset, .unset, .unset, .unset] [(.int (2 : Int32)), (.int nn)]))
      by_cases c379 : nn < (2 : Int32)
      · refine go _ _ (fun t' k' => XS.icmpYes X265.here hx rfl (pc0 := 30) (pc' := 37) rfl (hb hby at_30) rfl (Free.XT.ii_lt_t c379) (by decide) (by decide) k') ?_
        show G (T265.setTop (mkF m 37 #[.val (.int u0), .val (.int u1), .val (.int u2), .val (.int u3), .val (.int u4), .val (.int nn), .val (.int ov), .unset, .unset, .unset, .unset, .unset, .unset, .unset, .unset, .unset, .unset, .unset, .unset, .unset, .unset] []))
        refine go _ _ (fun t' k' => XS.iconst X265.here hx rfl (hb hby at_37) k') ?_
        show G (T265.setTop (mkF m 38 #[.val (.int u0), .val (.int u1), .val (.int u2), .val (.int u3), .val (.int u4), .val (.int nn), .val (.int ov), .unset, .unset, .unset, .unset, .unset, .unset, .unset, .unset, .unset, .unset, .unset, .unset, .unset, .unset] [(.int (0 : Int32))]))
        exact J38 T265 _ X265 e265 N265j _ (Or.inl rfl)
      · refine go _ _ (fun t' k' => XS.icmpNo X265.here hx rfl (hb hby at_30) rfl (Free.XT.ii_lt_f c379) k') ?_
        show G (T265.setTop (mkF m 33 #[.val (.int u0), .val (.int u1), .val (.int u2), .val (.int u3), .val (.int u4), .val (.int nn), .val (.int ov), .unset, .unset, .unset, .unset, .unset, .unset, .unset, .unset, .unset, .unset, .unset, .unset, .unset, .unset] []))
        refine go _ _ (fun t' k' => XS.iconst X265.here hx rfl (hb hby at_33) k') ?_
        show G (T265.setTop (mkF m 34 #[.val (.int u0), .val (.int u1), .val (.int u2), .val (.int u3), .val (.int u4), .val (.int nn), .val (.int ov), .unset, .unset, .unset, .unset, .unset, .unset, .unset, .unset, .unset, .unset, .unset, .unset, .unset, .unset] [(.int (1 : Int32))]))
        refine go _ _ (fun t' k' => XS.goto X265.here hx rfl (pc0 := 34) (pc' := 38) rfl (hb hby at_34) (by decide) (by decide) k') ?_
        show G (T265.setTop (mkF m 38 #[.val (.int u0), .val (.int u1), .val (.int u2), .val (.int u3), .val (.int u4), .val (.int nn), .val (.int ov), .unset, .unset, .unset, .unset, .unset, .unset, .unset, .unset, .unset, .unset, .unset, .unset, .unset, .unset] [(.int (1 : Int32))]))
        exact J38 T265 _ X265 e265 N265j _ (Or.inr ⟨by decide, by have z := (not_congr (own_lt hN (j := 2) rfl)).mp c379; omega⟩)
  by_cases c380 : (u0 &&& (4 : Int32)) = (0 : Int32)
  · refine go _ _ (fun t' k' => XS.ifYes X0.here hx rfl (pc0 := 10) (pc' := 17) rfl (hb hby at_10) rfl (Free.XT.i0_eq_t c380) (by decide) (by decide) k') ?_
    show G (s₁.setTop (mkF m 17 #[.val (.int u0), .val (.int u1), .val (.int u2), .val (.int u3), .val (.int u4), .val (.int nn), .unset, .unset, .unset, .unset, .unset, .unset, .unset, .unset, .unset, .unset, .unset, .unset, .unset, .unset, .unset] []))
    refine go _ _ (fun t' k' => XS.iconst X0.here hx rfl (hb hby at_17) k') ?_
    show G (s₁.setTop (mkF m 18 #[.val (.int u0), .val (.int u1), .val (.int u2), .val (.int u3), .val (.int u4), .val (.int nn), .unset, .unset, .unset, .unset, .unset, .unset, .unset, .unset, .unset, .unset, .unset, .unset, .unset, .unset, .unset] [(.int (0 : Int32))]))
    exact J18 s₁ _ X0 e0 N0 _ (Or.inl rfl)
  · refine go _ _ (fun t' k' => XS.ifNo X0.here hx rfl (hb hby at_10) rfl (Free.XT.i0_eq_f c380) k') ?_
    show G (s₁.setTop (mkF m 13 #[.val (.int u0), .val (.int u1), .val (.int u2), .val (.int u3), .val (.int u4), .val (.int nn), .unset, .unset, .unset, .unset, .unset, .unset, .unset, .unset, .unset, .unset, .unset, .unset, .unset, .unset, .unset] []))
    refine go _ _ (fun t' k' => XS.iconst X0.here hx rfl (hb hby at_13) k') ?_
    show G (s₁.setTop (mkF m 14 #[.val (.int u0), .val (.int u1), .val (.int u2), .val (.int u3), .val (.int u4), .val (.int nn), .unset, .unset, .unset, .unset, .unset, .unset, .unset, .unset, .unset, .unset, .unset, .unset, .unset, .unset, .unset] [(.int (1 : Int32))]))
    refine go _ _ (fun t' k' => XS.goto X0.here hx rfl (pc0 := 14) (pc' := 18) rfl (hb hby at_14) (by decide) (by decide) k') ?_
    show G (s₁.setTop (mkF m 18 #[.val (.int u0), .val (.int u1), .val (.int u2), .val (.int u3), .val (.int u4), .val (.int nn), .unset, .unset, .unset, .unset, .unset, .unset, .unset, .unset, .unset, .unset, .unset, .unset, .unset, .unset, .unset] [(.int (1 : Int32))]))
    exact J18 s₁ _ X0 e0 N0 _ (Or.inr rfl)
set_option maxRecDepth 65536 in
set_option maxHeartbeats 40000000 in
theorem comes_1 {Post : Tables → Env → Array Value → State → Outcome → State → Prop} (hpost : ∀ tb e args s v u, (limb_1_1.after args s (.returned v) u = true ∧ limb_1_2.after args s (.returned v) u = true ∧ True) → FrameEnd s (.returned v) u (Jvm.fieldLocs frame_1_writes args s ++ Jvm.arrayLocs frame_1_arrays args s ++ Jvm.staticLocs frame_1_statics s) 16 128 → Post tb e args s (.returned v) u) :
    ArmFor flags0 classFile x code maxLocals ret World_1 tables_1 room_1 Calls_1 rest_1 Pre_1 Post := by
  intro l hfl _ _ p e ha hc hk s m args below hf hA hF happ hP
  obtain ⟨hcalls, hrest, hpre⟩ := hP
  obtain ⟨-, -, -, hnamed, -, -, -, hat⟩ := (Spec.applies_iff hf).mp happ
  obtain ⟨hg, hn⟩ := and_e (Cond.before_iff.mp (show (Jvm.Cond.and given_1 narrow_1).before args s = true from hpre))
  obtain ⟨k0, hg0⟩ := and_e hg
  obtain ⟨ka0, hg1⟩ := and_e hg0
  obtain ⟨ka1, hg2⟩ := and_e hg1
  obtain ⟨ka2, hg3⟩ := and_e hg2
  obtain ⟨ka3, hg4⟩ := and_e hg3
  have ka4 := hg4
  obtain ⟨w0, w1, w2, w3, w4, rfl⟩ : ∃ w0 w1 w2 w3 w4 : Value, args = #[w0, w1, w2, w3, w4] := by
    have hs : args.size = 5 := by simpa [Cond.value, given_1] using k0
    obtain ⟨L⟩ := args
    match L, hs with
    | [w0, w1, w2, w3, w4], _ => exact ⟨w0, w1, w2, w3, w4, rfl⟩
  have hw := fun d (hd : d ∈ tables_1) => atoms_spec (ws := Jvm.Cond.code x code maxLocals ret :: tables_1) hat d (List.mem_cons_of_mem _ hd)
  obtain ⟨hsets, hown0⟩ := atoms_of _ (rest_1_c_eq ▸ (show rest_1_c.before _ s = true from hrest))
  have hfit : Fit s := fun {y c} hc i hi => by
    obtain ⟨ha, rfl⟩ := Array.getElem?_eq_some_iff.mp hc
    have q := List.all_eq_true.mp ((Array.all_eq_true_iff_forall_mem.mp hF) _ (Array.getElem_mem ha)) i (List.mem_range.mpr hi)
    simpa [Array.getElem?_eq_getElem hi] using q
  obtain ⟨i0, ie0⟩ := is_v ka0
  obtain rfl : w0 = (.int i0) := Option.some.inj ie0
  obtain ⟨i1, ie1⟩ := is_v ka1
  obtain rfl : w1 = (.int i1) := Option.some.inj ie1
  obtain ⟨i2, ie2⟩ := is_v ka2
  obtain rfl : w2 = (.int i2) := Option.some.inj ie2
  obtain ⟨i3, ie3⟩ := is_v ka3
  obtain rfl : w3 = (.int i3) := Option.some.inj ie3
  obtain ⟨i4, ie4⟩ := is_v ka4
  obtain rfl : w4 = (.int i4) := Option.some.inj ie4
  have nd6 := Cond.before_iff.mp (hsets _ (List.mem_of_getElem? (i := 6) rfl))
  have nd8 := Cond.before_iff.mp (hsets _ (List.mem_of_getElem? (i := 8) rfl))
  obtain ⟨rd, evd⟩ := arr_v nd6
  have Sd := Sta.start evd (Or.inr ⟨((hw _ (List.mem_of_getElem? (i := 3) rfl))), (hsets _ (List.mem_of_getElem? (i := 2) rfl))⟩)
  obtain ⟨cl, Ar⟩ := Arr.start evd nd6
  have hat0 : s.arrayAt? rd = some cl := Arr.fin (State.Warmed39.refl s).alike Ar
  obtain ⟨hsz, hl⟩ := own_len evd hat0 nd8
  have hsz' : cl.slots.size = 0 := by have : (0 : Int32).toInt = 0 := rfl; omega
  have Ad : Ary s s.heap rd (.object "java/lang/Object") 0 (fun _ => .null) := ⟨cl, Ar, hsz', by decide, fun i hi => absurd hi (Nat.not_lt_zero _), fun i hi => absurd hi (Nat.not_lt_zero _)⟩
  obtain ⟨n, o, h1, h2, h3, _, L, rfl, ⟨rfl, N⟩, hq⟩ := rm0 l s _ hw i0 i1 i2 i3 i4 s.heap s.heap.size (Nat.le_refl _) rd _ Sd Ad tables_1 p e ha hc hk s m _ below hf ((Spec.applies_iff_loose hf).mp happ).1 ⟨rfl, State.Warmed39.refl s, rfl⟩ trivial
  refine ⟨n, _, h1, h2, h3, hpost _ _ _ _ _ _ ⟨Cond.after_iff.mpr rfl, Cond.after_iff.mpr (eq_i res_at (Term.int_eval (1)) rfl), trivial⟩ ⟨hq.1, hq.2.1, (hq.2.2.sift fun y hy => Or.inr (N y hy)).mono (by decide) (by decide)⟩⟩
theorem main_1_1 : Claimed_1_1 := comes_1 fun _ _ _ _ _ _ h hF => ⟨h.1, hF⟩
theorem main_1_2 : Claimed_1_2 := comes_1 fun _ _ _ _ _ _ h hF => ⟨h.2.1, hF⟩
end Jvm.Pilot.@@N@@
namespace Jvm.Pilot.@@N@@
open Jvm Jvm.ClassFile Sem Op Lib Jvm.Free Jvm.Stand Jvm.Pilot.@@N@@.Jvm.D
/-! MADE BY PROGRAM (witnessworld.py) out of the Statement's table words and the real class files: 21 classes; the members and pool entries that the words name. The judged class is class 1, her method 1. -/
namespace start1
open Jvm.ClassFile
def u (s : String) : CpInfo := .utf8 (stringToUtf16 s)
/-- a pool by its gaps: so many unusable entries, then the entry; so many at the end -/
def gap : Nat → List CpInfo → List CpInfo
  | 0, r => r
  | n + 1, r => .unusable :: gap n r
def poolList (es : List (Nat × CpInfo)) (last : Nat) : List CpInfo := es.foldr (fun e r => gap e.1 (e.2 :: r)) (gap last [])
def pool (es : List (Nat × CpInfo)) (last : Nat) : Array CpInfo := ⟨poolList es last⟩
def fileOf (pool : Array CpInfo) (this : Nat) (attrs : Array Attribute := #[]) (ms : Array MethodInfo := #[]) (fl : Nat := 33) (sup : Nat := 0) (ifs : Array Nat := #[]) (fds : Array FieldInfo := #[]) : ClassFile where
  minorVersion := 0
  majorVersion := 65
  constantPool := pool
  accessFlags := fl
  thisClass := this
  superClass := sup
  interfaces := ifs
  fields := fds
  methods := ms
  attributes := attrs
def plain (name : String) (sup : Option ClassId) : Class where
  name := name
  kind := .ordinary
  loader := none
  accessFlags := 33
  super := sup
  interfaces := #[]
  cf := none
  fields := #[]
  methods := #[]
  instanceTypes := #[]
  staticTypes := #[]
  resolved := #[]
  callSites := []
  init := .initialized
  statics := none
  mirror := none

def pool0 : Array CpInfo := pool [(5, u "<init>"), (0, u "()V"), (1, .class_ 10), (1, u "java/lang/Object")] 113

def k0c0 : Code := { maxStack := 0, maxLocals := 1, code := object_method_1_code, exceptionTable := #[], attributes := #[] }
def k0m0 : Method := { name := "<init>", desc := "()V", sig := { parameters := [], returnType := none }, accessFlags := 1, code := some k0c0 }
/-- java/lang/Object -/
def k0 : Class := { plain "java/lang/Object" none with
  accessFlags := 33
  interfaces := #[]
  cf := some (fileOf pool0 8 #[] #[{ accessFlags := 1, nameIndex := 5, descriptorIndex := 6, attributes := #[] }] 33 0 #[] #[])
  fields := #[]
  methods := #[k0m0]
  instanceTypes := #[]
  staticTypes := #[]
  resolved := Array.replicate 124 none
  statics := none }

def pool1 : Array CpInfo := pool [(2, .class_ 4), (0, .nameAndType 5 6), (0, u "java/lang/Object"), (0, u "<init>"), (0, u "()V"), (0, .integer 2147483647), (0, .class_ 9), (0, u "java/util/ArrayList"), (0, .methodref 8 3), (0, .methodref 8 12), (0, .nameAndType 13 14), (0, u "add"), (0, u "(Ljava/lang/Object;)Z"), (0, .class_ 16), (0, u "com/example/clearbrace/clearbrace/gser/ComponentOrder"), (0, .methodref 15 18), (0, .nameAndType 5 19), (0, u "(Ljava/util/List;Z)V"), (0, .methodref 15 21), (0, .nameAndType 22 23), (0, u "isGiven"), (0, u "(I)Z"), (0, .methodref 15 25), (0, .nameAndType 26 27), (0, u "give"), (0, u "(I)V"), (0, .methodref 15 29), (0, .nameAndType 30 31), (0, u "anyLeft"), (0, u "()Z"), (0, .methodref 33 34), (0, .class_ 35), (0, .nameAndType 36 37), (0, u "java/lang/Math"), (0, u "min"), (0, u "(II)I"), (0, .methodref 15 39), (0, .nameAndType 40 23), (0, u "mayComeNext"), (0, .class_ 42), (0, u "com/example/clearbrace/clearbrace/gser/ComponentOrderGivePinLaw"), (2, u "law"), (0, u "(IIIII)Z")] 3

def k1m0 : Method := { name := "<init>", desc := "()V", sig := { parameters := [], returnType := none }, accessFlags := 1, code := none }
def k1c1 : Code := { maxStack := 4, maxLocals := 21, code := code, exceptionTable := #[], attributes := #[] }
def k1m1 : Method := { name := "law", desc := "(IIIII)Z", sig := { parameters := [.int, .int, .int, .int, .int], returnType := some .boolean }, accessFlags := 9, code := some k1c1 }
/-- com/example/clearbrace/clearbrace/gser/ComponentOrderGivePinLaw -/
def k1 : Class := { plain "com/example/clearbrace/clearbrace/gser/ComponentOrderGivePinLaw" (some 0) with
  accessFlags := 49
  interfaces := #[]
  cf := some (fileOf pool1 41 #[] #[{ accessFlags := 1, nameIndex := 5, descriptorIndex := 6, attributes := #[] }, { accessFlags := 9, nameIndex := 45, descriptorIndex := 46, attributes := #[] }] 49 2 #[] #[])
  fields := #[]
  methods := #[k1m0, k1m1]
  instanceTypes := #[]
  staticTypes := #[]
  resolved := Array.replicate 50 none
  statics := none }

def pool2 : Array CpInfo := pool [(8, .class_ 10), (1, u "java/lang/Iterable"), (24, .class_ 36), (0, u "java/lang/Object")] 25

/-- java/lang/Iterable -/
def k2 : Class := { plain "java/lang/Iterable" (some 0) with
  accessFlags := 1537
  interfaces := #[]
  cf := some (fileOf pool2 8 #[] #[] 1537 35 #[] #[])
  fields := #[]
  methods := #[]
  instanceTypes := #[]
  staticTypes := #[]
  resolved := Array.replicate 62 none
  statics := none }

def pool3 : Array CpInfo := pool [(10, .class_ 12), (1, u "java/util/Collection"), (47, .class_ 61), (0, u "java/lang/Object"), (0, .class_ 63), (0, u "java/lang/Iterable")] 51

/-- java/util/Collection -/
def k3 : Class := { plain "java/util/Collection" (some 0) with
  accessFlags := 1537
  interfaces := #[2]
  cf := some (fileOf pool3 10 #[] #[] 1537 60 #[62] #[])
  fields := #[]
  methods := #[]
  instanceTypes := #[]
  staticTypes := #[]
  resolved := Array.replicate 115 none
  statics := none }

def pool4 : Array CpInfo := pool [(1, .methodref 2 3), (0, .class_ 4), (0, .nameAndType 5 6), (0, u "java/lang/Object"), (0, u "<init>"), (0, u "()V"), (1, .class_ 10), (1, u "java/util/AbstractCollection"), (66, .class_ 78), (0, u "java/util/Collection")] 81

def k4c0 : Code := { maxStack := 1, maxLocals := 1, code := jdk_22_method_1_code, exceptionTable := #[], attributes := #[] }
def k4m0 : Method := { name := "<init>", desc := "()V", sig := { parameters := [], returnType := none }, accessFlags := 4, code := some k4c0 }
/-- java/util/AbstractCollection -/
def k4 : Class := { plain "java/util/AbstractCollection" (some 0) with
  accessFlags := 1057
  interfaces := #[3]
  cf := some (fileOf pool4 8 #[] #[{ accessFlags := 4, nameIndex := 5, descriptorIndex := 6, attributes := #[] }] 1057 2 #[77] #[])
  fields := #[]
  methods := #[k4m0]
  instanceTypes := #[]
  staticTypes := #[]
  resolved := Array.replicate 160 none
  statics := none }

def pool5 : Array CpInfo := pool [(8, .class_ 10), (1, u "java/util/SequencedCollection"), (15, .class_ 27), (0, u "java/lang/Object"), (0, .class_ 29), (0, u "java/util/Collection")] 27

/-- java/util/SequencedCollection -/
def k5 : Class := { plain "java/util/SequencedCollection" (some 0) with
  accessFlags := 1537
  interfaces := #[3]
  cf := some (fileOf pool5 8 #[] #[] 1537 26 #[28] #[])
  fields := #[]
  methods := #[]
  instanceTypes := #[]
  staticTypes := #[]
  resolved := Array.replicate 57 none
  statics := none }

def pool6 : Array CpInfo := pool [(8, .class_ 10), (1, u "java/util/List"), (68, u "size"), (0, u "()I"), (22, .class_ 104), (0, u "java/lang/Object"), (15, .class_ 121), (0, u "java/util/SequencedCollection")] 129

def k6m0 : Method := { name := "size", desc := "()I", sig := { parameters := [], returnType := some .int }, accessFlags := 1025, code := none }
/-- java/util/List -/
def k6 : Class := { plain "java/util/List" (some 0) with
  accessFlags := 1537
  interfaces := #[5]
  cf := some (fileOf pool6 8 #[] #[{ accessFlags := 1025, nameIndex := 79, descriptorIndex := 80, attributes := #[] }] 1537 103 #[120] #[])
  fields := #[]
  methods := #[k6m0]
  instanceTypes := #[]
  staticTypes := #[]
  resolved := Array.replicate 251 none
  statics := none }

def pool7 : Array CpInfo := pool [(1, .methodref 2 3), (0, .class_ 4), (0, .nameAndType 5 6), (0, u "java/util/AbstractCollection"), (0, u "<init>"), (0, u "()V"), (0, .fieldref 8 9), (0, .class_ 10), (0, .nameAndType 11 12), (0, u "java/util/AbstractList"), (0, u "modCount"), (0, u "I"), (64, .class_ 78), (0, u "java/util/AbstractList$Itr"), (3, .class_ 83), (0, u "java/util/AbstractList$ListItr"), (9, .class_ 94), (0, u "java/util/AbstractList$RandomAccessSubList"), (3, .class_ 99), (0, u "java/util/AbstractList$SubList"), (33, .class_ 134), (0, u "java/util/List"), (73, .class_ 209), (0, u "java/util/AbstractList$SubList$1"), (0, .class_ 211), (0, u "java/util/AbstractList$RandomAccessSpliterator")] 6

def k7c0 : Code := { maxStack := 2, maxLocals := 1, code := jdk_39_method_1_code, exceptionTable := #[], attributes := #[] }
def k7m0 : Method := { name := "<init>", desc := "()V", sig := { parameters := [], returnType := none }, accessFlags := 4, code := some k7c0 }
/-- java/util/AbstractList -/
def k7 : Class := { plain "java/util/AbstractList" (some 4) with
  accessFlags := 1057
  interfaces := #[6]
  cf := some (fileOf pool7 8 #[.nestMembers #[93, 98, 208, 210, 82, 77]] #[{ accessFlags := 4, nameIndex := 5, descriptorIndex := 6, attributes := #[] }] 1057 2 #[133] #[{ accessFlags := 132, nameIndex := 11, descriptorIndex := 12, attributes := #[] }])
  fields := #[{ name := "modCount", type := .int, accessFlags := 132, slot := 0, constantValue := 0 }]
  methods := #[k7m0]
  instanceTypes := #[.int]
  staticTypes := #[]
  resolved := Array.replicate 218 none
  statics := none }

def pool8 : Array CpInfo := pool [(1, .class_ 2), (0, u "java/util/RandomAccess"), (0, .class_ 4), (0, u "java/lang/Object")] 2

/-- java/util/RandomAccess -/
def k8 : Class := { plain "java/util/RandomAccess" (some 0) with
  accessFlags := 1537
  interfaces := #[]
  cf := some (fileOf pool8 1 #[] #[] 1537 3 #[] #[])
  fields := #[]
  methods := #[]
  instanceTypes := #[]
  staticTypes := #[]
  resolved := Array.replicate 7 none
  statics := none }

def pool9 : Array CpInfo := pool [(1, .class_ 2), (0, u "java/lang/Cloneable"), (0, .class_ 4), (0, u "java/lang/Object")] 2

/-- java/lang/Cloneable -/
def k9 : Class := { plain "java/lang/Cloneable" (some 0) with
  accessFlags := 1537
  interfaces := #[]
  cf := some (fileOf pool9 1 #[] #[] 1537 3 #[] #[])
  fields := #[]
  methods := #[]
  instanceTypes := #[]
  staticTypes := #[]
  resolved := Array.replicate 7 none
  statics := none }

def pool10 : Array CpInfo := pool [(1, .class_ 2), (0, u "java/io/Serializable"), (0, .class_ 4), (0, u "java/lang/Object")] 2

/-- java/io/Serializable -/
def k10 : Class := { plain "java/io/Serializable" (some 0) with
  accessFlags := 1537
  interfaces := #[]
  cf := some (fileOf pool10 1 #[] #[] 1537 3 #[] #[])
  fields := #[]
  methods := #[]
  instanceTypes := #[]
  staticTypes := #[]
  resolved := Array.replicate 7 none
  statics := none }

def pool11 : Array CpInfo := pool [(1, .methodref 2 3), (0, .class_ 4), (0, .nameAndType 5 6), (0, u "java/util/AbstractList"), (0, u "<init>"), (0, u "()V"), (0, .class_ 8), (0, u "java/lang/Object"), (0, .fieldref 10 11), (0, .class_ 12), (0, .nameAndType 13 14), (0, u "java/util/ArrayList"), (0, u "elementData"), (0, u "[Ljava/lang/Object;"), (2, u "EMPTY_ELEMENTDATA"), (21, .fieldref 10 40), (0, .nameAndType 41 14), (0, u "DEFAULTCAPACITY_EMPTY_ELEMENTDATA"), (5, u "()[Ljava/lang/Object;"), (0, .fieldref 10 49), (0, .nameAndType 50 51), (0, u "size"), (0, u "I"), (11, .fieldref 10 64), (0, .nameAndType 65 51), (0, u "modCount"), (3, .methodref 10 70), (0, .nameAndType 71 72), (0, u "grow"), (0, u "(I)[Ljava/lang/Object;"), (6, .methodref 80 81), (0, .class_ 82), (0, .nameAndType 83 84), (0, u "java/lang/Math"), (0, u "max"), (0, u "(II)I"), (11, u "(Ljava/lang/Object;)Z"), (32, .methodref 10 130), (0, .nameAndType 71 47), (0, .methodref 10 132), (0, .nameAndType 133 134), (0, u "add"), (0, u "(Ljava/lang/Object;[Ljava/lang/Object;I)V"), (13, .class_ 149), (0, u "java/util/List"), (36, u "()I"), (75, .class_ 263), (0, u "java/util/ArrayList$ListItr"), (3, .class_ 268), (0, u "java/util/ArrayList$Itr"), (7, .class_ 277), (0, u "java/util/ArrayList$SubList"), (12, .class_ 291), (0, u "java/util/ArrayList$ArrayListSpliterator"), (37, .class_ 330), (0, u "java/util/RandomAccess"), (0, .class_ 332), (0, u "java/lang/Cloneable"), (0, .class_ 334), (0, u "java/io/Serializable"), (0, u "serialVersionUID"), (0, u "J"), (3, u "DEFAULT_CAPACITY"), (159, .class_ 501), (0, u "java/util/ArrayList$SubList$2"), (0, .class_ 503), (0, u "java/util/ArrayList$SubList$1")] 5

def k11c0 : Code := { maxStack := 2, maxLocals := 1, code := jdk_38_method_2_code, exceptionTable := #[], attributes := #[] }
def k11m0 : Method := { name := "<init>", desc := "()V", sig := { parameters := [], returnType := none }, accessFlags := 1, code := some k11c0 }
def k11c1 : Code := { maxStack := 4, maxLocals := 4, code := jdk_38_method_6_code, exceptionTable := #[], attributes := #[] }
def k11m1 : Method := { name := "grow", desc := "(I)[Ljava/lang/Object;", sig := { parameters := [.int], returnType := some (.array (.object "java/lang/Object")) }, accessFlags := 2, code := some k11c1 }
def k11c2 : Code := { maxStack := 3, maxLocals := 1, code := jdk_38_method_7_code, exceptionTable := #[], attributes := #[] }
def k11m2 : Method := { name := "grow", desc := "()[Ljava/lang/Object;", sig := { parameters := [], returnType := some (.array (.object "java/lang/Object")) }, accessFlags := 2, code := some k11c2 }
def k11c3 : Code := { maxStack := 1, maxLocals := 1, code := jdk_38_method_8_code, exceptionTable := #[], attributes := #[] }
def k11m3 : Method := { name := "size", desc := "()I", sig := { parameters := [], returnType := some .int }, accessFlags := 1, code := some k11c3 }
def k11c4 : Code := { maxStack := 3, maxLocals := 4, code := jdk_38_method_24_code, exceptionTable := #[], attributes := #[] }
def k11m4 : Method := { name := "add", desc := "(Ljava/lang/Object;[Ljava/lang/Object;I)V", sig := { parameters := [(.object "java/lang/Object"), (.array (.object "java/lang/Object")), .int], returnType := none }, accessFlags := 2, code := some k11c4 }
def k11c5 : Code := { maxStack := 4, maxLocals := 2, code := jdk_38_method_25_code, exceptionTable := #[], attributes := #[] }
def k11m5 : Method := { name := "add", desc := "(Ljava/lang/Object;)Z", sig := { parameters := [(.object "java/lang/Object")], returnType := some .boolean }, accessFlags := 1, code := some k11c5 }
/-- java/util/ArrayList -/
def k11 : Class := { plain "java/util/ArrayList" (some 7) with
  accessFlags := 33
  interfaces := #[6, 8, 9, 10]
  cf := some (fileOf pool11 10 #[.nestMembers #[290, 276, 500, 502, 262, 267]] #[{ accessFlags := 1, nameIndex := 5, descriptorIndex := 6, attributes := #[] }, { accessFlags := 2, nameIndex := 71, descriptorIndex := 72, attributes := #[] }, { accessFlags := 2, nameIndex := 71, descriptorIndex := 47, attributes := #[] }, { accessFlags := 1, nameIndex := 50, descriptorIndex := 186, attributes := #[] }, { accessFlags := 2, nameIndex := 133, descriptorIndex := 134, attributes := #[] }, { accessFlags := 1, nameIndex := 133, descriptorIndex := 96, attributes := #[] }] 33 2 #[148, 329, 331, 333] #[{ accessFlags := 26, nameIndex := 335, descriptorIndex := 336, attributes := #[] }, { accessFlags := 26, nameIndex := 340, descriptorIndex := 51, attributes := #[] }, { accessFlags := 26, nameIndex := 17, descriptorIndex := 14, attributes := #[] }, { accessFlags := 26, nameIndex := 41, descriptorIndex := 14, attributes := #[] }, { accessFlags := 128, nameIndex := 13, descriptorIndex := 14, attributes := #[] }, { accessFlags := 2, nameIndex := 50, descriptorIndex := 51, attributes := #[] }])
  fields := #[{ name := "serialVersionUID", type := .long, accessFlags := 26, slot := 0, constantValue := 0 }, { name := "DEFAULT_CAPACITY", type := .int, accessFlags := 26, slot := 1, constantValue := 0 }, { name := "EMPTY_ELEMENTDATA", type := (.array (.object "java/lang/Object")), accessFlags := 26, slot := 2, constantValue := 0 }, { name := "DEFAULTCAPACITY_EMPTY_ELEMENTDATA", type := (.array (.object "java/lang/Object")), accessFlags := 26, slot := 3, constantValue := 0 }, { name := "elementData", type := (.array (.object "java/lang/Object")), accessFlags := 128, slot := 1, constantValue := 0 }, { name := "size", type := .int, accessFlags := 2, slot := 2, constantValue := 0 }]
  methods := #[k11m0, k11m1, k11m2, k11m3, k11m4, k11m5]
  instanceTypes := #[.int, (.array (.object "java/lang/Object")), .int]
  staticTypes := #[.long, .int, (.array (.object "java/lang/Object")), (.array (.object "java/lang/Object"))]
  resolved := Array.replicate 509 none
  statics := some 0 }

def pool12 : Array CpInfo := pool [(1, .class_ 2), (0, u "java/lang/Math"), (1, .class_ 6), (1, u "java/lang/Object"), (0, u "<init>"), (0, u "()V"), (89, .class_ 100), (1, u "java/lang/Math$RandomNumberGeneratorHolder"), (71, u "negativeZeroFloatBits"), (0, u "J"), (2, u "negativeZeroDoubleBits"), (21, u "max"), (2, u "min"), (43, u "$assertionsDisabled"), (0, u "Z"), (88, u "(II)I"), (2, u "twoToTheDoubleScaleDown"), (0, u "D"), (4, u "twoToTheDoubleScaleUp"), (9, u "E"), (3, u "PI"), (2, u "TAU"), (2, u "DEGREES_TO_RADIANS"), (0, u "RADIANS_TO_DEGREES")] 94

def k12m0 : Method := { name := "<init>", desc := "()V", sig := { parameters := [], returnType := none }, accessFlags := 2, code := none }
def k12c1 : Code := { maxStack := 2, maxLocals := 2, code := jdk_29_method_65_code, exceptionTable := #[], attributes := #[] }
def k12m1 : Method := { name := "max", desc := "(II)I", sig := { parameters := [.int, .int], returnType := some .int }, accessFlags := 9, code := some k12c1 }
def k12c2 : Code := { maxStack := 2, maxLocals := 2, code := jdk_29_method_69_code, exceptionTable := #[], attributes := #[] }
def k12m2 : Method := { name := "min", desc := "(II)I", sig := { parameters := [.int, .int], returnType := some .int }, accessFlags := 9, code := some k12c2 }
/-- java/lang/Math -/
def k12 : Class := { plain "java/lang/Math" (some 0) with
  accessFlags := 49
  interfaces := #[]
  cf := some (fileOf pool12 1 #[.nestMembers #[98]] #[{ accessFlags := 2, nameIndex := 7, descriptorIndex := 8, attributes := #[] }, { accessFlags := 9, nameIndex := 198, descriptorIndex := 335, attributes := #[] }, { accessFlags := 9, nameIndex := 201, descriptorIndex := 335, attributes := #[] }] 49 4 #[] #[{ accessFlags := 25, nameIndex := 354, descriptorIndex := 339, attributes := #[] }, { accessFlags := 25, nameIndex := 358, descriptorIndex := 339, attributes := #[] }, { accessFlags := 25, nameIndex := 361, descriptorIndex := 339, attributes := #[] }, { accessFlags := 26, nameIndex := 364, descriptorIndex := 339, attributes := #[] }, { accessFlags := 26, nameIndex := 365, descriptorIndex := 339, attributes := #[] }, { accessFlags := 26, nameIndex := 172, descriptorIndex := 173, attributes := #[] }, { accessFlags := 26, nameIndex := 176, descriptorIndex := 173, attributes := #[] }, { accessFlags := 8, nameIndex := 344, descriptorIndex := 339, attributes := #[] }, { accessFlags := 8, nameIndex := 338, descriptorIndex := 339, attributes := #[] }, { accessFlags := 4120, nameIndex := 245, descriptorIndex := 246, attributes := #[] }])
  fields := #[{ name := "E", type := .double, accessFlags := 25, slot := 0, constantValue := 0 }, { name := "PI", type := .double, accessFlags := 25, slot := 1, constantValue := 0 }, { name := "TAU", type := .double, accessFlags := 25, slot := 2, constantValue := 0 }, { name := "DEGREES_TO_RADIANS", type := .double, accessFlags := 26, slot := 3, constantValue := 0 }, { name := "RADIANS_TO_DEGREES", type := .double, accessFlags := 26, slot := 4, constantValue := 0 }, { name := "negativeZeroFloatBits", type := .long, accessFlags := 26, slot := 5, constantValue := 0 }, { name := "negativeZeroDoubleBits", type := .long, accessFlags := 26, slot := 6, constantValue := 0 }, { name := "twoToTheDoubleScaleUp", type := .double, accessFlags := 8, slot := 7, constantValue := 0 }, { name := "twoToTheDoubleScaleDown", type := .double, accessFlags := 8, slot := 8, constantValue := 0 }, { name := "$assertionsDisabled", type := .boolean, accessFlags := 4120, slot := 9, constantValue := 0 }]
  methods := #[k12m0, k12m1, k12m2]
  instanceTypes := #[]
  staticTypes := #[.double, .double, .double, .double, .double, .long, .long, .double, .double, .boolean]
  resolved := Array.replicate 460 none
  statics := none }

def pool13 : Array CpInfo := pool [(1, .methodref 2 3), (0, .class_ 4), (0, .nameAndType 5 6), (0, u "java/lang/Object"), (0, u "<init>"), (0, u "()V"), (0, .fieldref 8 9), (0, .class_ 10), (0, .nameAndType 11 12), (0, u "com/example/clearbrace/clearbrace/gser/ComponentOrder"), (0, u "_components"), (0, u "Ljava/util/List;"), (0, .fieldref 8 14), (0, .nameAndType 15 16), (0, u "_ordered"), (0, u "Z"), (0, .interfaceMethodref 18 19), (0, .class_ 20), (0, .nameAndType 21 22), (0, u "java/util/List"), (0, u "size"), (0, u "()I"), (0, .fieldref 8 24), (0, .nameAndType 25 26), (0, u "_given"), (0, u "[Z"), (0, .fieldref 8 28), (0, .nameAndType 29 30), (0, u "_next"), (0, u "I"), (16, .fieldref 8 48), (0, .nameAndType 49 30), (0, u "_count"), (3, u "()Z"), (5, u "mayComeNext"), (0, u "(I)Z"), (19, u "(Ljava/util/List;Z)V"), (6, u "isGiven"), (0, u "give"), (0, u "(I)V"), (3, u "anyLeft")] 23

def k13c0 : Code := { maxStack := 2, maxLocals := 3, code := prog_21_method_1_code, exceptionTable := #[], attributes := #[] }
def k13m0 : Method := { name := "<init>", desc := "(Ljava/util/List;Z)V", sig := { parameters := [(.object "java/util/List"), .boolean], returnType := none }, accessFlags := 0, code := some k13c0 }
def k13c1 : Code := { maxStack := 2, maxLocals := 2, code := prog_21_method_3_code, exceptionTable := #[], attributes := #[] }
def k13m1 : Method := { name := "isGiven", desc := "(I)Z", sig := { parameters := [.int], returnType := some .boolean }, accessFlags := 0, code := some k13c1 }
def k13c2 : Code := { maxStack := 3, maxLocals := 2, code := prog_21_method_4_code, exceptionTable := #[], attributes := #[] }
def k13m2 : Method := { name := "give", desc := "(I)V", sig := { parameters := [.int], returnType := none }, accessFlags := 0, code := some k13c2 }
def k13c3 : Code := { maxStack := 2, maxLocals := 3, code := prog_21_method_5_code, exceptionTable := #[], attributes := #[] }
def k13m3 : Method := { name := "mayComeNext", desc := "(I)Z", sig := { parameters := [.int], returnType := some .boolean }, accessFlags := 0, code := some k13c3 }
def k13c4 : Code := { maxStack := 2, maxLocals := 1, code := prog_21_method_7_code, exceptionTable := #[], attributes := #[] }
def k13m4 : Method := { name := "anyLeft", desc := "()Z", sig := { parameters := [], returnType := some .boolean }, accessFlags := 0, code := some k13c4 }
/-- com/example/clearbrace/clearbrace/gser/ComponentOrder -/
def k13 : Class := { plain "com/example/clearbrace/clearbrace/gser/ComponentOrder" (some 0) with
  accessFlags := 48
  interfaces := #[]
  cf := some (fileOf pool13 8 #[] #[{ accessFlags := 0, nameIndex := 5, descriptorIndex := 80, attributes := #[] }, { accessFlags := 0, nameIndex := 87, descriptorIndex := 60, attributes := #[] }, { accessFlags := 0, nameIndex := 88, descriptorIndex := 89, attributes := #[] }, { accessFlags := 0, nameIndex := 59, descriptorIndex := 60, attributes := #[] }, { accessFlags := 0, nameIndex := 93, descriptorIndex := 53, attributes := #[] }] 48 2 #[] #[{ accessFlags := 18, nameIndex := 11, descriptorIndex := 12, attributes := #[] }, { accessFlags := 18, nameIndex := 15, descriptorIndex := 16, attributes := #[] }, { accessFlags := 18, nameIndex := 25, descriptorIndex := 26, attributes := #[] }, { accessFlags := 2, nameIndex := 49, descriptorIndex := 30, attributes := #[] }, { accessFlags := 2, nameIndex := 29, descriptorIndex := 30, attributes := #[] }])
  fields := #[{ name := "_components", type := (.object "java/util/List"), accessFlags := 18, slot := 0, constantValue := 0 }, { name := "_ordered", type := .boolean, accessFlags := 18, slot := 1, constantValue := 0 }, { name := "_given", type := (.array .boolean), accessFlags := 18, slot := 2, constantValue := 0 }, { name := "_count", type := .int, accessFlags := 2, slot := 3, constantValue := 0 }, { name := "_next", type := .int, accessFlags := 2, slot := 4, constantValue := 0 }]
  methods := #[k13m0, k13m1, k13m2, k13m3, k13m4]
  instanceTypes := #[(.object "java/util/List"), .boolean, (.array .boolean), .int, .int]
  staticTypes := #[]
  resolved := Array.replicate 117 none
  statics := none }

/-- the primitive boolean -/
def k14 : Class := { plain "boolean" none with kind := .primitive 'Z', accessFlags := 0x411 }
/-- [Z -/
def k15 : Class := { plain "[Z" (some 0) with kind := .array 14 .boolean, interfaces := #[9, 10], accessFlags := 1041 }

/-- the primitive byte -/
def k16 : Class := { plain "byte" none with kind := .primitive 'B', accessFlags := 0x411 }
/-- [B -/
def k17 : Class := { plain "[B" (some 0) with kind := .array 16 .byte, interfaces := #[9, 10], accessFlags := 1041 }

/-- the primitive int -/
def k18 : Class := { plain "int" none with kind := .primitive 'I', accessFlags := 0x411 }
/-- [I -/
def k19 : Class := { plain "[I" (some 0) with kind := .array 18 .int, interfaces := #[9, 10], accessFlags := 1041 }

/-- [Ljava/lang/Object; -/
def k20 : Class := { plain "[Ljava/lang/Object;" (some 0) with kind := .array 0 (.object "java/lang/Object"), interfaces := #[9, 10], accessFlags := 1041 }

def heap : Heap := #[{ cls := 11, slots := #[.long 0, .int 0, .ref 1, .ref 2], vm := .statics 11 },
  { cls := 20, slots := #[], vm := .none },
  { cls := 20, slots := #[], vm := .none }]
def classes : Array Class := #[k0, k1, k2, k3, k4, k5, k6, k7, k8, k9, k10, k11, k12, k13, k14, k15, k16, k17, k18, k19, k20]
def interned : List (Array UInt16 × Addr) := []
def slotsUsed : Nat := 4
def theMethod : MethodId := ⟨1, 1⟩
def args0 : Array Value := #[.int 5, .int 300, .int 7, .int 700, .int 3]
def aboutOver (below : List Frame) : State where
  vm := { classes := classes, interned := interned.toArray }
  heap := heap
  slotsUsed := slotsUsed
  threads := #[{ frames := .invoking theMethod args0 :: below }]
def below0 : List Frame := [.native { method := ⟨0, 0⟩, args := #[] }]
def about1 : State := aboutOver below0
def p0 : Program := .bare "" "" ""
def e0 : Env := launch0.env 0 0 0
theorem w_frames : about1.frames = Frame.invoking theMethod args0 :: below0 := rfl
set_option maxRecDepth 65536 in
theorem w_args : argsFit about1.vm theMethod args0 = true := by decide +kernel
set_option maxRecDepth 65536 in
theorem w_heap : heapFits about1 = true := by decide +kernel
set_option maxRecDepth 65536 in
theorem w_runnable : about1.curStatus? = some .runnable := by decide +kernel
set_option maxRecDepth 65536 in
theorem w_alone : about1.alone = true := by decide +kernel
set_option maxRecDepth 65536 in
theorem w_named : about1.methodNamed? x = some theMethod := by decide +kernel
set_option maxRecDepth 65536 in
theorem w_hears : about1.hears theMethod below0 = true := by decide +kernel
set_option maxRecDepth 65536 in
theorem w_ripe : about1.ripe theMethod args0 below0 = true := by decide +kernel
theorem w_running : about1.status = .running := rfl
set_option maxRecDepth 65536 in
theorem w_room : about1.hasRoom e0.platform room_1 = true :=
  launch0.hasRoom_least _ room_1 (by decide +kernel) (by decide +kernel) (by decide +kernel) (by decide +kernel) (by decide +kernel) (by decide +kernel)
theorem allAtoms_all (ts : List Jvm.Cond) (a : Array Jvm.Value) (st : Jvm.State) : (allAtoms ts).before a st = ts.all (fun c => c.before a st) := by
  induction ts with
  | nil => rfl
  | cons c t ih =>
    show (Jvm.Cond.and c (allAtoms t)).before a st = _
    rw [Jvm.Cond.before_and, ih, List.all_cons]
def words1 : List Jvm.Cond := Jvm.Cond.code x code maxLocals ret :: tables_1
/-- a 'code' word, met by the world's own term for the bytes: nothing is compared byte by byte -/
theorem code_word {y : MethodName} {bytes : ByteArray} {mx : Nat} {rt : Option FieldType} {a : Array Value} {s : State} {m : MethodId} {meth : Method} {c : Code} (h1 : s.methodNamed? y = some m) (h2 : s.vm.method? m = some meth) (h3 : meth.code = some c) (h4 : c.code = bytes)
    (h5 : (c.maxLocals == mx && c.exceptionTable.isEmpty && decide (c.maxStack ≤ mostOperands) && decide (meth.sig.returnType = rt) && !meth.locks && decide (parseMethodDescriptor y.desc = some meth.sig)) = true) : (Jvm.Cond.code y bytes mx rt).before a s = true := by
  simp only [Bool.and_eq_true, beq_iff_eq, Bool.not_eq_true', decide_eq_true_eq] at h5
  obtain ⟨⟨⟨⟨⟨g1, g2⟩, g3⟩, g4⟩, g5⟩, g6⟩ := h5
  simp [Cond.before, Cond.holds, Cond.value, h1, h2, h3, h4, g1, g2, g3, g4, g5, g6]
def isCode : Jvm.Cond → Bool
  | .code _ _ _ _ => true
  | _ => false
theorem all_split {L : List Jvm.Cond} {P : Jvm.Cond → Bool} (h1 : L.all (fun c => isCode c || P c) = true) (h2 : ∀ c ∈ L.filter isCode, P c = true) : L.all P = true := by
  refine List.all_eq_true.mpr fun c hc => ?_
  have h := List.all_eq_true.mp h1 c hc
  rcases Bool.eq_false_or_eq_true (isCode c) with hi | hi
  · exact h2 c (List.mem_filter.mpr ⟨hc, hi⟩)
  · simpa [hi] using h
set_option maxRecDepth 65536 in
theorem w_c0 : (Jvm.Cond.code x code maxLocals ret).before args0 about1 = true := code_word (m := ⟨1, 1⟩) (meth := k1m1) (c := k1c1) (by decide +kernel) rfl rfl rfl (by decide +kernel)
set_option maxRecDepth 65536 in
theorem w_c1 : (Jvm.Cond.code ({ cls := "java/util/ArrayList", name := "<init>", desc := "()V" } : Jvm.MethodName) jdk_38_method_2_code (1 : Nat) (Option.none : Option Jvm.ClassFile.FieldType)).before args0 about1 = true := code_word (m := ⟨11, 0⟩) (meth := k11m0) (c := k11c0) (by decide +kernel) rfl rfl rfl (by decide +kernel)
set_option maxRecDepth 65536 in
theorem w_c2 : (Jvm.Cond.code ({ cls := "java/util/AbstractList", name := "<init>", desc := "()V" } : Jvm.MethodName) jdk_39_method_1_code (1 : Nat) (Option.none : Option Jvm.ClassFile.FieldType)).before args0 about1 = true := code_word (m := ⟨7, 0⟩) (meth := k7m0) (c := k7c0) (by decide +kernel) rfl rfl rfl (by decide +kernel)
set_option maxRecDepth 65536 in
theorem w_c3 : (Jvm.Cond.code ({ cls := "java/util/AbstractCollection", name := "<init>", desc := "()V" } : Jvm.MethodName) jdk_22_method_1_code (1 : Nat) (Option.none : Option Jvm.ClassFile.FieldType)).before args0 about1 = true := code_word (m := ⟨4, 0⟩) (meth := k4m0) (c := k4c0) (by decide +kernel) rfl rfl rfl (by decide +kernel)
set_option maxRecDepth 65536 in
theorem w_c4 : (Jvm.Cond.code ({ cls := "java/lang/Object", name := "<init>", desc := "()V" } : Jvm.MethodName) object_method_1_code (1 : Nat) (Option.none : Option Jvm.ClassFile.FieldType)).before args0 about1 = true := code_word (m := ⟨0, 0⟩) (meth := k0m0) (c := k0c0) (by decide +kernel) rfl rfl rfl (by decide +kernel)
set_option maxRecDepth 65536 in
theorem w_c5 : (Jvm.Cond.code ({ cls := "java/util/ArrayList", name := "add", desc := "(Ljava/lang/Object;)Z" } : Jvm.MethodName) jdk_38_method_25_code (2 : Nat) (Option.some Jvm.ClassFile.FieldType.boolean)).before args0 about1 = true := code_word (m := ⟨11, 5⟩) (meth := k11m5) (c := k11c5) (by decide +kernel) rfl rfl rfl (by decide +kernel)
set_option maxRecDepth 65536 in
theorem w_c6 : (Jvm.Cond.code ({ cls := "java/util/ArrayList", name := "add", desc := "(Ljava/lang/Object;[Ljava/lang/Object;I)V" } : Jvm.MethodName) jdk_38_method_24_code (4 : Nat) (Option.none : Option Jvm.ClassFile.FieldType)).before args0 about1 = true := code_word (m := ⟨11, 4⟩) (meth := k11m4) (c := k11c4) (by decide +kernel) rfl rfl rfl (by decide +kernel)
set_option maxRecDepth 65536 in
theorem w_c7 : (Jvm.Cond.code ({ cls := "java/util/ArrayList", name := "grow", desc := "()[Ljava/lang/Object;" } : Jvm.MethodName) jdk_38_method_7_code (1 : Nat) (Option.some (Jvm.ClassFile.FieldType.array (Jvm.ClassFile.FieldType.object "java/lang/Object")))).before args0 about1 = true := code_word (m := ⟨11, 2⟩) (meth := k11m2) (c := k11c2) (by decide +kernel) rfl rfl rfl (by decide +kernel)
set_option maxRecDepth 65536 in
theorem w_c8 : (Jvm.Cond.code ({ cls := "java/util/ArrayList", name := "grow", desc := "(I)[Ljava/lang/Object;" } : Jvm.MethodName) jdk_38_method_6_code (4 : Nat) (Option.some (Jvm.ClassFile.FieldType.array (Jvm.ClassFile.FieldType.object "java/lang/Object")))).before args0 about1 = true := code_word (m := ⟨11, 1⟩) (meth := k11m1) (c := k11c1) (by decide +kernel) rfl rfl rfl (by decide +kernel)
set_option maxRecDepth 65536 in
theorem w_c9 : (Jvm.Cond.code ({ cls := "java/lang/Math", name := "max", desc := "(II)I" } : Jvm.MethodName) jdk_29_method_65_code (2 : Nat) (Option.some Jvm.ClassFile.FieldType.int)).before args0 about1 = true := code_word (m := ⟨12, 1⟩) (meth := k12m1) (c := k12c1) (by decide +kernel) rfl rfl rfl (by decide +kernel)
set_option maxRecDepth 65536 in
theorem w_c10 : (Jvm.Cond.code ({ cls := "com/example/clearbrace/clearbrace/gser/ComponentOrder", name := "<init>", desc := "(Ljava/util/List;Z)V" } : Jvm.MethodName) prog_21_method_1_code (3 : Nat) (Option.none : Option Jvm.ClassFile.FieldType)).before args0 about1 = true := code_word (m := ⟨13, 0⟩) (meth := k13m0) (c := k13c0) (by decide +kernel) rfl rfl rfl (by decide +kernel)
set_option maxRecDepth 65536 in
theorem w_c11 : (Jvm.Cond.code ({ cls := "java/util/ArrayList", name := "size", desc := "()I" } : Jvm.MethodName) jdk_38_method_8_code (1 : Nat) (Option.some Jvm.ClassFile.FieldType.int)).before args0 about1 = true := code_word (m := ⟨11, 3⟩) (meth := k11m3) (c := k11c3) (by decide +kernel) rfl rfl rfl (by decide +kernel)
set_option maxRecDepth 65536 in
theorem w_c12 : (Jvm.Cond.code ({ cls := "com/example/clearbrace/clearbrace/gser/ComponentOrder", name := "isGiven", desc := "(I)Z" } : Jvm.MethodName) prog_21_method_3_code (2 : Nat) (Option.some Jvm.ClassFile.FieldType.boolean)).before args0 about1 = true := code_word (m := ⟨13, 1⟩) (meth := k13m1) (c := k13c1) (by decide +kernel) rfl rfl rfl (by decide +kernel)
set_option maxRecDepth 65536 in
theorem w_c13 : (Jvm.Cond.code ({ cls := "com/example/clearbrace/clearbrace/gser/ComponentOrder", name := "give", desc := "(I)V" } : Jvm.MethodName) prog_21_method_4_code (2 : Nat) (Option.none : Option Jvm.ClassFile.FieldType)).before args0 about1 = true := code_word (m := ⟨13, 2⟩) (meth := k13m2) (c := k13c2) (by decide +kernel) rfl rfl rfl (by decide +kernel)
set_option maxRecDepth 65536 in
theorem w_c14 : (Jvm.Cond.code ({ cls := "com/example/clearbrace/clearbrace/gser/ComponentOrder", name := "anyLeft", desc := "()Z" } : Jvm.MethodName) prog_21_method_7_code (1 : Nat) (Option.some Jvm.ClassFile.FieldType.boolean)).before args0 about1 = true := code_word (m := ⟨13, 4⟩) (meth := k13m4) (c := k13c4) (by decide +kernel) rfl rfl rfl (by decide +kernel)
set_option maxRecDepth 65536 in
theorem w_c15 : (Jvm.Cond.code ({ cls := "com/example/clearbrace/clearbrace/gser/ComponentOrder", name := "mayComeNext", desc := "(I)Z" } : Jvm.MethodName) prog_21_method_5_code (3 : Nat) (Option.some Jvm.ClassFile.FieldType.boolean)).before args0 about1 = true := code_word (m := ⟨13, 3⟩) (meth := k13m3) (c := k13c3) (by decide +kernel) rfl rfl rfl (by decide +kernel)
set_option maxRecDepth 65536 in
theorem w_c16 : (Jvm.Cond.code ({ cls := "java/lang/Math", name := "min", desc := "(II)I" } : Jvm.MethodName) jdk_29_method_69_code (2 : Nat) (Option.some Jvm.ClassFile.FieldType.int)).before args0 about1 = true := code_word (m := ⟨12, 2⟩) (meth := k12m2) (c := k12c2) (by decide +kernel) rfl rfl rfl (by decide +kernel)
def codes1 : List Jvm.Cond := [Jvm.Cond.code x code maxLocals ret, Jvm.Cond.code ({ cls := "java/util/ArrayList", name := "<init>", desc := "()V" } : Jvm.MethodName) jdk_38_method_2_code (1 : Nat) (Option.none : Option Jvm.ClassFile.FieldType), Jvm.Cond.code ({ cls := "java/util/AbstractList", name := "<init>", desc := "()V" } : Jvm.MethodName) jdk_39_method_1_code (1 : Nat) (Option.none : Option Jvm.ClassFile.FieldType), Jvm.Cond.code ({ cls := "java/util/AbstractCollection", name := "<init>", desc := "()V" } : Jvm.MethodName) jdk_22_method_1_code (1 : Nat) (Option.none : Option Jvm.ClassFile.FieldType), Jvm.Cond.code ({ cls := "java/lang/Object", name := "<init>", desc := "()V" } : Jvm.MethodName) object_method_1_code (1 : Nat) (Option.none : Option Jvm.ClassFile.FieldType), Jvm.Cond.code ({ cls := "java/util/ArrayList", name := "add", desc := "(Ljava/lang/Object;)Z" } : Jvm.MethodName) jdk_38_method_25_code (2 : Nat) (Option.some Jvm.ClassFile.FieldType.boolean), Jvm.Cond.code ({ cls := "java/util/ArrayList", name := "add", desc := "(Ljava/lang/Object;[Ljava/lang/Object;I)V" } : Jvm.MethodName) jdk_38_method_24_code (4 : Nat) (Option.none : Option Jvm.ClassFile.FieldType), Jvm.Cond.code ({ cls := "java/util/ArrayList", name := "grow", desc := "()[Ljava/lang/Object;" } : Jvm.MethodName) jdk_38_method_7_code (1 : Nat) (Option.some (Jvm.ClassFile.FieldType.array (Jvm.ClassFile.FieldType.object "java/lang/Object"))), Jvm.Cond.code ({ cls := "java/util/ArrayList", name := "grow", desc := "(I)[Ljava/lang/Object;" } : Jvm.MethodName) jdk_38_method_6_code (4 : Nat) (Option.some (Jvm.ClassFile.FieldType.array (Jvm.ClassFile.FieldType.object "java/lang/Object"))), Jvm.Cond.code ({ cls := "java/lang/Math", name := "max", desc := "(II)I" } : Jvm.MethodName) jdk_29_method_65_code (2 : Nat) (Option.some Jvm.ClassFile.FieldType.int), Jvm.Cond.code ({ cls := "com/example/clearbrace/clearbrace/gser/ComponentOrder", name := "<init>", desc := "(Ljava/util/List;Z)V" } : Jvm.MethodName) prog_21_method_1_code (3 : Nat) (Option.none : Option Jvm.ClassFile.FieldType), Jvm.Cond.code ({ cls := "java/util/ArrayList", name := "size", desc := "()I" } : Jvm.MethodName) jdk_38_method_8_code (1 : Nat) (Option.some Jvm.ClassFile.FieldType.int), Jvm.Cond.code ({ cls := "com/example/clearbrace/clearbrace/gser/ComponentOrder", name := "isGiven", desc := "(I)Z" } : Jvm.MethodName) prog_21_method_3_code (2 : Nat) (Option.some Jvm.ClassFile.FieldType.boolean), Jvm.Cond.code ({ cls := "com/example/clearbrace/clearbrace/gser/ComponentOrder", name := "give", desc := "(I)V" } : Jvm.MethodName) prog_21_method_4_code (2 : Nat) (Option.none : Option Jvm.ClassFile.FieldType), Jvm.Cond.code ({ cls := "com/example/clearbrace/clearbrace/gser/ComponentOrder", name := "anyLeft", desc := "()Z" } : Jvm.MethodName) prog_21_method_7_code (1 : Nat) (Option.some Jvm.ClassFile.FieldType.boolean), Jvm.Cond.code ({ cls := "com/example/clearbrace/clearbrace/gser/ComponentOrder", name := "mayComeNext", desc := "(I)Z" } : Jvm.MethodName) prog_21_method_5_code (3 : Nat) (Option.some Jvm.ClassFile.FieldType.boolean), Jvm.Cond.code ({ cls := "java/lang/Math", name := "min", desc := "(II)I" } : Jvm.MethodName) jdk_29_method_69_code (2 : Nat) (Option.some Jvm.ClassFile.FieldType.int)]
set_option maxRecDepth 65536 in
theorem codes_eq : words1.filter isCode = codes1 := rfl
theorem w_codes : ∀ c ∈ words1.filter isCode, c.before args0 about1 = true := by
  rw [codes_eq]
  intro c hc
  simp only [codes1, List.mem_cons, List.not_mem_nil, or_false] at hc
  rcases hc with rfl | rfl | rfl | rfl | rfl | rfl | rfl | rfl | rfl | rfl | rfl | rfl | rfl | rfl | rfl | rfl | rfl
  · exact w_c0
  · exact w_c1
  · exact w_c2
  · exact w_c3
  · exact w_c4
  · exact w_c5
  · exact w_c6
  · exact w_c7
  · exact w_c8
  · exact w_c9
  · exact w_c10
  · exact w_c11
  · exact w_c12
  · exact w_c13
  · exact w_c14
  · exact w_c15
  · exact w_c16
set_option maxRecDepth 65536 in
theorem w_t1 : (words1.take 24).all (fun c => isCode c || c.before args0 about1) = true := by decide +kernel
set_option maxRecDepth 65536 in
theorem w_t2 : ((words1.drop 24).take 24).all (fun c => isCode c || c.before args0 about1) = true := by decide +kernel
set_option maxRecDepth 65536 in
theorem w_t3 : (((words1.drop 24).drop 24).take 24).all (fun c => isCode c || c.before args0 about1) = true := by decide +kernel
set_option maxRecDepth 65536 in
theorem w_t4 : ((((words1.drop 24).drop 24).drop 24).take 24).all (fun c => isCode c || c.before args0 about1) = true := by decide +kernel
set_option maxRecDepth 65536 in
theorem w_t5 : ((((words1.drop 24).drop 24).drop 24).drop 24).all (fun c => isCode c || c.before args0 about1) = true := by decide +kernel
theorem w_tables : (allAtoms (Jvm.Cond.code x code maxLocals ret :: tables_1)).before args0 about1 = true := by
  rw [allAtoms_all]
  show words1.all (fun c => c.before args0 about1) = true
  refine all_split ?_ w_codes
  rw [← List.take_append_drop 24 words1, List.all_append, w_t1, ← List.take_append_drop 24 (words1.drop 24), List.all_append, w_t2, ← List.take_append_drop 24 ((words1.drop 24).drop 24), List.all_append, w_t3, ← List.take_append_drop 24 (((words1.drop 24).drop 24).drop 24), List.all_append, w_t4, w_t5]
  rfl
set_option maxRecDepth 65536 in
theorem w_rest : rest_1_c.before args0 about1 = true := by decide +kernel
set_option maxRecDepth 65536 in
theorem w_case : (Jvm.Cond.and given_1 narrow_1).before args0 about1 = true := by decide +kernel
theorem w_applies : (headSpec (Jvm.Cond.code x code maxLocals ret :: tables_1) room_1).applies x e0.platform about1 = true :=
  (Spec.applies_iff w_frames).mpr ⟨w_running, w_runnable, w_alone, w_named, w_hears, w_ripe, w_room, w_tables⟩
theorem atStart : AtStart classFile x code maxLocals ret World_1 tables_1 room_1 Calls_1 rest_1 Pre_1 launch0 p0 e0 about1 theMethod args0 below0 :=
  ⟨lists_1, trivial, launch0.admits_env _ _ _, launch0.least_env, fairChoices_fair.cas, fairChoices_fair.clock, w_frames, w_args, w_heap, w_applies, trivial, w_rest, w_case⟩
end start1
theorem witness_1 : WitnessClaimed_1 := ⟨start1.p0, start1.e0, start1.about1, start1.theMethod, start1.args0, start1.below0, start1.atStart⟩
end Jvm.Pilot.@@N@@
