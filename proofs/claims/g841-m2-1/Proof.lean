import JvmDerived
import JvmDerived.Pilot.@@N@@Statement
import JvmDerived.Pilot.@@N@@Code
set_option linter.unusedVariables false
set_option linter.unusedSimpArgs false
namespace Jvm.Pilot.@@N@@
open Jvm Jvm.ClassFile Sem Op Lib Jvm.Free Jvm.Stand Jvm.LawKit Jvm.RoadKit Bundle Jvm.Pilot.@@N@@.Jvm.D
section Own
variable {p : Program} {l : Launch} {e : Env} {R : Room} {s : State} {m : MethodId} {args : Array Value} {below : List Frame} {meth : Method} {c : Code} {T : State} {locs : List Loc} {cells slots : Nat} {Z : State} {a0 : Array Value} {h : Heap}
/-- the goal of a walk is a predicate that may be carried back over steps -/
def Go (p : Program) (e : Env) (below : List Frame) (G : State → Prop) : Prop := ∀ F F' : State, (∀ t, Steps p.tables e below F' t → Steps p.tables e below F t) → G F' → G F
/-- how a walk ends: it returns v -/
def Rt (p : Program) (l : Launch) (e : Env) (R : Room) (s : State) (m : MethodId) (args : Array Value) (below : List Frame) (meth : Method) (c : Code) (Q : Option Value → Heap → List Loc → Prop) (kc ks : Nat) (G : State → Prop) : Prop :=
  ∀ (T : State) (locs : List Loc) (cells slots : Nat) (v : Option Value) (F : State), Stand p l e R s m args below meth c T locs cells slots → cells ≤ kc → slots ≤ ks → (meth.sig.returnType = none → v = none) → Q v T.heap locs →
    (∀ fs, (∀ (f : JFrame) (acts : List Action), f.method = m → f.locked = none → f.entered = [] → (doReturn e (T.setTop f) acts v).1 = T.setFrames fs) → Steps p.tables e below F (T.setFrames fs)) → G F
def Gl (p : Program) (e : Env) (below : List Frame) (s : State) (Q : Option Value → Heap → List Loc → Prop) (kc ks : Nat) (F : State) : Prop :=
  ∃ s₂ o, Steps p.tables e below F s₂ ∧ s₂.status = .running ∧ Ended s₂ below o ∧ ∃ v L, o = .returned v ∧ Q v s₂.heap L ∧ FrameEnd s o s₂ L kc ks
theorem gl_go {Q : Option Value → Heap → List Loc → Prop} {kc ks : Nat} : Go p e below (Gl p e below s Q kc ks) := fun F F' h g => by
  obtain ⟨s₂, o, h1, h2⟩ := g
  exact ⟨s₂, o, h _ h1, h2⟩
theorem gl_rt {Q : Option Value → Heap → List Loc → Prop} {kc ks : Nat} (hlk : meth.locks = false) : Rt p l e R s m args below meth c Q kc ks (Gl p e below s Q kc ks) := fun T locs cells slots v F X hc hs hv hQ st => by
  obtain ⟨fs, hr, hrun, hended, hW, hsame⟩ := X.leave (v := v) hv hlk
  exact ⟨_, _, st fs hr, hrun, hended, v, locs, rfl, hQ, ⟨_, rfl⟩, hW, hsame.mono hc hs⟩
/-- a method's contract, at given arguments and a given heap -/
def Con (l : Launch) (Z : State) (y : MethodName) (bytes : ByteArray) (maxL : Nat) (ret : Option FieldType) (rm : Room) (as' : Array Value) (h : Heap) (Q : Option Value → Heap → List Loc → Prop) : Prop :=
  ∀ ws, MetFree l y (head1 (Jvm.Cond.code y bytes maxL ret :: ws) rm) (fun a U => a = as' ∧ Z.Warmed39 U.vm ∧ U.heap = h) (fun _ _ _ _ _ => True) (fun _ U o U' => ∃ v L, o = .returned v ∧ Q v U'.heap L ∧ FrameEnd U o U' L rm.cells rm.slots)
theorem own_body {y : MethodName} {bytes : ByteArray} {maxL : Nat} {ret : Option FieldType} {rm : Room} {as' : Array Value} {h0 : Heap} {Q : Option Value → Heap → List Loc → Prop} (hp : plainFor y = true)
    (k : ∀ (p : Program) (e : Env) (s : State) (m : MethodId) (below : List Frame) (meth : Method) (c : Code) (s₁ : State), p.tables.exec = Jvm.exec → c.code = bytes → c.maxLocals = maxL → s.vm.findClass y.cls = some m.cls → meth.name = y.name → meth.sig.returnType = ret → Z.Warmed39 s.vm → s₁.heap = h0 →
      Stand p l e rm s m as' below meth c s₁ [] 0 0 → ∀ G : State → Prop, Go p e below G → Rt p l e rm s m as' below meth c Q rm.cells rm.slots G → G (s₁.setTop (entryFrame m as' maxL))) : Con l Z y bytes maxL ret rm as' h0 Q := fun ws => by
  refine MetFree.of_bodySF hp hisR ?_
  intro p e s m args below meth c s₁ Bd hml0 hP hK
  obtain ⟨rfl, hZ, hh⟩ := hP
  exact k p e s m below meth c s₁ Bd.exec Bd.bytes hml0 (findClass_of_methodNamed Bd.named) (name_of_methodNamed Bd.named Bd.method).1 Bd.returns hZ (by rw [← hh, Bd.state]; rfl) (Stand.of_body Bd) (Gl p e below s Q rm.cells rm.slots) gl_go (gl_rt Bd.notSynchronized)
theorem own_pop2L {tb : Tables} [Ours tb] {target : State} {g : JFrame} (h : At T m c below) (hx : tb.exec = Jvm.exec) (hg : g.method = m) {x : Int64} {rest : List Value} (hd : decode c.code g.pc = .ok (.pop2, 1)) (hs : g.stack = .long x :: rest)
    (hr : Steps tb e below (T.setTop { g with pc := g.pc + 1, stack := rest }) target) : Steps tb e below (T.setTop g) target := by
  subst hg
  jvm_step h [h.top, hx, hd, hs, pop2.wp_sem, Value.category]
  exact hr
theorem own_hide {k : Nat} (X : Stand p l e R s m args below meth c T locs cells slots) (N : Fr k locs) : ∃ L, Stand p l e R s m args below meth c T L cells slots ∧ Fr k L := ⟨_, X, N⟩
section Rets
variable {Q : Option Value → Heap → List Loc → Prop} {kc ks : Nat} {G : State → Prop}
theorem own_retI (rt : Rt p l e R s m args below meth c Q kc ks G) (X : Stand p l e R s m args below meth c T locs cells slots) (hx : p.tables.exec = Jvm.exec) {pc : Nat} {Ls : Array Slot} {rest : List Value} (hret : meth.sig.returnType = some .int) {z : Int32} (hd : decode c.code pc = .ok (.ireturn, 1)) (hc : cells ≤ kc) (hs : slots ≤ ks) (hQ : Q (some (.int z)) T.heap locs) : G (T.setTop (mkF m pc Ls (.int z :: rest))) :=
  rt T locs cells slots _ _ X hc hs (fun h => by rw [hret] at h; cases h) hQ fun fs hr => retOut X hx hret rfl (Or.inl ⟨rfl, Or.inl rfl, _, rfl⟩) hd hr
theorem own_retZ (rt : Rt p l e R s m args below meth c Q kc ks G) (X : Stand p l e R s m args below meth c T locs cells slots) (hx : p.tables.exec = Jvm.exec) {pc : Nat} {Ls : Array Slot} {rest : List Value} {t : FieldType} (hret : meth.sig.returnType = some t) (ht : t = .boolean ∨ t = .byte ∨ t = .char ∨ t = .short) {z : Int32} (hd : decode c.code pc = .ok (.ireturn, 1)) (hc : cells ≤ kc) (hs : slots ≤ ks) (hQ : Q (some (.int (nar t z))) T.heap locs) : G (T.setTop (mkF m pc Ls (.int z :: rest))) :=
  rt T locs cells slots _ _ X hc hs (fun h => by rw [hret] at h; cases h) hQ fun fs hr => retN X hx hret ht hd hr
theorem own_retJ (rt : Rt p l e R s m args below meth c Q kc ks G) (X : Stand p l e R s m args below meth c T locs cells slots) (hx : p.tables.exec = Jvm.exec) {pc : Nat} {Ls : Array Slot} {rest : List Value} (hret : meth.sig.returnType = some .long) {z : Int64} (hd : decode c.code pc = .ok (.lreturn, 1)) (hc : cells ≤ kc) (hs : slots ≤ ks) (hQ : Q (some (.long z)) T.heap locs) : G (T.setTop (mkF m pc Ls (.long z :: rest))) :=
  rt T locs cells slots _ _ X hc hs (fun h => by rw [hret] at h; cases h) hQ fun fs hr => retOut X hx hret rfl (Or.inr (Or.inl ⟨rfl, rfl, _, rfl⟩)) hd hr
theorem own_retA (rt : Rt p l e R s m args below meth c Q kc ks G) (X : Stand p l e R s m args below meth c T locs cells slots) (hx : p.tables.exec = Jvm.exec) {pc : Nat} {Ls : Array Slot} {rest : List Value} {t : FieldType} (hret : meth.sig.returnType = some t) (ht : t.isReference = true) {v : Value} (hv : v.isRef = true) (hd : decode c.code pc = .ok (.areturn, 1)) (hc : cells ≤ kc) (hs : slots ≤ ks) (hQ : Q (some v) T.heap locs) : G (T.setTop (mkF m pc Ls (v :: rest))) :=
  rt T locs cells slots _ _ X hc hs (fun h => by rw [hret] at h; cases h) hQ fun fs hr => retOut X hx hret (by cases t <;> cases v <;> first | rfl | (simp [FieldType.isReference, Value.isRef] at ht hv)) (Or.inr (Or.inr (Or.inr (Or.inr ⟨rfl, ht, hv⟩)))) hd hr
theorem own_retV (rt : Rt p l e R s m args below meth c Q kc ks G) (X : Stand p l e R s m args below meth c T locs cells slots) (hx : p.tables.exec = Jvm.exec) {pc : Nat} {Ls : Array Slot} (hret : meth.sig.returnType = none) (hd : decode c.code pc = .ok (.return_, 1)) (hc : cells ≤ kc) (hs : slots ≤ ks) (hQ : Q none T.heap locs) : G (T.setTop (mkF m pc Ls [])) :=
  rt T locs cells slots _ _ X hc hs (fun _ => rfl) hQ fun fs hr => X.returnOut hx hret hd hr
end Rets
theorem own_selpriv {y z : MethodName} {C : String} (hz : z.cls = y.cls) (hs : (Cond.selects C z z).before args s = true) (hpriv : s.PrivateAt y) (hinst : (Cond.instanceMethod y).before args s = true) (hy : y.cls ≠ "java/lang/invoke/MethodHandle" ∧ y.cls ≠ "java/lang/invoke/VarHandle") : (Cond.selects y.cls y y).before args s = true := by
  obtain ⟨c2, r2, m2, -, -, q3, -, kP, hkP, hkPi⟩ := Cond.selects_spec hs
  have q := findClass_of_methodNamed q3
  rw [hz] at q
  exact selects_self_of_private q hkP hkPi hpriv hinst hy
section Calls
variable {G : State → Prop}
theorem own_static (go : Go p e below G) (X : Stand p l e R s m args below meth c T locs cells slots) (hx : p.tables.exec = Jvm.exec) (hZ : Z.Warmed39 s.vm) (eT : T.heap = h) {own : String} {index : Nat} {y : MethodName} {bytes : ByteArray} {maxL : Nat} {ret : Option FieldType} {rm : Room} {as' : Array Value} {Q : Option Value → Heap → List Loc → Prop} (hown : s.vm.findClass own = some m.cls) (w1 : (Cond.methodLink own index y).before a0 Z = true) (w2 : (Cond.static y).before a0 Z = true) (w3 : (Cond.initialized y.cls).before a0 Z = true) (w4 : (Cond.code y bytes maxL ret).before a0 Z = true)
    (hy : y.cls ≠ "java/lang/invoke/MethodHandle" ∧ y.cls ≠ "java/lang/invoke/VarHandle") (hM : Con l Z y bytes maxL ret rm as' h Q) (W : Nat) (hf : rm.frames + 1 ≤ R.frames) (hl : W + (maxL + 11) + rm.locals ≤ R.locals) (hc : cells + rm.cells ≤ R.cells) (hs : slots + rm.slots ≤ R.slots)
    {g : JFrame} (hg : g.method = m) (hsize : g.locals.size = c.maxLocals) (argsL rest : List Value) (has : argsL.toArray = as') (hlen : ∀ sig, parseMethodDescriptor y.desc = some sig → argsL.length = sig.parameters.length)
    (hstack : g.stack = argsL.reverse ++ rest) (hW : 2 * g.monitorRoom + (rest.map fun v => v.category).sum ≤ W) (hd : decode c.code g.pc = .ok (.invokestatic index, 3))
    (k : ∀ (T' : State) (L' : List Loc) (v : Option Value), Stand p l e R s m args below meth c T' (locs ++ L') (cells + rm.cells) (slots + rm.slots) → Q v T'.heap L' → G (T'.setTop { g with pc := g.pc + 3, stack := v.toList ++ rest })) : G (T.setTop g) := by
  obtain ⟨v, _, ⟨T1, L1, k1, n1⟩, -, X1, ⟨Lc, hQ, l1, y1, z1⟩, st⟩ := Jvm.LawKit.callS X hx hown (mvT hZ w1) (mvT hZ w2) (mvT hZ w3) (mvT hZ w4) hy (backOf (R := R) (W := W) (hM []) hZ w4 w3 hf hl) hg hsize hlen hstack hW hd (fun _ _ => ⟨has, eT, hc, hs⟩)
  dsimp only [Pt.U, Pt.locs, Pt.cells, Pt.slots] at X1 l1 y1 z1 st hQ
  subst l1 y1 z1
  exact go _ _ st (k T1 Lc v X1 hQ)
theorem own_init (go : Go p e below G) (X : Stand p l e R s m args below meth c T locs cells slots) (hx : p.tables.exec = Jvm.exec) (hZ : Z.Warmed39 s.vm) (eT : T.heap = h) {own : String} {index : Nat} {y : MethodName} {bytes : ByteArray} {maxL : Nat} {rm : Room} {as' : Array Value} {Q : Option Value → Heap → List Loc → Prop} (hy1 : y.name = "<init>") (hown : s.vm.findClass own = some m.cls) (w1 : (Cond.methodLink own index y).before a0 Z = true) (w2 : (Cond.instanceMethod y).before a0 Z = true) (w3 : (Cond.initialized y.cls).before a0 Z = true) (w4 : (Cond.code y bytes maxL none).before a0 Z = true)
    (hy : y.cls ≠ "java/lang/invoke/MethodHandle" ∧ y.cls ≠ "java/lang/invoke/VarHandle") (hM : Con l Z y bytes maxL none rm as' h Q) (W : Nat) (hf : rm.frames + 1 ≤ R.frames) (hl : W + (maxL + 11) + rm.locals ≤ R.locals) (hc : cells + rm.cells ≤ R.cells) (hs : slots + rm.slots ≤ R.slots)
    {g : JFrame} (hg : g.method = m) (hsize : g.locals.size = c.maxLocals) (a : Addr) (argsL rest : List Value) (has : (.ref a :: argsL).toArray = as') (hlen : ∀ sig, parseMethodDescriptor y.desc = some sig → argsL.length = sig.parameters.length)
    (hstack : g.stack = argsL.reverse ++ .ref a :: rest) (hW : 2 * g.monitorRoom + (rest.map fun v => v.category).sum ≤ W) (hd : decode c.code g.pc = .ok (.invokespecial index, 3))
    (k : ∀ (T' : State) (L' : List Loc) (v : Option Value), Stand p l e R s m args below meth c T' (locs ++ L') (cells + rm.cells) (slots + rm.slots) → Q v T'.heap L' → G (T'.setTop { g with pc := g.pc + 3, stack := v.toList ++ rest })) : G (T.setTop g) := by
  obtain ⟨v, _, ⟨T1, L1, k1, n1⟩, -, X1, ⟨Lc, hQ, l1, y1, z1⟩, st⟩ := X.specialBack hx hy1 hown (mvT hZ w1) (mvT hZ w2) (mvT hZ w4) hy (backOf (R := R) (W := W) (hM []) hZ w4 w3 hf hl) hg hsize (Steps.refl _) (a := a) hlen hstack hW hd (fun _ _ => ⟨has, eT, hc, hs⟩)
  dsimp only [Pt.U, Pt.locs, Pt.cells, Pt.slots] at X1 l1 y1 z1 st hQ
  subst l1 y1 z1
  exact go _ _ (fun t k => st.trans k) (k T1 Lc v X1 hQ)
theorem own_virtual (go : Go p e below G) (X : Stand p l e R s m args below meth c T locs cells slots) (hx : p.tables.exec = Jvm.exec) (hZ : Z.Warmed39 s.vm) (eT : T.heap = h) {own : String} {index : Nat} {y : MethodName} {bytes : ByteArray} {maxL : Nat} {ret : Option FieldType} {rm : Room} {as' : Array Value} {Q : Option Value → Heap → List Loc → Prop} {C : String} {z : MethodName} (hown : s.vm.findClass own = some m.cls) (w1 : (Cond.methodLink own index y).before a0 Z = true) (w2 : (Cond.declares y).before a0 Z = true) (hnf : NotFace s y) (w3 : (Cond.selects C y z).before a0 Z = true) (w4 : (Cond.instanceMethod z).before a0 Z = true) (w5 : (Cond.initialized z.cls).before a0 Z = true) (w6 : (Cond.code z bytes maxL ret).before a0 Z = true)
    (hy : y.cls ≠ "java/lang/invoke/MethodHandle" ∧ y.cls ≠ "java/lang/invoke/VarHandle") (hM : Con l Z z bytes maxL ret rm as' h Q) (W : Nat) (hf : rm.frames + 1 ≤ R.frames) (hl : W + (maxL + 11) + rm.locals ≤ R.locals) (hc : cells + rm.cells ≤ R.cells) (hs : slots + rm.slots ≤ R.slots)
    {a : Addr} (E : Exa Z h a C) {g : JFrame} (hg : g.method = m) (hsize : g.locals.size = c.maxLocals) (argsL rest : List Value) (has : (.ref a :: argsL).toArray = as') (hlen : ∀ sig, parseMethodDescriptor y.desc = some sig → argsL.length = sig.parameters.length)
    (hstack : g.stack = argsL.reverse ++ .ref a :: rest) (hW : 2 * g.monitorRoom + (rest.map fun v => v.category).sum ≤ W) (hd : decode c.code g.pc = .ok (.invokevirtual index, 3))
    (k : ∀ (T' : State) (L' : List Loc) (v : Option Value), Stand p l e R s m args below meth c T' (locs ++ L') (cells + rm.cells) (slots + rm.slots) → Q v T'.heap L' → G (T'.setTop { g with pc := g.pc + 3, stack := v.toList ++ rest })) : G (T.setTop g) := by
  obtain ⟨cq, kq, qa, qb, qc⟩ := isOf hZ eT E
  obtain ⟨v, _, ⟨T1, L1, k1, n1⟩, -, X1, ⟨Lc, hQ, l1, y1, z1⟩, st⟩ := X.virtualBack hx hown (mvT hZ w1) (mvT hZ w2) hnf (mvT hZ w3) (mvT hZ w4) hy (backOf (R := R) (W := W) (hM []) hZ w6 w5 hf hl) qa qc hg hsize (Steps.refl _) hlen hstack hW hd (fun _ _ => ⟨has, eT, hc, hs⟩)
  dsimp only [Pt.U, Pt.locs, Pt.cells, Pt.slots] at X1 l1 y1 z1 st hQ
  subst l1 y1 z1
  exact go _ _ (fun t k => st.trans k) (k T1 Lc v X1 hQ)
theorem own_private (go : Go p e below G) (X : Stand p l e R s m args below meth c T locs cells slots) (hx : p.tables.exec = Jvm.exec) (hZ : Z.Warmed39 s.vm) (eT : T.heap = h) {own : String} {index : Nat} {y : MethodName} {bytes : ByteArray} {maxL : Nat} {ret : Option FieldType} {rm : Room} {as' : Array Value} {Q : Option Value → Heap → List Loc → Prop} (hown : s.vm.findClass own = some m.cls) (w1 : (Cond.methodLink own index y).before a0 Z = true) (w2 : (Cond.instanceMethod y).before a0 Z = true) {C0 : String} {z : MethodName} (w3 : (Cond.selects C0 z z).before a0 Z = true) (hz : z.cls = y.cls) (w4 : (Cond.privateMethod y).before a0 Z = true) (w5 : (Cond.initialized y.cls).before a0 Z = true) (w6 : (Cond.code y bytes maxL ret).before a0 Z = true)
    (hy : y.cls ≠ "java/lang/invoke/MethodHandle" ∧ y.cls ≠ "java/lang/invoke/VarHandle") (hM : Con l Z y bytes maxL ret rm as' h Q) (W : Nat) (hf : rm.frames + 1 ≤ R.frames) (hl : W + (maxL + 11) + rm.locals ≤ R.locals) (hc : cells + rm.cells ≤ R.cells) (hs : slots + rm.slots ≤ R.slots)
    {a : Addr} {C : String} (E : Exa Z h a C) {g : JFrame} (hg : g.method = m) (hsize : g.locals.size = c.maxLocals) (argsL rest : List Value) (has : (.ref a :: argsL).toArray = as') (hlen : ∀ sig, parseMethodDescriptor y.desc = some sig → argsL.length = sig.parameters.length)
    (hstack : g.stack = argsL.reverse ++ .ref a :: rest) (hW : 2 * g.monitorRoom + (rest.map fun v => v.category).sum ≤ W) (hd : decode c.code g.pc = .ok (.invokevirtual index, 3))
    (k : ∀ (T' : State) (L' : List Loc) (v : Option Value), Stand p l e R s m args below meth c T' (locs ++ L') (cells + rm.cells) (slots + rm.slots) → Q v T'.heap L' → G (T'.setTop { g with pc := g.pc + 3, stack := v.toList ++ rest })) : G (T.setTop g) := by
  obtain ⟨cq, q1, q2⟩ := E.cell
  obtain ⟨v, _, ⟨T1, L1, k1, n1⟩, -, X1, ⟨Lc, hQ, l1, y1, z1⟩, st⟩ := X.privateBack hx hown (mvT hZ w1) (mvT hZ w2) (own_selpriv hz (mvT hZ w3) (Cond.privateMethod_at (mvP hZ w4 (args := #[]))) (mvT hZ w2) hy) (Cond.privateMethod_at (mvP hZ w4 (args := #[]))) (mvT hZ w6) hy (backOf (R := R) (W := W) (hM []) hZ w6 w5 hf hl) hg hsize (Steps.refl _) (a := a) (by rw [eT]; exact q1) q2 hlen hstack hW hd (fun _ _ => ⟨has, eT, hc, hs⟩)
  dsimp only [Pt.U, Pt.locs, Pt.cells, Pt.slots] at X1 l1 y1 z1 st hQ
  subst l1 y1 z1
  exact go _ _ (fun t k => st.trans k) (k T1 Lc v X1 hQ)
end Calls
end Own
section OwnArr
variable {p : Program} {l : Launch} {e : Env} {R : Room} {s : State} {m : MethodId} {args : Array Value} {below : List Frame} {meth : Method} {c : Code} {T : State} {locs : List Loc} {cells slots : Nat} {Z : State} {a0 : Array Value} {h h' : Heap} {a b : Addr} {ty : FieldType} {n sl : Nat} {f : Nat → Value} {v w : Value} {ws : List Addr}
/-- an array: its kind, its length, what lies in it -/
def Ary (Z : State) (h : Heap) (a : Addr) (ty : FieldType) (n : Nat) (f : Nat → Value) : Prop := ∃ c : Cell, Arr Z h a c ty ∧ c.slots.size = n ∧ n < 2147483648 ∧ (∀ i, i < n → c.slots[i]? = some (f i)) ∧ ∀ i, i < n → fits ty (f i) = true
theorem Ary.lt (F : Ary Z h a ty n f) : a < h.size := by obtain ⟨c, A, -⟩ := F; exact A.lt
theorem own_ary_ns (F : Ary Z h a ty n f) : ∃ c : Cell, h[a]? = some c ∧ c.vm.isStatics = false := by obtain ⟨c, A, -⟩ := F; exact ⟨c, A.1, A.plain⟩
theorem Ary.ext (F : Ary Z h a ty n f) (E : Ext h h') : Ary Z h' a ty n f := by obtain ⟨c, A, r⟩ := F; exact ⟨c, A.ext E, r⟩
theorem Ary.other (F : Ary Z h b ty n f) (W : Wr h h' a sl v) (q : b ≠ a) : Ary Z h' b ty n f := by obtain ⟨c, A, r⟩ := F; exact ⟨c, A.other W q, r⟩
theorem Ary.keep (F : Ary Z h a ty n f) (K : Keep h h' ws) (q : a ∉ ws) : Ary Z h' a ty n f := by obtain ⟨c, A, r⟩ := F; exact ⟨c, ⟨K.2.1 a c A.1 q, A.2⟩, r⟩
theorem Ary.cong {g : Nat → Value} (F : Ary Z h a ty n f) (q : ∀ i, i < n → f i = g i) : Ary Z h a ty n g := by
  obtain ⟨c, A, r1, r2, r3, r4⟩ := F
  exact ⟨c, A, r1, r2, fun i hi => by rw [← q i hi]; exact r3 i hi, fun i hi => by rw [← q i hi]; exact r4 i hi⟩
theorem Ary.same (W : Wr h h' a sl v) (F : Ary Z h a ty n f) (hv : fits ty v = true) : Ary Z h' a ty n (fun q => if q = sl then v else f q) := by
  obtain ⟨c, A, r1, r2, r3, r4⟩ := F
  refine ⟨_, A.same W, (sz_set _ _ _).trans r1, r2, fun i hi => ?_, fun i hi => ?_⟩
  · show (c.slots.setIfInBounds sl v)[i]? = _
    by_cases q : i = sl
    · subst q; simp [r1, hi]
    · rw [Array.getElem?_setIfInBounds_ne (fun z => q z.symm), r3 i hi]; simp [q]
  · show fits ty (if i = sl then v else f i) = true
    by_cases q : i = sl
    · simp [q, hv]
    · simp [q, r4 i hi]
theorem Ary.new {cA : ClassId} {z : Int32} (A : Arr Z h a (newA cA ty z) ty) (q : ¬ z < 0) : Ary Z h a ty z.toNatClampNeg (fun _ => defaultValue ty) :=
  ⟨_, A, sz_new _ _ _, (back32 q).2, fun i hi => by simp [newA, hi], fun i _ => by cases ty <;> rfl⟩
theorem Ary.ints (F : Ary Z h a ty n f) (ht : ty = .int ∨ ty = .boolean ∨ ty = .byte ∨ ty = .char ∨ ty = .short) : ∃ gg : Nat → Int32, Ary Z h a ty n (fun i => .int (gg i)) := by
  refine ⟨fun i => match f i with | .int y => y | _ => 0, F.cong fun i hi => ?_⟩
  obtain ⟨c, -, -, -, -, r4⟩ := F
  obtain ⟨y, hy⟩ := fit_I (r4 i hi) ht
  show f i = Value.int (match f i with | .int y => y | _ => 0)
  rw [hy]
theorem ix_of {j : Int32} {i : Nat} (hi : j.toInt = i) : j.toNatClampNeg = i := by simp [Int32.toNatClampNeg, hi]
theorem ix_in {j : Int32} {i k : Nat} (hi : j.toInt = i) (hk : i < k) : ¬ (j < 0 ∨ k ≤ j.toNatClampNeg) := by
  rw [ix_of hi]
  intro q
  rcases q with q | q
  · rw [Int32.lt_iff_toInt_lt, hi] at q
    have : (0 : Int32).toInt = 0 := rfl
    omega
  · omega
section St
variable {G : State → Prop}
theorem own_iastore (go : Go p e below G) (X : Stand p l e R s m args below meth c T locs cells slots) (hx : p.tables.exec = Jvm.exec) (hZ : Z.Warmed39 s.vm) (eT : T.heap = h) {j x : Int32} (i : Nat) (hi : j.toInt = i) (hlt : i < n) {g : JFrame} (hg : g.method = m) {rest : List Value} (F : Ary Z h a .int n f) (hs : g.stack = .int x :: .int j :: .ref a :: rest) (hd : decode c.code g.pc = .ok (.iastore, 1))
    (k : ∀ (T' : State) (h' : Heap), Stand p l e R s m args below meth c T' (locs ++ [⟨a, i⟩]) cells slots → T'.heap = h' → Wr h h' a i (.int x) → Ary Z h' a .int n (fun q => if q = i then .int x else f q) → G (T'.setTop { g with pc := g.pc + 1, stack := rest })) : G (T.setTop g) := by
  obtain ⟨cl, A, r1, r2, r3, r4⟩ := F
  have hj : ¬ (j < 0 ∨ cl.slots.size ≤ j.toNatClampNeg) := by rw [r1]; exact ix_in hi hlt
  obtain ⟨T1, h1, X1, e1, W1, st⟩ := stI X hx hZ eT A hj hg hs hd
  rw [ix_of hi] at X1 W1
  exact go _ _ st (k T1 h1 X1 e1 W1 (Ary.same W1 ⟨cl, A, r1, r2, r3, r4⟩ rfl))
theorem own_bastore (go : Go p e below G) (X : Stand p l e R s m args below meth c T locs cells slots) (hx : p.tables.exec = Jvm.exec) (hZ : Z.Warmed39 s.vm) (eT : T.heap = h) {j x : Int32} (i : Nat) (hi : j.toInt = i) (hlt : i < n) {g : JFrame} (hg : g.method = m) {rest : List Value} (F : Ary Z h a .byte n f) (hs : g.stack = .int x :: .int j :: .ref a :: rest) (hd : decode c.code g.pc = .ok (.bastore, 1))
    (k : ∀ (T' : State) (h' : Heap), Stand p l e R s m args below meth c T' (locs ++ [⟨a, i⟩]) cells slots → T'.heap = h' → Wr h h' a i (.int (nar .byte x)) → Ary Z h' a .byte n (fun q => if q = i then .int (nar .byte x) else f q) → G (T'.setTop { g with pc := g.pc + 1, stack := rest })) : G (T.setTop g) := by
  obtain ⟨cl, A, r1, r2, r3, r4⟩ := F
  have hj : ¬ (j < 0 ∨ cl.slots.size ≤ j.toNatClampNeg) := by rw [r1]; exact ix_in hi hlt
  obtain ⟨T1, h1, X1, e1, W1, st⟩ := stB X hx hZ eT A hj hg hs hd
  rw [ix_of hi] at X1 W1
  exact go _ _ st (k T1 h1 X1 e1 W1 (Ary.same W1 ⟨cl, A, r1, r2, r3, r4⟩ (fits_nar_byte _)))
theorem own_zastore (go : Go p e below G) (X : Stand p l e R s m args below meth c T locs cells slots) (hx : p.tables.exec = Jvm.exec) (hZ : Z.Warmed39 s.vm) (eT : T.heap = h) {j x : Int32} (i : Nat) (hi : j.toInt = i) (hlt : i < n) {g : JFrame} (hg : g.method = m) {rest : List Value} (F : Ary Z h a .boolean n f) (hs : g.stack = .int x :: .int j :: .ref a :: rest) (hd : decode c.code g.pc = .ok (.bastore, 1))
    (k : ∀ (T' : State) (h' : Heap), Stand p l e R s m args below meth c T' (locs ++ [⟨a, i⟩]) cells slots → T'.heap = h' → Wr h h' a i (.int (nar .boolean x)) → Ary Z h' a .boolean n (fun q => if q = i then .int (nar .boolean x) else f q) → G (T'.setTop { g with pc := g.pc + 1, stack := rest })) : G (T.setTop g) := by
  obtain ⟨cl, A, r1, r2, r3, r4⟩ := F
  have hj : ¬ (j < 0 ∨ cl.slots.size ≤ j.toNatClampNeg) := by rw [r1]; exact ix_in hi hlt
  obtain ⟨T1, h1, X1, e1, W1, st⟩ := stZ X hx hZ eT A hj hg hs hd
  rw [ix_of hi] at X1 W1
  exact go _ _ st (k T1 h1 X1 e1 W1 (Ary.same W1 ⟨cl, A, r1, r2, r3, r4⟩ (fits_nar_bool _)))
theorem own_iaload (go : Go p e below G) (X : Stand p l e R s m args below meth c T locs cells slots) (hx : p.tables.exec = Jvm.exec) (hZ : Z.Warmed39 s.vm) (eT : T.heap = h) {j : Int32} (i : Nat) (hi : j.toInt = i) (hlt : i < n) {g : JFrame} (hg : g.method = m) {rest : List Value} (F : Ary Z h a .int n f) (hs : g.stack = .int j :: .ref a :: rest) (hd : decode c.code g.pc = .ok (.iaload, 1)) (k : G (T.setTop { g with pc := g.pc + 1, stack := f i :: rest })) : G (T.setTop g) := by
  obtain ⟨cl, A, r1, r2, r3, r4⟩ := F
  have hj : ¬ (j < 0 ∨ cl.slots.size ≤ j.toNatClampNeg) := by rw [r1]; exact ix_in hi hlt
  exact go _ _ (fun t => X.iaload hx (by rw [eT]; exact A.1) (State.isArrayOf_alike hZ.alike A.2.1) A.2.2 hj (by rw [ix_of hi]; exact r3 i hlt) hg hs hd t) k
theorem own_baload (go : Go p e below G) (X : Stand p l e R s m args below meth c T locs cells slots) (hx : p.tables.exec = Jvm.exec) (hZ : Z.Warmed39 s.vm) (eT : T.heap = h) {j : Int32} (i : Nat) (hi : j.toInt = i) (hlt : i < n) {g : JFrame} (hg : g.method = m) {rest : List Value} (F : Ary Z h a .byte n f) (hs : g.stack = .int j :: .ref a :: rest) (hd : decode c.code g.pc = .ok (.baload, 1)) (k : G (T.setTop { g with pc := g.pc + 1, stack := f i :: rest })) : G (T.setTop g) := by
  obtain ⟨cl, A, r1, r2, r3, r4⟩ := F
  have hj : ¬ (j < 0 ∨ cl.slots.size ≤ j.toNatClampNeg) := by rw [r1]; exact ix_in hi hlt
  exact go _ _ (fun t => X.baloadBytes hx (by rw [eT]; exact A.1) (State.isArrayOf_alike hZ.alike A.2.1) A.2.2 hj (by rw [ix_of hi]; exact r3 i hlt) hg hs hd t) k
theorem own_zaload (go : Go p e below G) (X : Stand p l e R s m args below meth c T locs cells slots) (hx : p.tables.exec = Jvm.exec) (hZ : Z.Warmed39 s.vm) (eT : T.heap = h) {j : Int32} (i : Nat) (hi : j.toInt = i) (hlt : i < n) {g : JFrame} (hg : g.method = m) {rest : List Value} (F : Ary Z h a .boolean n f) (hs : g.stack = .int j :: .ref a :: rest) (hd : decode c.code g.pc = .ok (.baload, 1)) (k : G (T.setTop { g with pc := g.pc + 1, stack := f i :: rest })) : G (T.setTop g) := by
  obtain ⟨cl, A, r1, r2, r3, r4⟩ := F
  have hj : ¬ (j < 0 ∨ cl.slots.size ≤ j.toNatClampNeg) := by rw [r1]; exact ix_in hi hlt
  exact go _ _ (fun t => X.baloadBooleans hx (by rw [eT]; exact A.1) (State.isArrayOf_alike hZ.alike A.2.1) A.2.2 hj (by rw [ix_of hi]; exact r3 i hlt) hg hs hd t) k
theorem own_arrlen (go : Go p e below G) (X : Stand p l e R s m args below meth c T locs cells slots) (hx : p.tables.exec = Jvm.exec) (hZ : Z.Warmed39 s.vm) (eT : T.heap = h) {g : JFrame} (hg : g.method = m) {rest : List Value} (F : Ary Z h a ty n f) (hs : g.stack = .ref a :: rest) (hd : decode c.code g.pc = .ok (.arraylength, 1)) (k : G (T.setTop { g with pc := g.pc + 1, stack := .int n.toInt32 :: rest })) : G (T.setTop g) := by
  obtain ⟨cl, A, r1, r2, r3, r4⟩ := F
  subst r1
  exact go _ _ (fun t => X.arraylength hx (by rw [eT]; exact A.1) (State.isArrayOf_alike hZ.alike A.2.1) hg hs hd t) k
theorem own_newarr (go : Go p e below G) (X : Stand p l e R s m args below meth c T locs cells slots) (hx : p.tables.exec = Jvm.exec) (hZ : Z.Warmed39 s.vm) (eT : T.heap = h) {g : JFrame} (hg : g.method = m) {rest : List Value} {aty : ArrayType} (w : (Cond.arrayClass (newarray.typeOf aty)).before a0 Z = true) {z : Int32} (nn : Nat) (hz : z.toInt = nn) (hd : decode c.code g.pc = .ok (.newarray aty, 2)) (hs : g.stack = .int z :: rest)
    (cap : Nat) (hcap : nn ≤ cap) (hb : cap * 8 ≤ 536870912) (hc : cells + 1 ≤ R.cells) (hl : slots + cap ≤ R.slots)
    (k : ∀ (T' : State) (h' : Heap) (a : Addr), Stand p l e R s m args below meth c T' locs (cells + 1) (slots + cap) → T'.heap = h' → Ext h h' → a = h.size → Ary Z h' a (newarray.typeOf aty) nn (fun _ => defaultValue (newarray.typeOf aty)) → G (T'.setTop { g with pc := g.pc + 2, stack := .ref a :: rest })) : G (T.setTop g) := by
  have q : ¬ z < 0 := by
    rw [Int32.lt_iff_toInt_lt, hz]
    have : (0 : Int32).toInt = 0 := rfl
    omega
  obtain ⟨T1, h1, cA, X1, e1, E1, A1, st⟩ := newP X hx hZ w eT hg hd hs q (cap := cap) (by rw [ix_of hz]; exact hcap) hb hc hl
  have F := Ary.new A1 q
  rw [ix_of hz] at F
  exact go _ _ st (k T1 h1 _ X1 e1 E1 rfl F)
end St
end OwnArr
section OwnSta
variable {args : Array Value} {s Z : State} {C n d K : String} {a b : Addr} {h h' : Heap} {v w : Value} {t : Term} {ws : List Addr}
theorem own_sta (hx : (Jvm.Cond.exactly (Term.static C n d) K).value args s none s [] = some true) (w1 : (Jvm.Cond.initialized C).before args s = true) (w2 : (Jvm.Cond.laysStatic C n d).before args s = true) :
    ∃ a, Sta s s.heap C n d (.ref a) ∧ Exa s s.heap a K ∧ (Term.static C n d).eval args s none [] s = some (.ref a) := by
  obtain ⟨a, ev⟩ := exa_v hx
  exact ⟨a, Sta.start ev (Or.inr ⟨w1, w2⟩), Exa.start ev hx, ev⟩
theorem own_fieldeq {k : Int32} (ev : t.eval args s none [] s = some (.ref a)) (hq : (Jvm.Cond.eq (.field t C n d) (.int k)).value args s none s [] = some true) : Fld s s.heap a C n d (.int k) := by
  obtain ⟨x, y, ex, ey, k1, k2⟩ := cmp_v (Or.inl hq)
  have ey' := Option.some.inj ((Term.int_eval k).symm.trans ey)
  subst ey'
  obtain ⟨z, rfl⟩ := k2
  have := gotT (Cond.eq_ints ex ey) hq
  subst this
  rw [fld_at ev] at ex
  exact Fld.start ex
theorem own_sta_keep (F : Sta Z h C n d v) (K : Keep h h' ws) (q : ∀ w ∈ ws, ∃ c : Cell, h[w]? = some c ∧ c.vm.isStatics = false) : Sta Z h' C n d v := by
  obtain ⟨cf, i, k, f, st, cell, h1, h2, h3, h4, h5, h6, h7⟩ := F
  refine ⟨cf, i, k, f, st, cell, h1, h2, h3, h4, K.2.1 st cell h5 (fun hm => ?_), h6, h7⟩
  obtain ⟨c, e1, e2⟩ := q st hm
  cases h5.symm.trans e1
  rw [h6] at e2
  cases e2
theorem own_exa_ns (E : Exa Z h a C) : ∃ c : Cell, h[a]? = some c ∧ c.vm.isStatics = false := by
  obtain ⟨cell, k, h1, -, -, h4, -⟩ := E
  exact ⟨cell, h1, h4⟩
end OwnSta

def CR (Z : State) (h : Heap) (a b il : Addr) (pos : Int32) : Prop := Exa Z h a "com/example/brevidns/brevidns/CborReader" ∧ Fld Z h a "com/example/brevidns/brevidns/CborReader" "input" "[B" (.ref b) ∧ Fld Z h a "com/example/brevidns/brevidns/CborReader" "position" "I" (.int pos) ∧ Fld Z h a "com/example/brevidns/brevidns/CborReader" "itemsLeft" "[I" (.ref il) ∧ Fld Z h a "com/example/brevidns/brevidns/CborReader" "depth" "I" (.int 0)
def Head (g : Nat → Int32) (p w : Nat) : Prop := (w = 1 ∧ 0 ≤ (g p).toInt ∧ (g p).toInt < 24) ∨ (w = 2 ∧ g p = 24)
def upd (g : Nat → Int32) (p : Nat) (y : Int32) (i : Nat) : Int32 := if i = p then y else g i
theorem Head.upd {g : Nat → Int32} {p w q : Nat} {y : Int32} (H : Head g p w) (h : p ≠ q) : Head (upd g q y) p w := by
  unfold Head at *; simp only [show Pilot.@@N@@.upd g q y p = g p from by unfold Pilot.@@N@@.upd; simp [h]]; exact H
theorem own_upd {g : Nat → Int32} {n p : Nat} {x y : Int32} (hxy : x = y) : ∀ i, i < n → (fun q => if q = p then Value.int x else (fun i => Value.int (g i)) q) i = (fun i => Value.int (upd g p y i)) i := by
  intro i _
  subst hxy
  show (if i = p then Value.int x else Value.int (g i)) = Value.int (if i = p then x else g i)
  by_cases h : i = p <;> simp [h]
theorem own_nb (z : Int32) : nar .byte (z.toInt8.toInt32) = z.toInt8.toInt32 := by simp [nar]
theorem own_lt {u v : Int32} {i j : Nat} (h1 : u.toInt = i) (h2 : v.toInt = j) : u < v ↔ i < j := by rw [Int32.lt_iff_toInt_lt, h1, h2]; omega
theorem own_eqlen {u : Int32} {p n : Nat} (h : u.toInt = p) (hn : n < 2147483648) : u = n.toInt32 ↔ p = n := by rw [← Int32.toInt_inj, h, len_toInt hn]; omega
theorem own_add {u v : Int32} {i j : Nat} (h1 : u.toInt = i) (h2 : v.toInt = j) (hi : i + j < 1000) : (u + v).toInt = ((i + j : Nat) : Int) := by
  have q := c_iadd u v
  have r := rng32 (u + v)
  omega
theorem own_rem_ge {u : Int32} {p n : Nat} (k : Int32) {kk : Nat} (hk : k.toInt = kk) (h : u.toInt = p) (hn : n < 1000) (hp : p + kk < n) : k < n.toInt32 - u := by
  have q := c_isub n.toInt32 u
  have r := rng32 (n.toInt32 - u)
  have e := len_toInt (n := n) (by omega)
  rw [Int32.lt_iff_toInt_lt]
  omega
theorem own_tab25 : ∀ i : Fin 25, (Int32.ofNat i.1 &&& 255) = Int32.ofNat i.1 ∧ (Int32.ofNat i.1 &&& 31) = Int32.ofNat i.1 ∧ (((Int32.ofNat i.1).toUInt32 >>> ((5 : Int32) &&& 31).toUInt32).toInt32) = 0 := by decide +kernel
theorem own_x25 {x : Int32} (h0 : 0 ≤ x.toInt) (h1 : x.toInt ≤ 24) : (x &&& 255) = x ∧ (x &&& 31) = x ∧ ((x.toUInt32 >>> ((5 : Int32) &&& 31).toUInt32).toInt32) = 0 := by
  have e : x = Int32.ofNat x.toInt.toNat := by
    rw [← Int32.toInt_inj, Int32.toInt_ofNat_small (by omega)]; omega
  have q := own_tab25 ⟨x.toInt.toNat, by omega⟩
  rw [e]; exact q
theorem Head.rng {g : Nat → Int32} {p w : Nat} (H : Head g p w) : 0 ≤ (g p).toInt ∧ (g p).toInt ≤ 24 := by
  rcases H with ⟨-, a, b⟩ | ⟨-, a⟩
  · exact ⟨a, by omega⟩
  · rw [a]; decide
theorem own_ge0 {x : Int32} (h : 0 ≤ x.toInt) : ¬ (x.toInt64) < (0 : Int64) := by
  rw [Int64.lt_iff_toInt_lt, c_i2l]; show ¬ x.toInt < 0; omega
theorem own_ge1 {y : Int32} {ar : Int64} (h : ar = (((0 : Int64) <<< ((8 : Int32) &&& 0x3f).toInt64) ||| ((y &&& (255 : Int32)).toInt64))) : ¬ ar < (0 : Int64) := by
  have e : ar = (y &&& 255).toInt64 := by
    rw [h]; show ((0 : Int64) ||| _) = _; exact Int64.zero_or
  have q : (y &&& 255).toInt = y.toInt % (2 ^ 8 : Nat) := c_mask y _ 8 (by decide) (by decide)
  rw [e]; exact own_ge0 (by omega)
theorem own_n3 {u nn : Int32} (h : nn = (u &&& 3) % 3) : nn = 0 ∨ nn = 1 ∨ nn = 2 := by
  have e1 : (u &&& 3).toInt = u.toInt % (2 ^ 2 : Nat) := c_mask u _ 2 (by decide) (by decide)
  have e2 := (c_irem (u &&& 3) 3 3 rfl).1 (by omega)
  rw [← h] at e2
  simp only [← Int32.toInt_inj, show (0 : Int32).toInt = 0 from rfl, show (1 : Int32).toInt = 1 from rfl, show (2 : Int32).toInt = 2 from rfl]
  omega
theorem own_t01 {u tt : Int32} (h : tt = ((u.toUInt32 >>> ((4 : Int32) &&& 31).toUInt32).toInt32) &&& 1) : ∃ tn : Nat, tt.toInt = tn ∧ tn ≤ 1 := by
  generalize ((u.toUInt32 >>> ((4 : Int32) &&& 31).toUInt32).toInt32) = z at h
  have e1 : (z &&& 1).toInt = z.toInt % (2 ^ 1 : Nat) := c_mask z _ 1 (by decide) (by decide)
  rw [← h] at e1
  exact ⟨tt.toInt.toNat, by omega, by omega⟩
theorem own_kq {u nn kq : Int32} (h : kq = (if (((u.toUInt32 >>> ((5 : Int32) &&& 31).toUInt32).toInt32) &&& 3) < nn then (((u.toUInt32 >>> ((5 : Int32) &&& 31).toUInt32).toInt32) &&& 3) else nn)) (hn : 0 ≤ nn.toInt) : ∃ kn : Nat, kq.toInt = kn ∧ (kn : Int) ≤ nn.toInt := by
  generalize ((u.toUInt32 >>> ((5 : Int32) &&& 31).toUInt32).toInt32) = z at h
  have e1 : (z &&& 3).toInt = z.toInt % (2 ^ 2 : Nat) := c_mask z _ 2 (by decide) (by decide)
  by_cases c : (z &&& 3) < nn
  · rw [if_pos c] at h; rw [Int32.lt_iff_toInt_lt] at c; exact ⟨kq.toInt.toNat, by rw [h]; omega, by rw [h]; omega⟩
  · rw [if_neg c] at h; exact ⟨kq.toInt.toNat, by rw [h]; omega, by rw [h]; omega⟩
theorem own_lit {u : Int32} {n : Nat} (k : Int32) {kk : Nat} (hk : k.toInt = kk) (h : u.toInt = n) : u = k ↔ n = kk := by rw [← Int32.toInt_inj, h, hk]; omega

theorem own_hd24 (u : Int32) {g : Nat → Int32} {p : Nat} : 0 ≤ (upd g p (((u &&& 2147483647) % 24).toInt8.toInt32) p).toInt ∧ (upd g p (((u &&& 2147483647) % 24).toInt8.toInt32) p).toInt < 24 := by
  have e : upd g p (((u &&& 2147483647) % 24).toInt8.toInt32) p = ((u &&& 2147483647) % 24).toInt8.toInt32 := by unfold upd; rw [if_pos rfl]
  rw [e]
  have e1 : (u &&& 2147483647).toInt = u.toInt % (2 ^ 31 : Nat) := c_mask u _ 31 (by decide) (by decide)
  have e2 := (c_irem (u &&& 2147483647) 24 24 rfl).1 (by omega)
  have e3 := c_i2b ((u &&& 2147483647) % 24)
  omega
theorem d1_0 : decode jdk_29_method_69_code 0 = .ok (.iload_n 0, 1) := by decide +kernel
theorem d1_1 : decode jdk_29_method_69_code 1 = .ok (.iload_n 1, 1) := by decide +kernel
theorem d1_2 : decode jdk_29_method_69_code 2 = .ok (.if_icmp .gt 7, 3) := by decide +kernel
theorem d1_5 : decode jdk_29_method_69_code 5 = .ok (.iload_n 0, 1) := by decide +kernel
theorem d1_6 : decode jdk_29_method_69_code 6 = .ok (.goto 4, 3) := by decide +kernel
theorem d1_9 : decode jdk_29_method_69_code 9 = .ok (.iload_n 1, 1) := by decide +kernel
theorem d1_10 : decode jdk_29_method_69_code 10 = .ok (.ireturn, 1) := by decide +kernel
theorem d2_0 : decode method_4_code 0 = .ok (.iload_n 0, 1) := by decide +kernel
theorem d2_1 : decode method_4_code 1 = .ok (.ifCond .ne 7, 3) := by decide +kernel
theorem d2_4 : decode method_4_code 4 = .ok (.iconst 0, 1) := by decide +kernel
theorem d2_5 : decode method_4_code 5 = .ok (.newarray .byte, 2) := by decide +kernel
theorem d2_7 : decode method_4_code 7 = .ok (.areturn, 1) := by decide +kernel
theorem d2_8 : decode method_4_code 8 = .ok (.iload_n 0, 1) := by decide +kernel
theorem d2_9 : decode method_4_code 9 = .ok (.iconst 1, 1) := by decide +kernel
theorem d2_10 : decode method_4_code 10 = .ok (.if_icmp .ne 7, 3) := by decide +kernel
theorem d2_13 : decode method_4_code 13 = .ok (.iconst 1, 1) := by decide +kernel
theorem d2_14 : decode method_4_code 14 = .ok (.newarray .byte, 2) := by decide +kernel
theorem d2_16 : decode method_4_code 16 = .ok (.areturn, 1) := by decide +kernel
theorem d2_17 : decode method_4_code 17 = .ok (.iload_n 0, 1) := by decide +kernel
theorem d2_18 : decode method_4_code 18 = .ok (.iconst 2, 1) := by decide +kernel
theorem d2_19 : decode method_4_code 19 = .ok (.if_icmp .ne 7, 3) := by decide +kernel
theorem d2_22 : decode method_4_code 22 = .ok (.iconst 2, 1) := by decide +kernel
theorem d2_23 : decode method_4_code 23 = .ok (.newarray .byte, 2) := by decide +kernel
theorem d2_25 : decode method_4_code 25 = .ok (.areturn, 1) := by decide +kernel
theorem d2_26 : decode method_4_code 26 = .ok (.iload_n 0, 1) := by decide +kernel
theorem d2_27 : decode method_4_code 27 = .ok (.iconst 3, 1) := by decide +kernel
theorem d2_28 : decode method_4_code 28 = .ok (.if_icmp .ne 7, 3) := by decide +kernel
theorem d2_31 : decode method_4_code 31 = .ok (.iconst 3, 1) := by decide +kernel
theorem d2_32 : decode method_4_code 32 = .ok (.newarray .byte, 2) := by decide +kernel
theorem d2_34 : decode method_4_code 34 = .ok (.areturn, 1) := by decide +kernel
theorem d2_35 : decode method_4_code 35 = .ok (.iload_n 0, 1) := by decide +kernel
theorem d2_36 : decode method_4_code 36 = .ok (.iconst 4, 1) := by decide +kernel
theorem d2_37 : decode method_4_code 37 = .ok (.if_icmp .ne 7, 3) := by decide +kernel
theorem d2_40 : decode method_4_code 40 = .ok (.iconst 4, 1) := by decide +kernel
theorem d2_41 : decode method_4_code 41 = .ok (.newarray .byte, 2) := by decide +kernel
theorem d2_43 : decode method_4_code 43 = .ok (.areturn, 1) := by decide +kernel
theorem d2_44 : decode method_4_code 44 = .ok (.iconst 5, 1) := by decide +kernel
theorem d2_45 : decode method_4_code 45 = .ok (.newarray .byte, 2) := by decide +kernel
theorem d2_47 : decode method_4_code 47 = .ok (.areturn, 1) := by decide +kernel
theorem d3_0 : decode prog_3_method_1_code 0 = .ok (.aload_n 0, 1) := by decide +kernel
theorem d3_1 : decode prog_3_method_1_code 1 = .ok (.invokespecial 1, 3) := by decide +kernel
theorem d3_4 : decode prog_3_method_1_code 4 = .ok (.aload_n 0, 1) := by decide +kernel
theorem d3_5 : decode prog_3_method_1_code 5 = .ok (.iconst 4, 1) := by decide +kernel
theorem d3_6 : decode prog_3_method_1_code 6 = .ok (.newarray .int, 2) := by decide +kernel
theorem d3_8 : decode prog_3_method_1_code 8 = .ok (.putfield 7, 3) := by decide +kernel
theorem d3_11 : decode prog_3_method_1_code 11 = .ok (.aload_n 0, 1) := by decide +kernel
theorem d3_12 : decode prog_3_method_1_code 12 = .ok (.aload_n 1, 1) := by decide +kernel
theorem d3_13 : decode prog_3_method_1_code 13 = .ok (.putfield 13, 3) := by decide +kernel
theorem d3_16 : decode prog_3_method_1_code 16 = .ok (.return_, 1) := by decide +kernel
theorem d5_0 : decode prog_3_method_2_code 0 = .ok (.aload_n 0, 1) := by decide +kernel
theorem d5_1 : decode prog_3_method_2_code 1 = .ok (.getfield 17, 3) := by decide +kernel
theorem d5_4 : decode prog_3_method_2_code 4 = .ok (.aload_n 0, 1) := by decide +kernel
theorem d5_5 : decode prog_3_method_2_code 5 = .ok (.getfield 13, 3) := by decide +kernel
theorem d5_8 : decode prog_3_method_2_code 8 = .ok (.arraylength, 1) := by decide +kernel
theorem d5_9 : decode prog_3_method_2_code 9 = .ok (.if_icmp .ne 7, 3) := by decide +kernel
theorem d5_12 : decode prog_3_method_2_code 12 = .ok (.iconst 1, 1) := by decide +kernel
theorem d5_13 : decode prog_3_method_2_code 13 = .ok (.goto 4, 3) := by decide +kernel
theorem d5_16 : decode prog_3_method_2_code 16 = .ok (.iconst 0, 1) := by decide +kernel
theorem d5_17 : decode prog_3_method_2_code 17 = .ok (.ireturn, 1) := by decide +kernel
theorem d6_0 : decode method_3_code 0 = .ok (.iload_n 2, 1) := by decide +kernel
theorem d6_1 : decode method_3_code 1 = .ok (.ifCond .eq 19, 3) := by decide +kernel
theorem d6_4 : decode method_3_code 4 = .ok (.aload_n 0, 1) := by decide +kernel
theorem d6_5 : decode method_3_code 5 = .ok (.iload_n 1, 1) := by decide +kernel
theorem d6_6 : decode method_3_code 6 = .ok (.bipush 24, 2) := by decide +kernel
theorem d6_8 : decode method_3_code 8 = .ok (.bastore, 1) := by decide +kernel
theorem d6_9 : decode method_3_code 9 = .ok (.aload_n 0, 1) := by decide +kernel
theorem d6_10 : decode method_3_code 10 = .ok (.iload_n 1, 1) := by decide +kernel
theorem d6_11 : decode method_3_code 11 = .ok (.iconst 1, 1) := by decide +kernel
theorem d6_12 : decode method_3_code 12 = .ok (.iadd, 1) := by decide +kernel
theorem d6_13 : decode method_3_code 13 = .ok (.iload_n 3, 1) := by decide +kernel
theorem d6_14 : decode method_3_code 14 = .ok (.i2b, 1) := by decide +kernel
theorem d6_15 : decode method_3_code 15 = .ok (.bastore, 1) := by decide +kernel
theorem d6_16 : decode method_3_code 16 = .ok (.iload_n 1, 1) := by decide +kernel
theorem d6_17 : decode method_3_code 17 = .ok (.iconst 2, 1) := by decide +kernel
theorem d6_18 : decode method_3_code 18 = .ok (.iadd, 1) := by decide +kernel
theorem d6_19 : decode method_3_code 19 = .ok (.ireturn, 1) := by decide +kernel
theorem d6_20 : decode method_3_code 20 = .ok (.aload_n 0, 1) := by decide +kernel
theorem d6_21 : decode method_3_code 21 = .ok (.iload_n 1, 1) := by decide +kernel
theorem d6_22 : decode method_3_code 22 = .ok (.iload_n 3, 1) := by decide +kernel
theorem d6_23 : decode method_3_code 23 = .ok (.ldc 36, 2) := by decide +kernel
theorem d6_25 : decode method_3_code 25 = .ok (.iand, 1) := by decide +kernel
theorem d6_26 : decode method_3_code 26 = .ok (.bipush 24, 2) := by decide +kernel
theorem d6_28 : decode method_3_code 28 = .ok (.irem, 1) := by decide +kernel
theorem d6_29 : decode method_3_code 29 = .ok (.i2b, 1) := by decide +kernel
theorem d6_30 : decode method_3_code 30 = .ok (.bastore, 1) := by decide +kernel
theorem d6_31 : decode method_3_code 31 = .ok (.iload_n 1, 1) := by decide +kernel
theorem d6_32 : decode method_3_code 32 = .ok (.iconst 1, 1) := by decide +kernel
theorem d6_33 : decode method_3_code 33 = .ok (.iadd, 1) := by decide +kernel
theorem d6_34 : decode method_3_code 34 = .ok (.ireturn, 1) := by decide +kernel
theorem d7_0 : decode prog_3_method_12_code 0 = .ok (.aload_n 0, 1) := by decide +kernel
theorem d7_1 : decode prog_3_method_12_code 1 = .ok (.getfield 17, 3) := by decide +kernel
theorem d7_4 : decode prog_3_method_12_code 4 = .ok (.istore_n 1, 1) := by decide +kernel
theorem d7_5 : decode prog_3_method_12_code 5 = .ok (.aload_n 0, 1) := by decide +kernel
theorem d7_6 : decode prog_3_method_12_code 6 = .ok (.getstatic 49, 3) := by decide +kernel
theorem d7_9 : decode prog_3_method_12_code 9 = .ok (.invokevirtual 94, 3) := by decide +kernel
theorem d7_12 : decode prog_3_method_12_code 12 = .ok (.lstore_n 2, 1) := by decide +kernel
theorem d7_13 : decode prog_3_method_12_code 13 = .ok (.lload_n 2, 1) := by decide +kernel
theorem d7_14 : decode prog_3_method_12_code 14 = .ok (.lconst 0, 1) := by decide +kernel
theorem d7_15 : decode prog_3_method_12_code 15 = .ok (.lcmp, 1) := by decide +kernel
theorem d7_16 : decode prog_3_method_12_code 16 = .ok (.ifCond .ge 21, 3) := by decide +kernel
theorem d7_37 : decode prog_3_method_12_code 37 = .ok (.lload_n 2, 1) := by decide +kernel
theorem d7_38 : decode prog_3_method_12_code 38 = .ok (.lreturn, 1) := by decide +kernel
theorem d8_0 : decode prog_3_method_20_code 0 = .ok (.aload_n 0, 1) := by decide +kernel
theorem d8_1 : decode prog_3_method_20_code 1 = .ok (.invokevirtual 147, 3) := by decide +kernel
theorem d8_4 : decode prog_3_method_20_code 4 = .ok (.astore_n 2, 1) := by decide +kernel
theorem d8_5 : decode prog_3_method_20_code 5 = .ok (.aload_n 2, 1) := by decide +kernel
theorem d8_6 : decode prog_3_method_20_code 6 = .ok (.aload_n 1, 1) := by decide +kernel
theorem d8_7 : decode prog_3_method_20_code 7 = .ok (.if_acmp .eq 28, 3) := by decide +kernel
theorem d8_35 : decode prog_3_method_20_code 35 = .ok (.aload_n 0, 1) := by decide +kernel
theorem d8_36 : decode prog_3_method_20_code 36 = .ok (.getfield 13, 3) := by decide +kernel
theorem d8_39 : decode prog_3_method_20_code 39 = .ok (.aload_n 0, 1) := by decide +kernel
theorem d8_40 : decode prog_3_method_20_code 40 = .ok (.getfield 17, 3) := by decide +kernel
theorem d8_43 : decode prog_3_method_20_code 43 = .ok (.baload, 1) := by decide +kernel
theorem d8_44 : decode prog_3_method_20_code 44 = .ok (.bipush 31, 2) := by decide +kernel
theorem d8_46 : decode prog_3_method_20_code 46 = .ok (.iand, 1) := by decide +kernel
theorem d8_47 : decode prog_3_method_20_code 47 = .ok (.istore_n 3, 1) := by decide +kernel
theorem d8_48 : decode prog_3_method_20_code 48 = .ok (.iload_n 3, 1) := by decide +kernel
theorem d8_49 : decode prog_3_method_20_code 49 = .ok (.bipush 23, 2) := by decide +kernel
theorem d8_51 : decode prog_3_method_20_code 51 = .ok (.if_icmp .gt 9, 3) := by decide +kernel
theorem d8_54 : decode prog_3_method_20_code 54 = .ok (.iconst 0, 1) := by decide +kernel
theorem d8_55 : decode prog_3_method_20_code 55 = .ok (.istore 4, 2) := by decide +kernel
theorem d8_57 : decode prog_3_method_20_code 57 = .ok (.goto 11, 3) := by decide +kernel
theorem d8_60 : decode prog_3_method_20_code 60 = .ok (.iconst 1, 1) := by decide +kernel
theorem d8_61 : decode prog_3_method_20_code 61 = .ok (.iload_n 3, 1) := by decide +kernel
theorem d8_62 : decode prog_3_method_20_code 62 = .ok (.bipush 24, 2) := by decide +kernel
theorem d8_64 : decode prog_3_method_20_code 64 = .ok (.isub, 1) := by decide +kernel
theorem d8_65 : decode prog_3_method_20_code 65 = .ok (.ishl, 1) := by decide +kernel
theorem d8_66 : decode prog_3_method_20_code 66 = .ok (.istore 4, 2) := by decide +kernel
theorem d8_68 : decode prog_3_method_20_code 68 = .ok (.iload 4, 2) := by decide +kernel
theorem d8_70 : decode prog_3_method_20_code 70 = .ok (.aload_n 0, 1) := by decide +kernel
theorem d8_71 : decode prog_3_method_20_code 71 = .ok (.invokevirtual 98, 3) := by decide +kernel
theorem d8_74 : decode prog_3_method_20_code 74 = .ok (.if_icmp .lt 20, 3) := by decide +kernel
theorem d8_94 : decode prog_3_method_20_code 94 = .ok (.iload 4, 2) := by decide +kernel
theorem d8_96 : decode prog_3_method_20_code 96 = .ok (.ifCond .ne 10, 3) := by decide +kernel
theorem d8_99 : decode prog_3_method_20_code 99 = .ok (.iload_n 3, 1) := by decide +kernel
theorem d8_100 : decode prog_3_method_20_code 100 = .ok (.i2l, 1) := by decide +kernel
theorem d8_101 : decode prog_3_method_20_code 101 = .ok (.lstore 5, 2) := by decide +kernel
theorem d8_103 : decode prog_3_method_20_code 103 = .ok (.goto 47, 3) := by decide +kernel
theorem d8_106 : decode prog_3_method_20_code 106 = .ok (.lconst 0, 1) := by decide +kernel
theorem d8_107 : decode prog_3_method_20_code 107 = .ok (.lstore 5, 2) := by decide +kernel
theorem d8_109 : decode prog_3_method_20_code 109 = .ok (.iconst 1, 1) := by decide +kernel
theorem d8_110 : decode prog_3_method_20_code 110 = .ok (.istore 7, 2) := by decide +kernel
theorem d8_112 : decode prog_3_method_20_code 112 = .ok (.iload 7, 2) := by decide +kernel
theorem d8_114 : decode prog_3_method_20_code 114 = .ok (.iload 4, 2) := by decide +kernel
theorem d8_116 : decode prog_3_method_20_code 116 = .ok (.if_icmp .gt 34, 3) := by decide +kernel
theorem d8_119 : decode prog_3_method_20_code 119 = .ok (.lload 5, 2) := by decide +kernel
theorem d8_121 : decode prog_3_method_20_code 121 = .ok (.bipush 8, 2) := by decide +kernel
theorem d8_123 : decode prog_3_method_20_code 123 = .ok (.lshl, 1) := by decide +kernel
theorem d8_124 : decode prog_3_method_20_code 124 = .ok (.aload_n 0, 1) := by decide +kernel
theorem d8_125 : decode prog_3_method_20_code 125 = .ok (.getfield 13, 3) := by decide +kernel
theorem d8_128 : decode prog_3_method_20_code 128 = .ok (.aload_n 0, 1) := by decide +kernel
theorem d8_129 : decode prog_3_method_20_code 129 = .ok (.getfield 17, 3) := by decide +kernel
theorem d8_132 : decode prog_3_method_20_code 132 = .ok (.iload 7, 2) := by decide +kernel
theorem d8_134 : decode prog_3_method_20_code 134 = .ok (.iadd, 1) := by decide +kernel
theorem d8_135 : decode prog_3_method_20_code 135 = .ok (.baload, 1) := by decide +kernel
theorem d8_136 : decode prog_3_method_20_code 136 = .ok (.sipush 255, 3) := by decide +kernel
theorem d8_139 : decode prog_3_method_20_code 139 = .ok (.iand, 1) := by decide +kernel
theorem d8_140 : decode prog_3_method_20_code 140 = .ok (.i2l, 1) := by decide +kernel
theorem d8_141 : decode prog_3_method_20_code 141 = .ok (.lor, 1) := by decide +kernel
theorem d8_142 : decode prog_3_method_20_code 142 = .ok (.lstore 5, 2) := by decide +kernel
theorem d8_144 : decode prog_3_method_20_code 144 = .ok (.iinc 7 1, 3) := by decide +kernel
theorem d8_147 : decode prog_3_method_20_code 147 = .ok (.goto (-35), 3) := by decide +kernel
theorem d8_150 : decode prog_3_method_20_code 150 = .ok (.aload_n 0, 1) := by decide +kernel
theorem d8_151 : decode prog_3_method_20_code 151 = .ok (.dup, 1) := by decide +kernel
theorem d8_152 : decode prog_3_method_20_code 152 = .ok (.getfield 17, 3) := by decide +kernel
theorem d8_155 : decode prog_3_method_20_code 155 = .ok (.iconst 1, 1) := by decide +kernel
theorem d8_156 : decode prog_3_method_20_code 156 = .ok (.iload 4, 2) := by decide +kernel
theorem d8_158 : decode prog_3_method_20_code 158 = .ok (.iadd, 1) := by decide +kernel
theorem d8_159 : decode prog_3_method_20_code 159 = .ok (.iadd, 1) := by decide +kernel
theorem d8_160 : decode prog_3_method_20_code 160 = .ok (.putfield 17, 3) := by decide +kernel
theorem d8_163 : decode prog_3_method_20_code 163 = .ok (.aload_n 0, 1) := by decide +kernel
theorem d8_164 : decode prog_3_method_20_code 164 = .ok (.getfield 115, 3) := by decide +kernel
theorem d8_167 : decode prog_3_method_20_code 167 = .ok (.ifCond .le 25, 3) := by decide +kernel
theorem d8_192 : decode prog_3_method_20_code 192 = .ok (.lload 5, 2) := by decide +kernel
theorem d8_194 : decode prog_3_method_20_code 194 = .ok (.lreturn, 1) := by decide +kernel
theorem d9_0 : decode prog_3_method_4_code 0 = .ok (.aload_n 0, 1) := by decide +kernel
theorem d9_1 : decode prog_3_method_4_code 1 = .ok (.invokevirtual 21, 3) := by decide +kernel
theorem d9_4 : decode prog_3_method_4_code 4 = .ok (.aload_n 0, 1) := by decide +kernel
theorem d9_5 : decode prog_3_method_4_code 5 = .ok (.invokevirtual 24, 3) := by decide +kernel
theorem d9_8 : decode prog_3_method_4_code 8 = .ok (.ifCond .eq 13, 3) := by decide +kernel
theorem d9_21 : decode prog_3_method_4_code 21 = .ok (.aload_n 0, 1) := by decide +kernel
theorem d9_22 : decode prog_3_method_4_code 22 = .ok (.getfield 13, 3) := by decide +kernel
theorem d9_25 : decode prog_3_method_4_code 25 = .ok (.aload_n 0, 1) := by decide +kernel
theorem d9_26 : decode prog_3_method_4_code 26 = .ok (.getfield 17, 3) := by decide +kernel
theorem d9_29 : decode prog_3_method_4_code 29 = .ok (.baload, 1) := by decide +kernel
theorem d9_30 : decode prog_3_method_4_code 30 = .ok (.sipush 255, 3) := by decide +kernel
theorem d9_33 : decode prog_3_method_4_code 33 = .ok (.iand, 1) := by decide +kernel
theorem d9_34 : decode prog_3_method_4_code 34 = .ok (.istore_n 1, 1) := by decide +kernel
theorem d9_35 : decode prog_3_method_4_code 35 = .ok (.iload_n 1, 1) := by decide +kernel
theorem d9_36 : decode prog_3_method_4_code 36 = .ok (.bipush 31, 2) := by decide +kernel
theorem d9_38 : decode prog_3_method_4_code 38 = .ok (.iand, 1) := by decide +kernel
theorem d9_39 : decode prog_3_method_4_code 39 = .ok (.istore_n 2, 1) := by decide +kernel
theorem d9_40 : decode prog_3_method_4_code 40 = .ok (.iload_n 2, 1) := by decide +kernel
theorem d9_41 : decode prog_3_method_4_code 41 = .ok (.bipush 31, 2) := by decide +kernel
theorem d9_43 : decode prog_3_method_4_code 43 = .ok (.if_icmp .ne 20, 3) := by decide +kernel
theorem d9_63 : decode prog_3_method_4_code 63 = .ok (.iload_n 2, 1) := by decide +kernel
theorem d9_64 : decode prog_3_method_4_code 64 = .ok (.bipush 27, 2) := by decide +kernel
theorem d9_66 : decode prog_3_method_4_code 66 = .ok (.if_icmp .le 24, 3) := by decide +kernel
theorem d9_90 : decode prog_3_method_4_code 90 = .ok (.iload_n 1, 1) := by decide +kernel
theorem d9_91 : decode prog_3_method_4_code 91 = .ok (.iconst 5, 1) := by decide +kernel
theorem d9_92 : decode prog_3_method_4_code 92 = .ok (.iushr, 1) := by decide +kernel
theorem d9_93 : decode prog_3_method_4_code 93 = .ok (.tableswitch 92 0 6 #[43, 50, 57, 64, 71, 78, 85], 43) := by decide +kernel
theorem d9_136 : decode prog_3_method_4_code 136 = .ok (.getstatic 49, 3) := by decide +kernel
theorem d9_139 : decode prog_3_method_4_code 139 = .ok (.astore_n 3, 1) := by decide +kernel
theorem d9_140 : decode prog_3_method_4_code 140 = .ok (.goto 81, 3) := by decide +kernel
theorem d9_221 : decode prog_3_method_4_code 221 = .ok (.aload_n 3, 1) := by decide +kernel
theorem d9_222 : decode prog_3_method_4_code 222 = .ok (.areturn, 1) := by decide +kernel
theorem d10_0 : decode prog_3_method_22_code 0 = .ok (.aload_n 0, 1) := by decide +kernel
theorem d10_1 : decode prog_3_method_22_code 1 = .ok (.getfield 115, 3) := by decide +kernel
theorem d10_4 : decode prog_3_method_22_code 4 = .ok (.ifCond .le 34, 3) := by decide +kernel
theorem d10_38 : decode prog_3_method_22_code 38 = .ok (.return_, 1) := by decide +kernel
theorem d11_0 : decode prog_3_method_21_code 0 = .ok (.aload_n 0, 1) := by decide +kernel
theorem d11_1 : decode prog_3_method_21_code 1 = .ok (.getfield 13, 3) := by decide +kernel
theorem d11_4 : decode prog_3_method_21_code 4 = .ok (.arraylength, 1) := by decide +kernel
theorem d11_5 : decode prog_3_method_21_code 5 = .ok (.aload_n 0, 1) := by decide +kernel
theorem d11_6 : decode prog_3_method_21_code 6 = .ok (.getfield 17, 3) := by decide +kernel
theorem d11_9 : decode prog_3_method_21_code 9 = .ok (.isub, 1) := by decide +kernel
theorem d11_10 : decode prog_3_method_21_code 10 = .ok (.ireturn, 1) := by decide +kernel
theorem pd_0 : parseMethodDescriptor "()V" = some ⟨[], none⟩ := by decide +kernel
theorem pd_1 : parseMethodDescriptor "()Z" = some ⟨[], some .boolean⟩ := by decide +kernel
theorem pd_2 : parseMethodDescriptor "()Lcom/example/brevidns/brevidns/CborReader$Kind;" = some ⟨[], some (.object "com/example/brevidns/brevidns/CborReader$Kind")⟩ := by decide +kernel
theorem pd_3 : parseMethodDescriptor "()I" = some ⟨[], some .int⟩ := by decide +kernel
theorem pd_4 : parseMethodDescriptor "(Lcom/example/brevidns/brevidns/CborReader$Kind;)J" = some ⟨[(.object "com/example/brevidns/brevidns/CborReader$Kind")], some .long⟩ := by decide +kernel
theorem pd_5 : parseMethodDescriptor "(II)I" = some ⟨[.int, .int], some .int⟩ := by decide +kernel
theorem pd_6 : parseMethodDescriptor "(I)[B" = some ⟨[.int], some (.array .byte)⟩ := by decide +kernel
theorem pd_7 : parseMethodDescriptor "([B)V" = some ⟨[(.array .byte)], none⟩ := by decide +kernel
theorem pd_8 : parseMethodDescriptor "([BIZI)I" = some ⟨[(.array .byte), .int, .boolean, .int], some .int⟩ := by decide +kernel
theorem pd_9 : parseMethodDescriptor "()J" = some ⟨[], some .long⟩ := by decide +kernel
theorem pn_1 : plainFor (⟨"java/lang/Math", "min", "(II)I"⟩ : MethodName) = true := by first | (exact plainFor_of_name (show plainName "java/lang/Math" = true by first | (simp [plainName, overriddenIn]; done) | decide +kernel)) | decide +kernel
theorem ef_rm_min (m : MethodId) (x0 : Int32) (x1 : Int32) : entryFrame m #[(.int x0), (.int x1)] 2 = mkF m 0 #[.val (.int x0), .val (.int x1)] [] := by first | (simp [entryFrame, mkF, argsToLocals, Value.category]; done) | rfl
set_option maxRecDepth 65536 in
set_option maxHeartbeats 40000000 in
theorem rm_min (l : Launch) (Z : State) (a0 : Array Value) (hw : ∀ d ∈ tables_1, d.before a0 Z = true) (u0 u1 : Int32) (h0 : Heap) (n0 : Nat) (Z0 : n0 ≤ h0.size)  :
    Con l Z (⟨"java/lang/Math", "min", "(II)I"⟩ : MethodName) jdk_29_method_69_code 2 (some .int) ({ frames := 0, cells := 0, slots := 0, locals := 0 } : Room) #[(.int u0), (.int u1)] h0 (fun v h L => v = some (.int (if u1 < u0 then u1 else u0)) ∧ Fr n0 L ∧ h = h0) := by
  refine own_body pn_1 ?_
  intro p e s m below meth c s₁ hx hby hml hown hnm hret hZ e0 X0 G go rt
  have N0 := Fr.nil n0
  rw [ef_rm_min m u0 u1]
  show G (s₁.setTop (mkF m 0 #[.val (.int u0), .val (.int u1)] []))
  refine go _ _ (fun t' k' => XS.iloadN X0.here hx rfl (hb hby d1_0) rfl  k') ?_
  show G (s₁.setTop (mkF m 1 #[.val (.int u0), .val (.int u1)] [(.int u0)]))
  refine go _ _ (fun t' k' => XS.iloadN X0.here hx rfl (hb hby d1_1) rfl  k') ?_
  show G (s₁.setTop (mkF m 2 #[.val (.int u0), .val (.int u1)] [(.int u1), (.int u0)]))
  by_cases c101 : u1 < u0
  · refine go _ _ (fun t' k' => XS.icmpYes X0.here hx rfl (pc0 := 2) (pc' := 9) rfl (hb hby d1_2) rfl (Free.XT.ii_gt_t c101) (by decide) (by decide) k') ?_
    show G (s₁.setTop (mkF m 9 #[.val (.int u0), .val (.int u1)] []))
    refine go _ _ (fun t' k' => XS.iloadN X0.here hx rfl (hb hby d1_9) rfl  k') ?_
    show G (s₁.setTop (mkF m 10 #[.val (.int u0), .val (.int u1)] [(.int u1)]))
    refine own_retI rt X0 hx hret (hb hby d1_10) (by decide) (by decide) ?_
    exact ⟨by simp [c101], N0, e0⟩
  · refine go _ _ (fun t' k' => XS.icmpNo X0.here hx rfl (hb hby d1_2) rfl (Free.XT.ii_gt_f c101) k') ?_
    show G (s₁.setTop (mkF m 5 #[.val (.int u0), .val (.int u1)] []))
    refine go _ _ (fun t' k' => XS.iloadN X0.here hx rfl (hb hby d1_5) rfl  k') ?_
    show G (s₁.setTop (mkF m 6 #[.val (.int u0), .val (.int u1)] [(.int u0)]))
    refine go _ _ (fun t' k' => XS.goto X0.here hx rfl (pc0 := 6) (pc' := 10) rfl (hb hby d1_6) (by decide) (by decide) k') ?_
    show G (s₁.setTop (mkF m 10 #[.val (.int u0), .val (.int u1)] [(.int u0)]))
    refine own_retI rt X0 hx hret (hb hby d1_10) (by decide) (by decide) ?_
    exact ⟨by simp [c101], N0, e0⟩
theorem pn_2 : plainFor (⟨"com/example/brevidns/brevidns/CborReaderAtEndPinLaw", "allocate", "(I)[B"⟩ : MethodName) = true := by first | (exact plainFor_of_name (show plainName "com/example/brevidns/brevidns/CborReaderAtEndPinLaw" = true by first | (simp [plainName, overriddenIn]; done) | decide +kernel)) | decide +kernel
theorem ef_rm_al (m : MethodId) (x0 : Int32) : entryFrame m #[(.int x0)] 1 = mkF m 0 #[.val (.int x0)] [] := by first | (simp [entryFrame, mkF, argsToLocals, Value.category]; done) | rfl
set_option maxRecDepth 65536 in
set_option maxHeartbeats 40000000 in
theorem rm_al (l : Launch) (Z : State) (a0 : Array Value) (hw : ∀ d ∈ tables_1, d.before a0 Z = true) (u0 : Int32) (ln : Nat) (h0 : Heap) (n0 : Nat) (Z0 : n0 ≤ h0.size) (hln : u0.toInt = ln) (hl5 : ln ≤ 5) :
    Con l Z (⟨"com/example/brevidns/brevidns/CborReaderAtEndPinLaw", "allocate", "(I)[B"⟩ : MethodName) method_4_code 1 (some (.array .byte)) ({ frames := 0, cells := 1, slots := 5, locals := 0 } : Room) #[(.int u0)] h0 (fun v h L => ∃ a : Addr, v = some (.ref a) ∧ Fr n0 L ∧ Keep h0 h [] ∧ Ary Z h a .byte ln (fun _ => defaultValue .byte) ∧ n0 ≤ a ∧ a = h0.size) := by
  refine own_body pn_2 ?_
  intro p e s m below meth c s₁ hx hby hml hown hnm hret hZ e0 X0 G go rt
  have N0 := Fr.nil n0
  rw [ef_rm_al m u0]
  show G (s₁.setTop (mkF m 0 #[.val (.int u0)] []))
  refine go _ _ (fun t' k' => XS.iloadN X0.here hx rfl (hb hby d2_0) rfl  k') ?_
  show G (s₁.setTop (mkF m 1 #[.val (.int u0)] [(.int u0)]))
  by_cases c102 : u0 = (0 : Int32)
  · refine go _ _ (fun t' k' => XS.ifNo X0.here hx rfl (hb hby d2_1) rfl (Free.XT.i0_ne_f c102) k') ?_
    show G (s₁.setTop (mkF m 4 #[.val (.int u0)] []))
    refine go _ _ (fun t' k' => XS.iconst X0.here hx rfl (hb hby d2_4) k') ?_
    show G (s₁.setTop (mkF m 5 #[.val (.int u0)] [(.int (0 : Int32))]))
    refine own_newarr go X0 hx hZ e0 (g := (mkF m 5 #[.val (.int u0)] [(.int (0 : Int32))])) rfl (hw _ (List.mem_of_getElem? (i := 8) rfl)) 0 rfl (hb hby d2_5) rfl 5 (by decide) (by decide) (by decide) (by decide) ?_
    intro T103 h103 b103 X103 e103 E103 g103 A103
    have g_b103 : n0 ≤ b103 := Nat.le_trans Z0 (Nat.le_of_eq g103.symm)
    have sz_b103 : h0.size ≤ b103 := Nat.le_of_eq g103.symm
    have Z104 : n0 ≤ h103.size := Nat.le_trans Z0 E103.1
    have K105 : Keep h0 h103 [] := (Keep.refl h0 []).ext E103
    show G (T103.setTop (mkF m 7 #[.val (.int u0)] [(.ref b103)]))
    refine own_retA rt X103 hx hret rfl rfl (hb hby d2_7) (by decide) (by decide) ?_
    obtain rfl : ln = 0 := (own_lit 0 (kk := 0) rfl hln).mp c102
    rw [e103]
    exact ⟨_, rfl, N0, K105, A103, g_b103, g103⟩
  · refine go _ _ (fun t' k' => XS.ifYes X0.here hx rfl (pc0 := 1) (pc' := 8) rfl (hb hby d2_1) rfl (Free.XT.i0_ne_t c102) (by decide) (by decide) k') ?_
    show G (s₁.setTop (mkF m 8 #[.val (.int u0)] []))
    refine go _ _ (fun t' k' => XS.iloadN X0.here hx rfl (hb hby d2_8) rfl  k') ?_
    show G (s₁.setTop (mkF m 9 #[.val (.int u0)] [(.int u0)]))
    refine go _ _ (fun t' k' => XS.iconst X0.here hx rfl (hb hby d2_9) k') ?_
    show G (s₁.setTop (mkF m 10 #[.val (.int u0)] [(.int (1 : Int32)), (.int u0)]))
    by_cases c106 : u0 = (1 : Int32)
    · refine go _ _ (fun t' k' => XS.icmpNo X0.here hx rfl (hb hby d2_10) rfl (Free.XT.ii_ne_f c106) k') ?_
      show G (s₁.setTop (mkF m 13 #[.val (.int u0)] []))
      refine go _ _ (fun t' k' => XS.iconst X0.here hx rfl (hb hby d2_13) k') ?_
      show G (s₁.setTop (mkF m 14 #[.val (.int u0)] [(.int (1 : Int32))]))
      refine own_newarr go X0 hx hZ e0 (g := (mkF m 14 #[.val (.int u0)] [(.int (1 : Int32))])) rfl (hw _ (List.mem_of_getElem? (i := 8) rfl)) 1 rfl (hb hby d2_14) rfl 5 (by decide) (by decide) (by decide) (by decide) ?_
      intro T107 h107 b107 X107 e107 E107 g107 A107
      have g_b107 : n0 ≤ b107 := Nat.le_trans Z0 (Nat.le_of_eq g107.symm)
      have sz_b107 : h0.size ≤ b107 := Nat.le_of_eq g107.symm
      have Z108 : n0 ≤ h107.size := Nat.le_trans Z0 E107.1
      have K109 : Keep h0 h107 [] := (Keep.refl h0 []).ext E107
      show G (T107.setTop (mkF m 16 #[.val (.int u0)] [(.ref b107)]))
      refine own_retA rt X107 hx hret rfl rfl (hb hby d2_16) (by decide) (by decide) ?_
      obtain rfl : ln = 1 := (own_lit 1 (kk := 1) rfl hln).mp c106
      rw [e107]
      exact ⟨_, rfl, N0, K109, A107, g_b107, g107⟩
    · refine go _ _ (fun t' k' => XS.icmpYes X0.here hx rfl (pc0 := 10) (pc' := 17) rfl (hb hby d2_10) rfl (Free.XT.ii_ne_t c106) (by decide) (by decide) k') ?_
      show G (s₁.setTop (mkF m 17 #[.val (.int u0)] []))
      refine go _ _ (fun t' k' => XS.iloadN X0.here hx rfl (hb hby d2_17) rfl  k') ?_
      show G (s₁.setTop (mkF m 18 #[.val (.int u0)] [(.int u0)]))
      refine go _ _ (fun t' k' => XS.iconst X0.here hx rfl (hb hby d2_18) k') ?_
      show G (s₁.setTop (mkF m 19 #[.val (.int u0)] [(.int (2 : Int32)), (.int u0)]))
      by_cases c110 : u0 = (2 : Int32)
      · refine go _ _ (fun t' k' => XS.icmpNo X0.here hx rfl (hb hby d2_19) rfl (Free.XT.ii_ne_f c110) k') ?_
        show G (s₁.setTop (mkF m 22 #[.val (.int u0)] []))
        refine go _ _ (fun t' k' => XS.iconst X0.here hx rfl (hb hby d2_22) k') ?_
        show G (s₁.setTop (mkF m 23 #[.val (.int u0)] [(.int (2 : Int32))]))
        refine own_newarr go X0 hx hZ e0 (g := (mkF m 23 #[.val (.int u0)] [(.int (2 : Int32))])) rfl (hw _ (List.mem_of_getElem? (i := 8) rfl)) 2 rfl (hb hby d2_23) rfl 5 (by decide) (by decide) (by decide) (by decide) ?_
        intro T111 h111 b111 X111 e111 E111 g111 A111
        have g_b111 : n0 ≤ b111 := Nat.le_trans Z0 (Nat.le_of_eq g111.symm)
        have sz_b111 : h0.size ≤ b111 := Nat.le_of_eq g111.symm
        have Z112 : n0 ≤ h111.size := Nat.le_trans Z0 E111.1
        have K113 : Keep h0 h111 [] := (Keep.refl h0 []).ext E111
        show G (T111.setTop (mkF m 25 #[.val (.int u0)] [(.ref b111)]))
        refine own_retA rt X111 hx hret rfl rfl (hb hby d2_25) (by decide) (by decide) ?_
        obtain rfl : ln = 2 := (own_lit 2 (kk := 2) rfl hln).mp c110
        rw [e111]
        exact ⟨_, rfl, N0, K113, A111, g_b111, g111⟩
      · refine go _ _ (fun t' k' => XS.icmpYes X0.here hx rfl (pc0 := 19) (pc' := 26) rfl (hb hby d2_19) rfl (Free.XT.ii_ne_t c110) (by decide) (by decide) k') ?_
        show G (s₁.setTop (mkF m 26 #[.val (.int u0)] []))
        refine go _ _ (fun t' k' => XS.iloadN X0.here hx rfl (hb hby d2_26) rfl  k') ?_
        show G (s₁.setTop (mkF m 27 #[.val (.int u0)] [(.int u0)]))
        refine go _ _ (fun t' k' => XS.iconst X0.here hx rfl (hb hby d2_27) k') ?_
        show G (s₁.setTop (mkF m 28 #[.val (.int u0)] [(.int (3 : Int32)), (.int u0)]))
        by_cases c114 : u0 = (3 : Int32)
        · refine go _ _ (fun t' k' => XS.icmpNo X0.here hx rfl (hb hby d2_28) rfl (Free.XT.ii_ne_f c114) k') ?_
          show G (s₁.setTop (mkF m 31 #[.val (.int u0)] []))
          refine go _ _ (fun t' k' => XS.iconst X0.here hx rfl (hb hby d2_31) k') ?_
          show G (s₁.setTop (mkF m 32 #[.val (.int u0)] [(.int (3 : Int32))]))
          refine own_newarr go X0 hx hZ e0 (g := (mkF m 32 #[.val (.int u0)] [(.int (3 : Int32))])) rfl (hw _ (List.mem_of_getElem? (i := 8) rfl)) 3 rfl (hb hby d2_32) rfl 5 (by decide) (by decide) (by decide) (by decide) ?_
          intro T115 h115 b115 X115 e115 E115 g115 A115
          have g_b115 : n0 ≤ b115 := Nat.le_trans Z0 (Nat.le_of_eq g115.symm)
          have sz_b115 : h0.size ≤ b115 := Nat.le_of_eq g115.symm
          have Z116 : n0 ≤ h115.size := Nat.le_trans Z0 E115.1
          have K117 : Keep h0 h115 [] := (Keep.refl h0 []).ext E115
          show G (T115.setTop (mkF m 34 #[.val (.int u0)] [(.ref b115)]))
          refine own_retA rt X115 hx hret rfl rfl (hb hby d2_34) (by decide) (by decide) ?_
          obtain rfl : ln = 3 := (own_lit 3 (kk := 3) rfl hln).mp c114
          rw [e115]
          exact ⟨_, rfl, N0, K117, A115, g_b115, g115⟩
        · refine go _ _ (fun t' k' => XS.icmpYes X0.here hx rfl (pc0 := 28) (pc' := 35) rfl (hb hby d2_28) rfl (Free.XT.ii_ne_t c114) (by decide) (by decide) k') ?_
          show G (s₁.setTop (mkF m 35 #[.val (.int u0)] []))
          refine go _ _ (fun t' k' => XS.iloadN X0.here hx rfl (hb hby d2_35) rfl  k') ?_
          show G (s₁.setTop (mkF m 36 #[.val (.int u0)] [(.int u0)]))
          refine go _ _ (fun t' k' => XS.iconst X0.here hx rfl (hb hby d2_36) k') ?_
          show G (s₁.setTop (mkF m 37 #[.val (.int u0)] [(.int (4 : Int32)), (.int u0)]))
          by_cases c118 : u0 = (4 : Int32)
          · refine go _ _ (fun t' k' => XS.icmpNo X0.here hx rfl (hb hby d2_37) rfl (Free.XT.ii_ne_f c118) k') ?_
            show G (s₁.setTop (mkF m 40 #[.val (.int u0)] []))
            refine go _ _ (fun t' k' => XS.iconst X0.here hx rfl (hb hby d2_40) k') ?_
            show G (s₁.setTop (mkF m 41 #[.val (.int u0)] [(.int (4 : Int32))]))
            refine own_newarr go X0 hx hZ e0 (g := (mkF m 41 #[.val (.int u0)] [(.int (4 : Int32))])) rfl (hw _ (List.mem_of_getElem? (i := 8) rfl)) 4 rfl (hb hby d2_41) rfl 5 (by decide) (by decide) (by decide) (by decide) ?_
            intro T119 h119 b119 X119 e119 E119 g119 A119
            have g_b119 : n0 ≤ b119 := Nat.le_trans Z0 (Nat.le_of_eq g119.symm)
            have sz_b119 : h0.size ≤ b119 := Nat.le_of_eq g119.symm
            have Z120 : n0 ≤ h119.size := Nat.le_trans Z0 E119.1
            have K121 : Keep h0 h119 [] := (Keep.refl h0 []).ext E119
            show G (T119.setTop (mkF m 43 #[.val (.int u0)] [(.ref b119)]))
            refine own_retA rt X119 hx hret rfl rfl (hb hby d2_43) (by decide) (by decide) ?_
            obtain rfl : ln = 4 := (own_lit 4 (kk := 4) rfl hln).mp c118
            rw [e119]
            exact ⟨_, rfl, N0, K121, A119, g_b119, g119⟩
          · refine go _ _ (fun t' k' => XS.icmpYes X0.here hx rfl (pc0 := 37) (pc' := 44) rfl (hb hby d2_37) rfl (Free.XT.ii_ne_t c118) (by decide) (by decide) k') ?_
            show G (s₁.setTop (mkF m 44 #[.val (.int u0)] []))
            refine go _ _ (fun t' k' => XS.iconst X0.here hx rfl (hb hby d2_44) k') ?_
            show G (s₁.setTop (mkF m 45 #[.val (.int u0)] [(.int (5 : Int32))]))
            refine own_newarr go X0 hx hZ e0 (g := (mkF m 45 #[.val (.int u0)] [(.int (5 : Int32))])) rfl (hw _ (List.mem_of_getElem? (i := 8) rfl)) 5 rfl (hb hby d2_45) rfl 5 (by decide) (by decide) (by decide) (by decide) ?_
            intro T122 h122 b122 X122 e122 E122 g122 A122
            have g_b122 : n0 ≤ b122 := Nat.le_trans Z0 (Nat.le_of_eq g122.symm)
            have sz_b122 : h0.size ≤ b122 := Nat.le_of_eq g122.symm
            have Z123 : n0 ≤ h122.size := Nat.le_trans Z0 E122.1
            have K124 : Keep h0 h122 [] := (Keep.refl h0 []).ext E122
            show G (T122.setTop (mkF m 47 #[.val (.int u0)] [(.ref b122)]))
            refine own_retA rt X122 hx hret rfl rfl (hb hby d2_47) (by decide) (by decide) ?_
            have z0 := (not_congr (own_lit 0 (kk := 0) rfl hln)).mp c102
            have z1 := (not_congr (own_lit 1 (kk := 1) rfl hln)).mp c106
            have z2 := (not_congr (own_lit 2 (kk := 2) rfl hln)).mp c110
            have z3 := (not_congr (own_lit 3 (kk := 3) rfl hln)).mp c114
            have z4 := (not_congr (own_lit 4 (kk := 4) rfl hln)).mp c118
            obtain rfl : ln = 5 := by omega
            rw [e122]
            exact ⟨_, rfl, N0, K124, A122, g_b122, g122⟩
theorem pn_3 : plainFor (⟨"com/example/brevidns/brevidns/CborReader", "<init>", "([B)V"⟩ : MethodName) = true := by first | (exact plainFor_of_name (show plainName "com/example/brevidns/brevidns/CborReader" = true by first | (simp [plainName, overriddenIn]; done) | decide +kernel)) | decide +kernel
theorem ef_rm_in (m : MethodId) (x0 : Addr) (x1 : Addr) : entryFrame m #[(.ref x0), (.ref x1)] 2 = mkF m 0 #[.val (.ref x0), .val (.ref x1)] [] := by first | (simp [entryFrame, mkF, argsToLocals, Value.category]; done) | rfl
set_option maxRecDepth 65536 in
set_option maxHeartbeats 40000000 in
theorem rm_in (l : Launch) (Z : State) (a0 : Array Value) (hw : ∀ d ∈ tables_1, d.before a0 Z = true) (r0 r1 : Addr) (h0 : Heap) (n0 : Nat) (Z0 : n0 ≤ h0.size) (g_r0 : n0 ≤ r0) (E0 : Exa Z h0 r0 "com/example/brevidns/brevidns/CborReader") (F0 : Fld Z h0 r0 "com/example/brevidns/brevidns/CborReader" "input" "[B" .null) (F1 : Fld Z h0 r0 "com/example/brevidns/brevidns/CborReader" "position" "I" (.int (0 : Int32))) (F2 : Fld Z h0 r0 "com/example/brevidns/brevidns/CborReader" "itemsLeft" "[I" .null) (F3 : Fld Z h0 r0 "com/example/brevidns/brevidns/CborReader" "depth" "I" (.int (0 : Int32))) :
    Con l Z (⟨"com/example/brevidns/brevidns/CborReader", "<init>", "([B)V"⟩ : MethodName) prog_3_method_1_code 2 none ({ frames := 1, cells := 1, slots := 4, locals := 12 } : Room) #[(.ref r0), (.ref r1)] h0 (fun v h L => v = none ∧ Fr n0 L ∧ Keep h0 h [r0] ∧ ∃ il, CR Z h r0 r1 il 0) := by
  refine own_body pn_3 ?_
  intro p e s m below meth c s₁ hx hby hml hown hnm hret hZ e0 X0 G go rt
  have N0 := Fr.nil n0
  rw [ef_rm_in m r0 r1]
  show G (s₁.setTop (mkF m 0 #[.val (.ref r0), .val (.ref r1)] []))
  refine go _ _ (fun t' k' => XS.aloadN X0.here hx rfl (hb hby d3_0) rfl rfl  k') ?_
  show G (s₁.setTop (mkF m 1 #[.val (.ref r0), .val (.ref r1)] [(.ref r0)]))
  obtain ⟨T125, X125, e125, st125⟩ := initO X0 hx hZ hown (hw _ (List.mem_of_getElem? (i := 15) rfl)) (hw _ (List.mem_of_getElem? (i := 16) rfl)) (hw _ (List.mem_of_getElem? (i := 17) rfl)) e0 (g := (mkF m 1 #[.val (.ref r0), .val (.ref r1)] [(.ref r0)])) rfl (by rw [hml]; rfl) rfl (hb hby d3_1) (by decide) (W := 0) (by show 2 * 0 + _ ≤ _; exact Nat.le_of_eq rfl) (by decide)
  refine go _ _ st125 ?_
  show G (T125.setTop (mkF m 4 #[.val (.ref r0), .val (.ref r1)] []))
  refine go _ _ (fun t' k' => XS.aloadN X125.here hx rfl (hb hby d3_4) rfl rfl  k') ?_
  show G (T125.setTop (mkF m 5 #[.val (.ref r0), .val (.ref r1)] [(.ref r0)]))
  refine go _ _ (fun t' k' => XS.iconst X125.here hx rfl (hb hby d3_5) k') ?_
  show G (T125.setTop (mkF m 6 #[.val (.ref r0), .val (.ref r1)] [(.int (4 : Int32)), (.ref r0)]))
  refine own_newarr go X125 hx hZ e125 (g := (mkF m 6 #[.val (.ref r0), .val (.ref r1)] [(.int (4 : Int32)), (.ref r0)])) rfl (hw _ (List.mem_of_getElem? (i := 18) rfl)) 4 rfl (hb hby d3_6) rfl 4 (by decide) (by decide) (by decide) (by decide) ?_
  intro T126 h126 b126 X126 e126 E126 g126 A126
  have ne127 : r0 ≠ b126 := Nat.ne_of_lt (by rw [g126]; exact E0.lt)
  have g_b126 : n0 ≤ b126 := Nat.le_trans Z0 (Nat.le_of_eq g126.symm)
  have sz_b126 : h0.size ≤ b126 := Nat.le_of_eq g126.symm
  have Z128 : n0 ≤ h126.size := Nat.le_trans Z0 E126.1
  have K129 : Keep h0 h126 [r0] := (Keep.refl h0 [r0]).ext E126
  show G (T126.setTop (mkF m 8 #[.val (.ref r0), .val (.ref r1)] [(.ref b126), (.ref r0)]))
  have f130 := (F2.ext E126)
  have f131 := (E0.ext E126)
  obtain ⟨T132, h132, X132, e132, W132, st132⟩ := putF X126 hx hZ hown (host := "") (Or.inl (hw _ (List.mem_of_getElem? (i := 19) rfl))) Via.refl e126 f130 f131 (Or.inl (hw _ (List.mem_of_getElem? (i := 20) rfl))) (hw _ (List.mem_of_getElem? (i := 10) rfl)) (ty := (.array .int)) (by decide) rfl rfl (g := (mkF m 8 #[.val (.ref r0), .val (.ref r1)] [(.ref b126), (.ref r0)])) rfl rfl (hb hby d3_8)
  have F132 := f130.same W132
  have K133 : Keep h0 h132 [r0] := K129.wr W132 (Or.inl (List.mem_of_getElem? (i := 0) rfl))
  obtain ⟨lc132, X132h, N132h⟩ := own_hide X132 (Fr.snoc X132 N0 g_r0)
  have Z134 : n0 ≤ h132.size := Nat.le_trans Z128 (Nat.le_of_eq W132.size.symm)
  refine go _ _ st132 ?_
  show G (T132.setTop (mkF m 11 #[.val (.ref r0), .val (.ref r1)] []))
  refine go _ _ (fun t' k' => XS.aloadN X132h.here hx rfl (hb hby d3_11) rfl rfl  k') ?_
  show G (T132.setTop (mkF m 12 #[.val (.ref r0), .val (.ref r1)] [(.ref r0)]))
  refine go _ _ (fun t' k' => XS.aloadN X132h.here hx rfl (hb hby d3_12) rfl rfl  k') ?_
  show G (T132.setTop (mkF m 13 #[.val (.ref r0), .val (.ref r1)] [(.ref r1), (.ref r0)]))
  have f135 := ((F0.ext E126).other W132 (Or.inr (slot_ne (Or.inr (hw _ (List.mem_of_getElem? (i := 22) rfl))) (Or.inl (hw _ (List.mem_of_getElem? (i := 20) rfl))) (by decide) (t := (.array .byte)) (t' := (.array .int)) (by decide) (by decide))))
  have f136 := (f131.wr W132)
  obtain ⟨T137, h137, X137, e137, W137, st137⟩ := putF X132h hx hZ hown (host := "") (Or.inl (hw _ (List.mem_of_getElem? (i := 21) rfl))) Via.refl e132 f135 f136 (Or.inr ⟨(hw _ (List.mem_of_getElem? (i := 22) rfl)), rfl, hnm⟩) (hw _ (List.mem_of_getElem? (i := 10) rfl)) (ty := (.array .byte)) (by decide) rfl rfl (g := (mkF m 13 #[.val (.ref r0), .val (.ref r1)] [(.ref r1), (.ref r0)])) rfl rfl (hb hby d3_13)
  have F137 := f135.same W137
  have K138 : Keep h0 h137 [r0] := K133.wr W137 (Or.inl (List.mem_of_getElem? (i := 0) rfl))
  obtain ⟨lc137, X137h, N137h⟩ := own_hide X137 (Fr.snoc X137 N132h g_r0)
  have Z139 : n0 ≤ h137.size := Nat.le_trans Z134 (Nat.le_of_eq W137.size.symm)
  refine go _ _ st137 ?_
  show G (T137.setTop (mkF m 16 #[.val (.ref r0), .val (.ref r1)] []))
  refine own_retV rt X137h hx hret (hb hby d3_16) (by decide) (by decide) ?_
  have f140 := (f136.wr W137)
  have f141 := (((F1.ext E126).other W132 (Or.inr (slot_ne (Or.inl (hw _ (List.mem_of_getElem? (i := 29) rfl))) (Or.inl (hw _ (List.mem_of_getElem? (i := 20) rfl))) (by decide) (t := .int) (t' := (.array .int)) (by decide) (by decide)))).other W137 (Or.inr (slot_ne (Or.inl (hw _ (List.mem_of_getElem? (i := 29) rfl))) (Or.inr (hw _ (List.mem_of_getElem? (i := 22) rfl))) (by decide) (t := .int) (t' := (.array .byte)) (by decide) (by decide))))
  have f142 := (F132.other W137 (Or.inr (slot_ne (Or.inl (hw _ (List.mem_of_getElem? (i := 20) rfl))) (Or.inr (hw _ (List.mem_of_getElem? (i := 22) rfl))) (by decide) (t := (.array .int)) (t' := (.array .byte)) (by decide) (by decide))))
  have f143 := (((F3.ext E126).other W132 (Or.inr (slot_ne (Or.inl (hw _ (List.mem_of_getElem? (i := 56) rfl))) (Or.inl (hw _ (List.mem_of_getElem? (i := 20) rfl))) (by decide) (t := .int) (t' := (.array .int)) (by decide) (by decide)))).other W137 (Or.inr (slot_ne (Or.inl (hw _ (List.mem_of_getElem? (i := 56) rfl))) (Or.inr (hw _ (List.mem_of_getElem? (i := 22) rfl))) (by decide) (t := .int) (t' := (.array .byte)) (by decide) (by decide))))
  rw [e137]
  exact ⟨rfl, N137h, K138, _, ⟨f140, F137, f141, f142, f143⟩⟩
theorem pn_5 : plainFor (⟨"com/example/brevidns/brevidns/CborReader", "atEnd", "()Z"⟩ : MethodName) = true := by first | (exact plainFor_of_name (show plainName "com/example/brevidns/brevidns/CborReader" = true by first | (simp [plainName, overriddenIn]; done) | decide +kernel)) | decide +kernel
theorem ef_rm_ae (m : MethodId) (x0 : Addr) : entryFrame m #[(.ref x0)] 1 = mkF m 0 #[.val (.ref x0)] [] := by first | (simp [entryFrame, mkF, argsToLocals, Value.category]; done) | rfl
set_option maxRecDepth 65536 in
set_option maxHeartbeats 40000000 in
theorem rm_ae (l : Launch) (Z : State) (a0 : Array Value) (hw : ∀ d ∈ tables_1, d.before a0 Z = true) (r0 r1 : Addr) (pos bb : Int32) (pn ln : Nat) (f : Nat → Value) (h0 : Heap) (n0 : Nat) (Z0 : n0 ≤ h0.size) (Fi : Fld Z h0 r0 "com/example/brevidns/brevidns/CborReader" "input" "[B" (.ref r1)) (Fp : Fld Z h0 r0 "com/example/brevidns/brevidns/CborReader" "position" "I" (.int pos)) (A : Ary Z h0 r1 .byte ln f) (hpos : pos.toInt = pn) (hl5 : ln ≤ 5) (hbb : (bb = 1 ∧ pn = ln) ∨ (bb = 0 ∧ ¬ pn = ln)) :
    Con l Z (⟨"com/example/brevidns/brevidns/CborReader", "atEnd", "()Z"⟩ : MethodName) prog_3_method_2_code 1 (some .boolean) ({ frames := 0, cells := 0, slots := 0, locals := 0 } : Room) #[(.ref r0)] h0 (fun v h L => v = some (.int bb) ∧ Fr n0 L ∧ h = h0) := by
  refine own_body pn_5 ?_
  intro p e s m below meth c s₁ hx hby hml hown hnm hret hZ e0 X0 G go rt
  have N0 := Fr.nil n0
  rw [ef_rm_ae m r0]
  rcases hbb with ⟨rfl, hq⟩ | ⟨rfl, hq⟩
  · show G (s₁.setTop (mkF m 0 #[.val (.ref r0)] []))
    refine go _ _ (fun t' k' => XS.aloadN X0.here hx rfl (hb hby d5_0) rfl rfl  k') ?_
    show G (s₁.setTop (mkF m 1 #[.val (.ref r0)] [(.ref r0)]))
    obtain ⟨T144, X144, e144, st144⟩ := getF X0 hx hZ hown (host := "") (Or.inl (hw _ (List.mem_of_getElem? (i := 28) rfl))) Via.refl e0 Fp (g := (mkF m 1 #[.val (.ref r0)] [(.ref r0)])) rfl rfl (hb hby d5_1)
    refine go _ _ st144 ?_
    show G (T144.setTop (mkF m 4 #[.val (.ref r0)] [(.int pos)]))
    refine go _ _ (fun t' k' => XS.aloadN X144.here hx rfl (hb hby d5_4) rfl rfl  k') ?_
    show G (T144.setTop (mkF m 5 #[.val (.ref r0)] [(.ref r0), (.int pos)]))
    obtain ⟨T145, X145, e145, st145⟩ := getF X144 hx hZ hown (host := "") (Or.inl (hw _ (List.mem_of_getElem? (i := 21) rfl))) Via.refl e144 Fi (g := (mkF m 5 #[.val (.ref r0)] [(.ref r0), (.int pos)])) rfl rfl (hb hby d5_5)
    refine go _ _ st145 ?_
    show G (T145.setTop (mkF m 8 #[.val (.ref r0)] [(.ref r1), (.int pos)]))
    refine own_arrlen go X145 hx hZ e145 (g := (mkF m 8 #[.val (.ref r0)] [(.ref r1), (.int pos)])) rfl A rfl (hb hby d5_8) ?_
    show G (T145.setTop (mkF m 9 #[.val (.ref r0)] [(.int (ln).toInt32), (.int pos)]))
    refine go _ _ (fun t' k' => XS.icmpNo X145.here hx rfl (hb hby d5_9) rfl (Free.XT.ii_ne_f ((own_eqlen hpos (by omega)).mpr hq)) k') ?_
    show G (T145.setTop (mkF m 12 #[.val (.ref r0)] []))
    refine go _ _ (fun t' k' => XS.iconst X145.here hx rfl (hb hby d5_12) k') ?_
    show G (T145.setTop (mkF m 13 #[.val (.ref r0)] [(.int (1 : Int32))]))
    refine go _ _ (fun t' k' => XS.goto X145.here hx rfl (pc0 := 13) (pc' := 17) rfl (hb hby d5_13) (by decide) (by decide) k') ?_
    show G (T145.setTop (mkF m 17 #[.val (.ref r0)] [(.int (1 : Int32))]))
    refine own_retZ rt X145 hx (t := .boolean) hret (by simp) (hb hby d5_17) (by decide) (by decide) ?_
    exact ⟨rfl, N0, e145⟩
  · show G (s₁.setTop (mkF m 0 #[.val (.ref r0)] []))
    refine go _ _ (fun t' k' => XS.aloadN X0.here hx rfl (hb hby d5_0) rfl rfl  k') ?_
    show G (s₁.setTop (mkF m 1 #[.val (.ref r0)] [(.ref r0)]))
    obtain ⟨T146, X146, e146, st146⟩ := getF X0 hx hZ hown (host := "") (Or.inl (hw _ (List.mem_of_getElem? (i := 28) rfl))) Via.refl e0 Fp (g := (mkF m 1 #[.val (.ref r0)] [(.ref r0)])) rfl rfl (hb hby d5_1)
    refine go _ _ st146 ?_
    show G (T146.setTop (mkF m 4 #[.val (.ref r0)] [(.int pos)]))
    refine go _ _ (fun t' k' => XS.aloadN X146.here hx rfl (hb hby d5_4) rfl rfl  k') ?_
    show G (T146.setTop (mkF m 5 #[.val (.ref r0)] [(.ref r0), (.int pos)]))
    obtain ⟨T147, X147, e147, st147⟩ := getF X146 hx hZ hown (host := "") (Or.inl (hw _ (List.mem_of_getElem? (i := 21) rfl))) Via.refl e146 Fi (g := (mkF m 5 #[.val (.ref r0)] [(.ref r0), (.int pos)])) rfl rfl (hb hby d5_5)
    refine go _ _ st147 ?_
    show G (T147.setTop (mkF m 8 #[.val (.ref r0)] [(.ref r1), (.int pos)]))
    refine own_arrlen go X147 hx hZ e147 (g := (mkF m 8 #[.val (.ref r0)] [(.ref r1), (.int pos)])) rfl A rfl (hb hby d5_8) ?_
    show G (T147.setTop (mkF m 9 #[.val (.ref r0)] [(.int (ln).toInt32), (.int pos)]))
    refine go _ _ (fun t' k' => XS.icmpYes X147.here hx rfl (pc0 := 9) (pc' := 16) rfl (hb hby d5_9) rfl (Free.XT.ii_ne_t ((not_congr (own_eqlen hpos (by omega))).mpr hq)) (by decide) (by decide) k') ?_
    show G (T147.setTop (mkF m 16 #[.val (.ref r0)] []))
    refine go _ _ (fun t' k' => XS.iconst X147.here hx rfl (hb hby d5_16) k') ?_
    show G (T147.setTop (mkF m 17 #[.val (.ref r0)] [(.int (0 : Int32))]))
    refine own_retZ rt X147 hx (t := .boolean) hret (by simp) (hb hby d5_17) (by decide) (by decide) ?_
    exact ⟨rfl, N0, e147⟩
theorem pn_11 : plainFor (⟨"com/example/brevidns/brevidns/CborReader", "remaining", "()I"⟩ : MethodName) = true := by first | (exact plainFor_of_name (show plainName "com/example/brevidns/brevidns/CborReader" = true by first | (simp [plainName, overriddenIn]; done) | decide +kernel)) | decide +kernel
theorem ef_rm_re (m : MethodId) (x0 : Addr) : entryFrame m #[(.ref x0)] 1 = mkF m 0 #[.val (.ref x0)] [] := by first | (simp [entryFrame, mkF, argsToLocals, Value.category]; done) | rfl
set_option maxRecDepth 65536 in
set_option maxHeartbeats 40000000 in
theorem rm_re (l : Launch) (Z : State) (a0 : Array Value) (hw : ∀ d ∈ tables_1, d.before a0 Z = true) (r0 r1 : Addr) (pos : Int32) (ln : Nat) (f : Nat → Value) (h0 : Heap) (n0 : Nat) (Z0 : n0 ≤ h0.size) (Fi : Fld Z h0 r0 "com/example/brevidns/brevidns/CborReader" "input" "[B" (.ref r1)) (Fp : Fld Z h0 r0 "com/example/brevidns/brevidns/CborReader" "position" "I" (.int pos)) (A : Ary Z h0 r1 .byte ln f) :
    Con l Z (⟨"com/example/brevidns/brevidns/CborReader", "remaining", "()I"⟩ : MethodName) prog_3_method_21_code 1 (some .int) ({ frames := 0, cells := 0, slots := 0, locals := 0 } : Room) #[(.ref r0)] h0 (fun v h L => v = some (.int (ln.toInt32 - pos)) ∧ Fr n0 L ∧ h = h0) := by
  refine own_body pn_11 ?_
  intro p e s m below meth c s₁ hx hby hml hown hnm hret hZ e0 X0 G go rt
  have N0 := Fr.nil n0
  rw [ef_rm_re m r0]
  show G (s₁.setTop (mkF m 0 #[.val (.ref r0)] []))
  refine go _ _ (fun t' k' => XS.aloadN X0.here hx rfl (hb hby d11_0) rfl rfl  k') ?_
  show G (s₁.setTop (mkF m 1 #[.val (.ref r0)] [(.ref r0)]))
  obtain ⟨T148, X148, e148, st148⟩ := getF X0 hx hZ hown (host := "") (Or.inl (hw _ (List.mem_of_getElem? (i := 21) rfl))) Via.refl e0 Fi (g := (mkF m 1 #[.val (.ref r0)] [(.ref r0)])) rfl rfl (hb hby d11_1)
  refine go _ _ st148 ?_
  show G (T148.setTop (mkF m 4 #[.val (.ref r0)] [(.ref r1)]))
  refine own_arrlen go X148 hx hZ e148 (g := (mkF m 4 #[.val (.ref r0)] [(.ref r1)])) rfl A rfl (hb hby d11_4) ?_
  show G (T148.setTop (mkF m 5 #[.val (.ref r0)] [(.int (ln).toInt32)]))
  refine go _ _ (fun t' k' => XS.aloadN X148.here hx rfl (hb hby d11_5) rfl rfl  k') ?_
  show G (T148.setTop (mkF m 6 #[.val (.ref r0)] [(.ref r0), (.int (ln).toInt32)]))
  obtain ⟨T149, X149, e149, st149⟩ := getF X148 hx hZ hown (host := "") (Or.inl (hw _ (List.mem_of_getElem? (i := 28) rfl))) Via.refl e148 Fp (g := (mkF m 6 #[.val (.ref r0)] [(.ref r0), (.int (ln).toInt32)])) rfl rfl (hb hby d11_6)
  refine go _ _ st149 ?_
  show G (T149.setTop (mkF m 9 #[.val (.ref r0)] [(.int pos), (.int (ln).toInt32)]))
  refine go _ _ (fun t' k' => XS.isub X149.here hx rfl (hb hby d11_9) rfl k') ?_
  show G (T149.setTop (mkF m 10 #[.val (.ref r0)] [(.int ((ln).toInt32 - pos))]))
  refine own_retI rt X149 hx hret (hb hby d11_10) (by decide) (by decide) ?_
  exact ⟨rfl, N0, e149⟩
theorem pn_10 : plainFor (⟨"com/example/brevidns/brevidns/CborReader", "checkInsideContainer", "()V"⟩ : MethodName) = true := by first | (exact plainFor_of_name (show plainName "com/example/brevidns/brevidns/CborReader" = true by first | (simp [plainName, overriddenIn]; done) | decide +kernel)) | decide +kernel
theorem ef_rm_ch (m : MethodId) (x0 : Addr) : entryFrame m #[(.ref x0)] 1 = mkF m 0 #[.val (.ref x0)] [] := by first | (simp [entryFrame, mkF, argsToLocals, Value.category]; done) | rfl
set_option maxRecDepth 65536 in
set_option maxHeartbeats 40000000 in
theorem rm_ch (l : Launch) (Z : State) (a0 : Array Value) (hw : ∀ d ∈ tables_1, d.before a0 Z = true) (r0 : Addr) (h0 : Heap) (n0 : Nat) (Z0 : n0 ≤ h0.size) (Fd : Fld Z h0 r0 "com/example/brevidns/brevidns/CborReader" "depth" "I" (.int (0 : Int32))) :
    Con l Z (⟨"com/example/brevidns/brevidns/CborReader", "checkInsideContainer", "()V"⟩ : MethodName) prog_3_method_22_code 1 none ({ frames := 0, cells := 0, slots := 0, locals := 0 } : Room) #[(.ref r0)] h0 (fun v h L => v = none ∧ Fr n0 L ∧ h = h0) := by
  refine own_body pn_10 ?_
  intro p e s m below meth c s₁ hx hby hml hown hnm hret hZ e0 X0 G go rt
  have N0 := Fr.nil n0
  rw [ef_rm_ch m r0]
  show G (s₁.setTop (mkF m 0 #[.val (.ref r0)] []))
  refine go _ _ (fun t' k' => XS.aloadN X0.here hx rfl (hb hby d10_0) rfl rfl  k') ?_
  show G (s₁.setTop (mkF m 1 #[.val (.ref r0)] [(.ref r0)]))
  obtain ⟨T150, X150, e150, st150⟩ := getF X0 hx hZ hown (host := "") (Or.inl (hw _ (List.mem_of_getElem? (i := 55) rfl))) Via.refl e0 Fd (g := (mkF m 1 #[.val (.ref r0)] [(.ref r0)])) rfl rfl (hb hby d10_1)
  refine go _ _ st150 ?_
  show G (T150.setTop (mkF m 4 #[.val (.ref r0)] [(.int (0 : Int32))]))
  refine go _ _ (fun t' k' => XS.ifYes X150.here hx rfl (pc0 := 4) (pc' := 38) rfl (hb hby d10_4) rfl (Free.XT.i0_le_t (by decide)) (by decide) (by decide) k') ?_
  show G (T150.setTop (mkF m 38 #[.val (.ref r0)] []))
  refine own_retV rt X150 hx hret (hb hby d10_38) (by decide) (by decide) ?_
  exact ⟨rfl, N0, e150⟩
theorem pn_9 : plainFor (⟨"com/example/brevidns/brevidns/CborReader", "peek", "()Lcom/example/brevidns/brevidns/CborReader$Kind;"⟩ : MethodName) = true := by first | (exact plainFor_of_name (show plainName "com/example/brevidns/brevidns/CborReader" = true by first | (simp [plainName, overriddenIn]; done) | decide +kernel)) | decide +kernel
theorem ef_rm_pk (m : MethodId) (x0 : Addr) : entryFrame m #[(.ref x0)] 4 = mkF m 0 #[.val (.ref x0), .unset, .unset, .unset] [] := by first | (simp [entryFrame, mkF, argsToLocals, Value.category]; done) | rfl
set_option maxRecDepth 65536 in
set_option maxHeartbeats 40000000 in
theorem rm_pk (l : Launch) (Z : State) (a0 : Array Value) (hw : ∀ d ∈ tables_1, d.before a0 Z = true) (r0 r1 il ru : Addr) (pos : Int32) (pn ln w : Nat) (g : Nat → Int32) (h0 : Heap) (n0 : Nat) (Z0 : n0 ≤ h0.size) (Cr : CR Z h0 r0 r1 il pos) (A : Ary Z h0 r1 .byte ln (fun i => .int (g i))) (n10 : r1 ≠ r0) (hpos : pos.toInt = pn) (hl5 : ln ≤ 5) (hd : Head g pn w) (hpw : pn + w ≤ ln) (Su : Sta Z h0 "com/example/brevidns/brevidns/CborReader$Kind" "UNSIGNED_INTEGER" "Lcom/example/brevidns/brevidns/CborReader$Kind;" (.ref ru)) :
    Con l Z (⟨"com/example/brevidns/brevidns/CborReader", "peek", "()Lcom/example/brevidns/brevidns/CborReader$Kind;"⟩ : MethodName) prog_3_method_4_code 4 (some (.object "com/example/brevidns/brevidns/CborReader$Kind")) ({ frames := 1, cells := 0, slots := 0, locals := 12 } : Room) #[(.ref r0)] h0 (fun v h L => v = some (.ref ru) ∧ Fr n0 L ∧ h = h0) := by
  refine own_body pn_9 ?_
  intro p e s m below meth c s₁ hx hby hml hown hnm hret hZ e0 X0 G go rt
  have N0 := Fr.nil n0
  rw [ef_rm_pk m r0]
  have hw12 : w = 1 ∨ w = 2 := hd.elim (fun z => Or.inl z.1) (fun z => Or.inr z.1)
  obtain ⟨B151E, B151i, B151p, B151l, B151d⟩ := Cr
  obtain ⟨x1, x2, x3⟩ := own_x25 hd.rng.1 hd.rng.2
  show G (s₁.setTop (mkF m 0 #[.val (.ref r0), .unset, .unset, .unset] []))
  refine go _ _ (fun t' k' => XS.aloadN X0.here hx rfl (hb hby d9_0) rfl rfl  k') ?_
  show G (s₁.setTop (mkF m 1 #[.val (.ref r0), .unset, .unset, .unset] [(.ref r0)]))
  refine own_private go X0 hx hZ e0 hown (hw _ (List.mem_of_getElem? (i := 51) rfl)) (hw _ (List.mem_of_getElem? (i := 52) rfl)) (hw _ (List.mem_of_getElem? (i := 26) rfl)) rfl (hw _ (List.mem_of_getElem? (i := 53) rfl)) (hw _ (List.mem_of_getElem? (i := 11) rfl)) (hw _ (List.mem_of_getElem? (i := 54) rfl)) (by decide) (rm_ch l Z a0 hw r0 h0 n0 Z0 B151d) 0 (by decide) (by decide) (by decide) (by decide) B151E (g := (mkF m 1 #[.val (.ref r0), .unset, .unset, .unset] [(.ref r0)])) rfl (by rw [hml]; rfl) [] [] rfl (lenOf pd_0 rfl) rfl (by show 2 * 0 + _ ≤ _; exact Nat.le_of_eq rfl) (hb hby d9_1) ?_
  intro T152 L152 v152 X152 q152
  obtain ⟨rfl, N152, hh152⟩ := q152
  obtain ⟨lc152, X152h, N152h⟩ := own_hide X152 (Fr.app N0 N152)
  show G (T152.setTop (mkF m 4 #[.val (.ref r0), .unset, .unset, .unset] []))
  refine go _ _ (fun t' k' => XS.aloadN X152h.here hx rfl (hb hby d9_4) rfl rfl  k') ?_
  show G (T152.setTop (mkF m 5 #[.val (.ref r0), .unset, .unset, .unset] [(.ref r0)]))
  refine own_virtual go X152h hx hZ hh152 hown (hw _ (List.mem_of_getElem? (i := 57) rfl)) (hw _ (List.mem_of_getElem? (i := 24) rfl)) (notFace_of_selects (args := #[]) (mvT hZ (hw _ (List.mem_of_getElem? (i := 26) rfl)))) (hw _ (List.mem_of_getElem? (i := 26) rfl)) (hw _ (List.mem_of_getElem? (i := 25) rfl)) (hw _ (List.mem_of_getElem? (i := 11) rfl)) (hw _ (List.mem_of_getElem? (i := 27) rfl)) (by decide) (rm_ae l Z a0 hw r0 r1 pos 0 pn ln _ h0 n0 Z0 B151i B151p A hpos hl5 (Or.inr ⟨rfl, by omega⟩)) 0 (by decide) (by decide) (by decide) (by decide) B151E (g := (mkF m 5 #[.val (.ref r0), .unset, .unset, .unset] [(.ref r0)])) rfl (by rw [hml]; rfl) [] [] rfl (lenOf pd_1 rfl) rfl (by show 2 * 0 + _ ≤ _; exact Nat.le_of_eq rfl) (hb hby d9_5) ?_
  intro T153 L153 v153 X153 q153
  obtain ⟨rfl, N153, hh153⟩ := q153
  obtain ⟨lc153, X153h, N153h⟩ := own_hide X153 (Fr.app N152h N153)
  show G (T153.setTop (mkF m 8 #[.val (.ref r0), .unset, .unset, .unset] [(.int (0 : Int32))]))
  refine go _ _ (fun t' k' => XS.ifYes X153h.here hx rfl (pc0 := 8) (pc' := 21) rfl (hb hby d9_8) rfl (Free.XT.i0_eq_t (by decide)) (by decide) (by decide) k') ?_
  show G (T153.setTop (mkF m 21 #[.val (.ref r0), .unset, .unset, .unset] []))
  refine go _ _ (fun t' k' => XS.aloadN X153h.here hx rfl (hb hby d9_21) rfl rfl  k') ?_
  show G (T153.setTop (mkF m 22 #[.val (.ref r0), .unset, .unset, .unset] [(.ref r0)]))
  obtain ⟨T154, X154, e154, st154⟩ := getF X153h hx hZ hown (host := "") (Or.inl (hw _ (List.mem_of_getElem? (i := 21) rfl))) Via.refl hh153 B151i (g := (mkF m 22 #[.val (.ref r0), .unset, .unset, .unset] [(.ref r0)])) rfl rfl (hb hby d9_22)
  refine go _ _ st154 ?_
  show G (T154.setTop (mkF m 25 #[.val (.ref r0), .unset, .unset, .unset] [(.ref r1)]))
  refine go _ _ (fun t' k' => XS.aloadN X154.here hx rfl (hb hby d9_25) rfl rfl  k') ?_
  show G (T154.setTop (mkF m 26 #[.val (.ref r0), .unset, .unset, .unset] [(.ref r0), (.ref r1)]))
  obtain ⟨T155, X155, e155, st155⟩ := getF X154 hx hZ hown (host := "") (Or.inl (hw _ (List.mem_of_getElem? (i := 28) rfl))) Via.refl e154 B151p (g := (mkF m 26 #[.val (.ref r0), .unset, .unset, .unset] [(.ref r0), (.ref r1)])) rfl rfl (hb hby d9_26)
  refine go _ _ st155 ?_
  show G (T155.setTop (mkF m 29 #[.val (.ref r0), .unset, .unset, .unset] [(.int pos), (.ref r1)]))
  refine own_baload go X155 hx hZ e155 pn hpos (by omega) (g := (mkF m 29 #[.val (.ref r0), .unset, .unset, .unset] [(.int pos), (.ref r1)])) rfl A rfl (hb hby d9_29) ?_
  show G (T155.setTop (mkF m 30 #[.val (.ref r0), .unset, .unset, .unset] [(.int (g pn))]))
  refine go _ _ (fun t' k' => XS.sipush X155.here hx rfl (hb hby d9_30) k') ?_
  show G (T155.setTop (mkF m 33 #[.val (.ref r0), .unset, .unset, .unset] [(.int (255 : Int32)), (.int (g pn))]))
  refine go _ _ (fun t' k' => XS.iand X155.here hx rfl (hb hby d9_33) rfl k') ?_
  show G (T155.setTop (mkF m 34 #[.val (.ref r0), .unset, .unset, .unset] [(.int ((g pn) &&& (255 : Int32)))]))
  rw [x1]
  show G (T155.setTop (mkF m 34 #[.val (.ref r0), .unset, .unset, .unset] [(.int (g pn))]))
  refine go _ _ (fun t' k' => XS.istoreN X155.here hx rfl (hb hby d9_34) rfl (l' := #[.val (.ref r0), .val (.int (g pn)), .unset, .unset]) rfl k') ?_
  show G (T155.setTop (mkF m 35 #[.val (.ref r0), .val (.int (g pn)), .unset, .unset] []))
  refine go _ _ (fun t' k' => XS.iloadN X155.here hx rfl (hb hby d9_35) rfl  k') ?_
  show G (T155.setTop (mkF m 36 #[.val (.ref r0), .val (.int (g pn)), .unset, .unset] [(.int (g pn))]))
  refine go _ _ (fun t' k' => XS.bipush X155.here hx rfl (hb hby d9_36) k') ?_
  show G (T155.setTop (mkF m 38 #[.val (.ref r0), .val (.int (g pn)), .unset, .unset] [(.int (31 : Int32)), (.int (g pn))]))
  refine go _ _ (fun t' k' => XS.iand X155.here hx rfl (hb hby d9_38) rfl k') ?_
  show G (T155.setTop (mkF m 39 #[.val (.ref r0), .val (.int (g pn)), .unset, .unset] [(.int ((g pn) &&& (31 : Int32)))]))
  rw [x2]
  show G (T155.setTop (mkF m 39 #[.val (.ref r0), .val (.int (g pn)), .unset, .unset] [(.int (g pn))]))
  refine go _ _ (fun t' k' => XS.istoreN X155.here hx rfl (hb hby d9_39) rfl (l' := #[.val (.ref r0), .val (.int (g pn)), .val (.int (g pn)), .unset]) rfl k') ?_
  show G (T155.setTop (mkF m 40 #[.val (.ref r0), .val (.int (g pn)), .val (.int (g pn)), .unset] []))
  refine go _ _ (fun t' k' => XS.iloadN X155.here hx rfl (hb hby d9_40) rfl  k') ?_
  show G (T155.setTop (mkF m 41 #[.val (.ref r0), .val (.int (g pn)), .val (.int (g pn)), .unset] [(.int (g pn))]))
  refine go _ _ (fun t' k' => XS.bipush X155.here hx rfl (hb hby d9_41) k') ?_
  show G (T155.setTop (mkF m 43 #[.val (.ref r0), .val (.int (g pn)), .val (.int (g pn)), .unset] [(.int (31 : Int32)), (.int (g pn))]))
  refine go _ _ (fun t' k' => XS.icmpYes X155.here hx rfl (pc0 := 43) (pc' := 63) rfl (hb hby d9_43) rfl (Free.XT.ii_ne_t (fun z => absurd (z ▸ hd.rng.2) (by decide))) (by decide) (by decide) k') ?_
  show G (T155.setTop (mkF m 63 #[.val (.ref r0), .val (.int (g pn)), .val (.int (g pn)), .unset] []))
  refine go _ _ (fun t' k' => XS.iloadN X155.here hx rfl (hb hby d9_63) rfl  k') ?_
  show G (T155.setTop (mkF m 64 #[.val (.ref r0), .val (.int (g pn)), .val (.int (g pn)), .unset] [(.int (g pn))]))
  refine go _ _ (fun t' k' => XS.bipush X155.here hx rfl (hb hby d9_64) k') ?_
  show G (T155.setTop (mkF m 66 #[.val (.ref r0), .val (.int (g pn)), .val (.int (g pn)), .unset] [(.int (27 : Int32)), (.int (g pn))]))
  refine go _ _ (fun t' k' => XS.icmpYes X155.here hx rfl (pc0 := 66) (pc' := 90) rfl (hb hby d9_66) rfl (Free.XT.ii_le_t (fun z => absurd (Int32.lt_iff_toInt_lt.mp z) (by have := hd.rng.2; have e : (27 : Int32).toInt = 27 := rfl; omega))) (by decide) (by decide) k') ?_
  show G (T155.setTop (mkF m 90 #[.val (.ref r0), .val (.int (g pn)), .val (.int (g pn)), .unset] []))
  refine go _ _ (fun t' k' => XS.iloadN X155.here hx rfl (hb hby d9_90) rfl  k') ?_
  show G (T155.setTop (mkF m 91 #[.val (.ref r0), .val (.int (g pn)), .val (.int (g pn)), .unset] [(.int (g pn))]))
  refine go _ _ (fun t' k' => XS.iconst X155.here hx rfl (hb hby d9_91) k') ?_
  show G (T155.setTop (mkF m 92 #[.val (.ref r0), .val (.int (g pn)), .val (.int (g pn)), .unset] [(.int (5 : Int32)), (.int (g pn))]))
  refine go _ _ (fun t' k' => XS.iushr X155.here hx rfl (hb hby d9_92) rfl k') ?_
  show G (T155.setTop (mkF m 93 #[.val (.ref r0), .val (.int (g pn)), .val (.int (g pn)), .unset] [(.int (((g pn).toUInt32 >>> ((5 : Int32) &&& 31).toUInt32).toInt32))]))
  rw [x3]
  show G (T155.setTop (mkF m 93 #[.val (.ref r0), .val (.int (g pn)), .val (.int (g pn)), .unset] [(.int (0 : Int32))]))
  refine go _ _ (fun t' k' => XS.tswIn X155.here hx rfl (pc0 := 93) (pc' := 136) rfl (hb hby d9_93) rfl (by decide) (o := 43) (by decide) (by decide) (by decide) k') ?_
  show G (T155.setTop (mkF m 136 #[.val (.ref r0), .val (.int (g pn)), .val (.int (g pn)), .unset] []))
  obtain ⟨T156, X156, e156, st156⟩ := getS X155 hx hZ hown (host := "") (hw _ (List.mem_of_getElem? (i := 39) rfl)) Via.refl e155 Su (g := (mkF m 136 #[.val (.ref r0), .val (.int (g pn)), .val (.int (g pn)), .unset] [])) rfl (hb hby d9_136)
  refine go _ _ st156 ?_
  show G (T156.setTop (mkF m 139 #[.val (.ref r0), .val (.int (g pn)), .val (.int (g pn)), .unset] [(.ref ru)]))
  refine go _ _ (fun t' k' => XS.astoreN X156.here hx rfl (hb hby d9_139) rfl rfl (l' := #[.val (.ref r0), .val (.int (g pn)), .val (.int (g pn)), .val (.ref ru)]) rfl k') ?_
  show G (T156.setTop (mkF m 140 #[.val (.ref r0), .val (.int (g pn)), .val (.int (g pn)), .val (.ref ru)] []))
  refine go _ _ (fun t' k' => XS.goto X156.here hx rfl (pc0 := 140) (pc' := 221) rfl (hb hby d9_140) (by decide) (by decide) k') ?_
  show G (T156.setTop (mkF m 221 #[.val (.ref r0), .val (.int (g pn)), .val (.int (g pn)), .val (.ref ru)] []))
  refine go _ _ (fun t' k' => XS.aloadN X156.here hx rfl (hb hby d9_221) rfl rfl  k') ?_
  show G (T156.setTop (mkF m 222 #[.val (.ref r0), .val (.int (g pn)), .val (.int (g pn)), .val (.ref ru)] [(.ref ru)]))
  refine own_retA rt X156 hx hret rfl rfl (hb hby d9_222) (by decide) (by decide) ?_
  exact ⟨rfl, N153h, e156⟩
theorem pn_8 : plainFor (⟨"com/example/brevidns/brevidns/CborReader", "readHead", "(Lcom/example/brevidns/brevidns/CborReader$Kind;)J"⟩ : MethodName) = true := by first | (exact plainFor_of_name (show plainName "com/example/brevidns/brevidns/CborReader" = true by first | (simp [plainName, overriddenIn]; done) | decide +kernel)) | decide +kernel
theorem ef_rm_rh (m : MethodId) (x0 : Addr) (x1 : Addr) : entryFrame m #[(.ref x0), (.ref x1)] 8 = mkF m 0 #[.val (.ref x0), .val (.ref x1), .unset, .unset, .unset, .unset, .unset, .unset] [] := by first | (simp [entryFrame, mkF, argsToLocals, Value.category]; done) | rfl
set_option maxRecDepth 65536 in
set_option maxHeartbeats 40000000 in
theorem rm_rh (l : Launch) (Z : State) (a0 : Array Value) (hw : ∀ d ∈ tables_1, d.before a0 Z = true) (r0 r1 il ru : Addr) (pos : Int32) (pn ln w : Nat) (g : Nat → Int32) (h0 : Heap) (n0 : Nat) (Z0 : n0 ≤ h0.size) (g_r0 : n0 ≤ r0) (Cr : CR Z h0 r0 r1 il pos) (A : Ary Z h0 r1 .byte ln (fun i => .int (g i))) (n10 : r1 ≠ r0) (hpos : pos.toInt = pn) (hl5 : ln ≤ 5) (hd : Head g pn w) (hpw : pn + w ≤ ln) (Su : Sta Z h0 "com/example/brevidns/brevidns/CborReader$Kind" "UNSIGNED_INTEGER" "Lcom/example/brevidns/brevidns/CborReader$Kind;" (.ref ru)) :
    Con l Z (⟨"com/example/brevidns/brevidns/CborReader", "readHead", "(Lcom/example/brevidns/brevidns/CborReader$Kind;)J"⟩ : MethodName) prog_3_method_20_code 8 (some .long) ({ frames := 2, cells := 0, slots := 0, locals := 27 } : Room) #[(.ref r0), (.ref ru)] h0 (fun v h L => (∃ y : Int64, v = some (.long y) ∧ ¬ y < 0) ∧ Fr n0 L ∧ Keep h0 h [r0] ∧ ∃ pos2, CR Z h r0 r1 il pos2 ∧ pos2.toInt = ((pn + w : Nat) : Int)) := by
  refine own_body pn_8 ?_
  intro p e s m below meth c s₁ hx hby hml hown hnm hret hZ e0 X0 G go rt
  have N0 := Fr.nil n0
  rw [ef_rm_rh m r0 ru]
  have hw12 : w = 1 ∨ w = 2 := hd.elim (fun z => Or.inl z.1) (fun z => Or.inr z.1)
  obtain ⟨B157E, B157i, B157p, B157l, B157d⟩ := Cr
  obtain ⟨x1, x2, x3⟩ := own_x25 hd.rng.1 hd.rng.2
  show G (s₁.setTop (mkF m 0 #[.val (.ref r0), .val (.ref ru), .unset, .unset, .unset, .unset, .unset, .unset] []))
  refine go _ _ (fun t' k' => XS.aloadN X0.here hx rfl (hb hby d8_0) rfl rfl  k') ?_
  show G (s₁.setTop (mkF m 1 #[.val (.ref r0), .val (.ref ru), .unset, .unset, .unset, .unset, .unset, .unset] [(.ref r0)]))
  refine own_virtual go X0 hx hZ e0 hown (hw _ (List.mem_of_getElem? (i := 46) rfl)) (hw _ (List.mem_of_getElem? (i := 47) rfl)) (notFace_of_selects (args := #[]) (mvT hZ (hw _ (List.mem_of_getElem? (i := 49) rfl)))) (hw _ (List.mem_of_getElem? (i := 49) rfl)) (hw _ (List.mem_of_getElem? (i := 48) rfl)) (hw _ (List.mem_of_getElem? (i := 11) rfl)) (hw _ (List.mem_of_getElem? (i := 50) rfl)) (by decide) (rm_pk l Z a0 hw r0 r1 il ru pos pn ln w g h0 n0 Z0 ⟨B157E, B157i, B157p, B157l, B157d⟩ A n10 hpos hl5 hd hpw Su) 0 (by decide) (by decide) (by decide) (by decide) B157E (g := (mkF m 1 #[.val (.ref r0), .val (.ref ru), .unset, .unset, .unset, .unset, .unset, .unset] [(.ref r0)])) rfl (by rw [hml]; rfl) [] [] rfl (lenOf pd_2 rfl) rfl (by show 2 * 0 + _ ≤ _; exact Nat.le_of_eq rfl) (hb hby d8_1) ?_
  intro T158 L158 v158 X158 q158
  obtain ⟨rfl, N158, hh158⟩ := q158
  obtain ⟨lc158, X158h, N158h⟩ := own_hide X158 (Fr.app N0 N158)
  show G (T158.setTop (mkF m 4 #[.val (.ref r0), .val (.ref ru), .unset, .unset, .unset, .unset, .unset, .unset] [(.ref ru)]))
  refine go _ _ (fun t' k' => XS.astoreN X158h.here hx rfl (hb hby d8_4) rfl rfl (l' := #[.val (.ref r0), .val (.ref ru), .val (.ref ru), .unset, .unset, .unset, .unset, .unset]) rfl k') ?_
  show G (T158.setTop (mkF m 5 #[.val (.ref r0), .val (.ref ru), .val (.ref ru), .unset, .unset, .unset, .unset, .unset] []))
  refine go _ _ (fun t' k' => XS.aloadN X158h.here hx rfl (hb hby d8_5) rfl rfl  k') ?_
  show G (T158.setTop (mkF m 6 #[.val (.ref r0), .val (.ref ru), .val (.ref ru), .unset, .unset, .unset, .unset, .unset] [(.ref ru)]))
  refine go _ _ (fun t' k' => XS.aloadN X158h.here hx rfl (hb hby d8_6) rfl rfl  k') ?_
  show G (T158.setTop (mkF m 7 #[.val (.ref r0), .val (.ref ru), .val (.ref ru), .unset, .unset, .unset, .unset, .unset] [(.ref ru), (.ref ru)]))
  refine go _ _ (fun t' k' => Jvm.RoadKit.acmp (g := (mkF m 7 #[.val (.ref r0), .val (.ref ru), .val (.ref ru), .unset, .unset, .unset, .unset, .unset] [(.ref ru), (.ref ru)])) X158h hx rfl (x := (.ref ru)) (y := (.ref ru)) rfl rfl (rest := []) (pc0 := 7) (pc' := 35) (same := true) rfl (hb hby d8_7) rfl (decide_eq_true rfl) (by decide) (by decide) k') ?_
  show G (T158.setTop (mkF m 35 #[.val (.ref r0), .val (.ref ru), .val (.ref ru), .unset, .unset, .unset, .unset, .unset] []))
  refine go _ _ (fun t' k' => XS.aloadN X158h.here hx rfl (hb hby d8_35) rfl rfl  k') ?_
  show G (T158.setTop (mkF m 36 #[.val (.ref r0), .val (.ref ru), .val (.ref ru), .unset, .unset, .unset, .unset, .unset] [(.ref r0)]))
  obtain ⟨T159, X159, e159, st159⟩ := getF X158h hx hZ hown (host := "") (Or.inl (hw _ (List.mem_of_getElem? (i := 21) rfl))) Via.refl hh158 B157i (g := (mkF m 36 #[.val (.ref r0), .val (.ref ru), .val (.ref ru), .unset, .unset, .unset, .unset, .unset] [(.ref r0)])) rfl rfl (hb hby d8_36)
  refine go _ _ st159 ?_
  show G (T159.setTop (mkF m 39 #[.val (.ref r0), .val (.ref ru), .val (.ref ru), .unset, .unset, .unset, .unset, .unset] [(.ref r1)]))
  refine go _ _ (fun t' k' => XS.aloadN X159.here hx rfl (hb hby d8_39) rfl rfl  k') ?_
  show G (T159.setTop (mkF m 40 #[.val (.ref r0), .val (.ref ru), .val (.ref ru), .unset, .unset, .unset, .unset, .unset] [(.ref r0), (.ref r1)]))
  obtain ⟨T160, X160, e160, st160⟩ := getF X159 hx hZ hown (host := "") (Or.inl (hw _ (List.mem_of_getElem? (i := 28) rfl))) Via.refl e159 B157p (g := (mkF m 40 #[.val (.ref r0), .val (.ref ru), .val (.ref ru), .unset, .unset, .unset, .unset, .unset] [(.ref r0), (.ref r1)])) rfl rfl (hb hby d8_40)
  refine go _ _ st160 ?_
  show G (T160.setTop (mkF m 43 #[.val (.ref r0), .val (.ref ru), .val (.ref ru), .unset, .unset, .unset, .unset, .unset] [(.int pos), (.ref r1)]))
  refine own_baload go X160 hx hZ e160 pn hpos (by omega) (g := (mkF m 43 #[.val (.ref r0), .val (.ref ru), .val (.ref ru), .unset, .unset, .unset, .unset, .unset] [(.int pos), (.ref r1)])) rfl A rfl (hb hby d8_43) ?_
  show G (T160.setTop (mkF m 44 #[.val (.ref r0), .val (.ref ru), .val (.ref ru), .unset, .unset, .unset, .unset, .unset] [(.int (g pn))]))
  refine go _ _ (fun t' k' => XS.bipush X160.here hx rfl (hb hby d8_44) k') ?_
  show G (T160.setTop (mkF m 46 #[.val (.ref r0), .val (.ref ru), .val (.ref ru), .unset, .unset, .unset, .unset, .unset] [(.int (31 : Int32)), (.int (g pn))]))
  refine go _ _ (fun t' k' => XS.iand X160.here hx rfl (hb hby d8_46) rfl k') ?_
  show G (T160.setTop (mkF m 47 #[.val (.ref r0), .val (.ref ru), .val (.ref ru), .unset, .unset, .unset, .unset, .unset] [(.int ((g pn) &&& (31 : Int32)))]))
  rw [x2]
  show G (T160.setTop (mkF m 47 #[.val (.ref r0), .val (.ref ru), .val (.ref ru), .unset, .unset, .unset, .unset, .unset] [(.int (g pn))]))
  rcases hd with ⟨rfl, d1, d2⟩ | ⟨rfl, d1⟩
  · show G (T160.setTop (mkF m 47 #[.val (.ref r0), .val (.ref ru), .val (.ref ru), .unset, .unset, .unset, .unset, .unset] [(.int (g pn))]))
    refine go _ _ (fun t' k' => XS.istoreN X160.here hx rfl (hb hby d8_47) rfl (l' := #[.val (.ref r0), .val (.ref ru), .val (.ref ru), .val (.int (g pn)), .unset, .unset, .unset, .unset]) rfl k') ?_
    show G (T160.setTop (mkF m 48 #[.val (.ref r0), .val (.ref ru), .val (.ref ru), .val (.int (g pn)), .unset, .unset, .unset, .unset] []))
    refine go _ _ (fun t' k' => XS.iloadN X160.here hx rfl (hb hby d8_48) rfl  k') ?_
    show G (T160.setTop (mkF m 49 #[.val (.ref r0), .val (.ref ru), .val (.ref ru), .val (.int (g pn)), .unset, .unset, .unset, .unset] [(.int (g pn))]))
    refine go _ _ (fun t' k' => XS.bipush X160.here hx rfl (hb hby d8_49) k') ?_
    show G (T160.setTop (mkF m 51 #[.val (.ref r0), .val (.ref ru), .val (.ref ru), .val (.int (g pn)), .unset, .unset, .unset, .unset] [(.int (23 : Int32)), (.int (g pn))]))
    refine go _ _ (fun t' k' => XS.icmpNo X160.here hx rfl (hb hby d8_51) rfl (Free.XT.ii_gt_f (fun z => absurd (Int32.lt_iff_toInt_lt.mp z) (by have e : (23 : Int32).toInt = 23 := rfl; omega))) k') ?_
    show G (T160.setTop (mkF m 54 #[.val (.ref r0), .val (.ref ru), .val (.ref ru), .val (.int (g pn)), .unset, .unset, .unset, .unset] []))
    refine go _ _ (fun t' k' => XS.iconst X160.here hx rfl (hb hby d8_54) k') ?_
    show G (T160.setTop (mkF m 55 #[.val (.ref r0), .val (.ref ru), .val (.ref ru), .val (.int (g pn)), .unset, .unset, .unset, .unset] [(.int (0 : Int32))]))
    refine go _ _ (fun t' k' => XS.istore X160.here hx rfl (hb hby d8_55) rfl (l' := #[.val (.ref r0), .val (.ref ru), .val (.ref ru), .val (.int (g pn)), .val (.int (0 : Int32)), .unset, .unset, .unset]) rfl k') ?_
    show G (T160.setTop (mkF m 57 #[.val (.ref r0), .val (.ref ru), .val (.ref ru), .val (.int (g pn)), .val (.int (0 : Int32)), .unset, .unset, .unset] []))
    refine go _ _ (fun t' k' => XS.goto X160.here hx rfl (pc0 := 57) (pc' := 68) rfl (hb hby d8_57) (by decide) (by decide) k') ?_
    show G (T160.setTop (mkF m 68 #[.val (.ref r0), .val (.ref ru), .val (.ref ru), .val (.int (g pn)), .val (.int (0 : Int32)), .unset, .unset, .unset] []))
    refine go _ _ (fun t' k' => XS.iload X160.here hx rfl (hb hby d8_68) rfl  k') ?_
    show G (T160.setTop (mkF m 70 #[.val (.ref r0), .val (.ref ru), .val (.ref ru), .val (.int (g pn)), .val (.int (0 : Int32)), .unset, .unset, .unset] [(.int (0 : Int32))]))
    refine go _ _ (fun t' k' => XS.aloadN X160.here hx rfl (hb hby d8_70) rfl rfl  k') ?_
    show G (T160.setTop (mkF m 71 #[.val (.ref r0), .val (.ref ru), .val (.ref ru), .val (.int (g pn)), .val (.int (0 : Int32)), .unset, .unset, .unset] [(.ref r0), (.int (0 : Int32))]))
    refine own_private go X160 hx hZ e160 hown (hw _ (List.mem_of_getElem? (i := 58) rfl)) (hw _ (List.mem_of_getElem? (i := 59) rfl)) (hw _ (List.mem_of_getElem? (i := 26) rfl)) rfl (hw _ (List.mem_of_getElem? (i := 60) rfl)) (hw _ (List.mem_of_getElem? (i := 11) rfl)) (hw _ (List.mem_of_getElem? (i := 61) rfl)) (by decide) (rm_re l Z a0 hw r0 r1 pos ln _ h0 n0 Z0 B157i B157p A) 1 (by decide) (by decide) (by decide) (by decide) B157E (g := (mkF m 71 #[.val (.ref r0), .val (.ref ru), .val (.ref ru), .val (.int (g pn)), .val (.int (0 : Int32)), .unset, .unset, .unset] [(.ref r0), (.int (0 : Int32))])) rfl (by rw [hml]; rfl) [] [(.int (0 : Int32))] rfl (lenOf pd_3 rfl) rfl (by show 2 * 0 + _ ≤ _; exact Nat.le_of_eq rfl) (hb hby d8_71) ?_
    intro T161 L161 v161 X161 q161
    obtain ⟨rfl, N161, hh161⟩ := q161
    obtain ⟨lc161, X161h, N161h⟩ := own_hide X161 (Fr.app N158h N161)
    show G (T161.setTop (mkF m 74 #[.val (.ref r0), .val (.ref ru), .val (.ref ru), .val (.int (g pn)), .val (.int (0 : Int32)), .unset, .unset, .unset] [(.int (ln.toInt32 - pos)), (.int (0 : Int32))]))
    refine go _ _ (fun t' k' => XS.icmpYes X161h.here hx rfl (pc0 := 74) (pc' := 94) rfl (hb hby d8_74) rfl (Free.XT.ii_lt_t (own_rem_ge 0 (kk := 0) rfl hpos (by omega) (by omega))) (by decide) (by decide) k') ?_
    show G (T161.setTop (mkF m 94 #[.val (.ref r0), .val (.ref ru), .val (.ref ru), .val (.int (g pn)), .val (.int (0 : Int32)), .unset, .unset, .unset] []))
    refine go _ _ (fun t' k' => XS.iload X161h.here hx rfl (hb hby d8_94) rfl  k') ?_
    show G (T161.setTop (mkF m 96 #[.val (.ref r0), .val (.ref ru), .val (.ref ru), .val (.int (g pn)), .val (.int (0 : Int32)), .unset, .unset, .unset] [(.int (0 : Int32))]))
    refine go _ _ (fun t' k' => XS.ifNo X161h.here hx rfl (hb hby d8_96) rfl (Free.XT.i0_ne_f (by decide)) k') ?_
    show G (T161.setTop (mkF m 99 #[.val (.ref r0), .val (.ref ru), .val (.ref ru), .val (.int (g pn)), .val (.int (0 : Int32)), .unset, .unset, .unset] []))
    refine go _ _ (fun t' k' => XS.iloadN X161h.here hx rfl (hb hby d8_99) rfl  k') ?_
    show G (T161.setTop (mkF m 100 #[.val (.ref r0), .val (.ref ru), .val (.ref ru), .val (.int (g pn)), .val (.int (0 : Int32)), .unset, .unset, .unset] [(.int (g pn))]))
    refine go _ _ (fun t' k' => XS.i2l X161h.here hx rfl (hb hby d8_100) rfl k') ?_
    show G (T161.setTop (mkF m 101 #[.val (.ref r0), .val (.ref ru), .val (.ref ru), .val (.int (g pn)), .val (.int (0 : Int32)), .unset, .unset, .unset] [(.long ((g pn).toInt64))]))
    refine go _ _ (fun t' k' => XS.lstore X161h.here hx rfl (hb hby d8_101) rfl (l' := #[.val (.ref r0), .val (.ref ru), .val (.ref ru), .val (.int (g pn)), .val (.int (0 : Int32)), .val (.long ((g pn).toInt64)), .second, .unset]) rfl k') ?_
    show G (T161.setTop (mkF m 103 #[.val (.ref r0), .val (.ref ru), .val (.ref ru), .val (.int (g pn)), .val (.int (0 : Int32)), .val (.long ((g pn).toInt64)), .second, .unset] []))
    refine go _ _ (fun t' k' => XS.goto X161h.here hx rfl (pc0 := 103) (pc' := 150) rfl (hb hby d8_103) (by decide) (by decide) k') ?_
    show G (T161.setTop (mkF m 150 #[.val (.ref r0), .val (.ref ru), .val (.ref ru), .val (.int (g pn)), .val (.int (0 : Int32)), .val (.long ((g pn).toInt64)), .second, .unset] []))
    refine go _ _ (fun t' k' => XS.aloadN X161h.here hx rfl (hb hby d8_150) rfl rfl  k') ?_
    show G (T161.setTop (mkF m 151 #[.val (.ref r0), .val (.ref ru), .val (.ref ru), .val (.int (g pn)), .val (.int (0 : Int32)), .val (.long ((g pn).toInt64)), .second, .unset] [(.ref r0)]))
    refine go _ _ (fun t' k' => XS.dup X161h.here hx rfl (hb hby d8_151) rfl rfl k') ?_
    show G (T161.setTop (mkF m 152 #[.val (.ref r0), .val (.ref ru), .val (.ref ru), .val (.int (g pn)), .val (.int (0 : Int32)), .val (.long ((g pn).toInt64)), .second, .unset] [(.ref r0), (.ref r0)]))
    obtain ⟨T162, X162, e162, st162⟩ := getF X161h hx hZ hown (host := "") (Or.inl (hw _ (List.mem_of_getElem? (i := 28) rfl))) Via.refl hh161 B157p (g := (mkF m 152 #[.val (.ref r0), .val (.ref ru), .val (.ref ru), .val (.int (g pn)), .val (.int (0 : Int32)), .val (.long ((g pn).toInt64)), .second, .unset] [(.ref r0), (.ref r0)])) rfl rfl (hb hby d8_152)
    refine go _ _ st162 ?_
    show G (T162.setTop (mkF m 155 #[.val (.ref r0), .val (.ref ru), .val (.ref ru), .val (.int (g pn)), .val (.int (0 : Int32)), .val (.long ((g pn).toInt64)), .second, .unset] [(.int pos), (.ref r0)]))
    refine go _ _ (fun t' k' => XS.iconst X162.here hx rfl (hb hby d8_155) k') ?_
    show G (T162.setTop (mkF m 156 #[.val (.ref r0), .val (.ref ru), .val (.ref ru), .val (.int (g pn)), .val (.int (0 : Int32)), .val (.long ((g pn).toInt64)), .second, .unset] [(.int (1 : Int32)), (.int pos), (.ref r0)]))
    refine go _ _ (fun t' k' => XS.iload X162.here hx rfl (hb hby d8_156) rfl  k') ?_
    show G (T162.setTop (mkF m 158 #[.val (.ref r0), .val (.ref ru), .val (.ref ru), .val (.int (g pn)), .val (.int (0 : Int32)), .val (.long ((g pn).toInt64)), .second, .unset] [(.int (0 : Int32)), (.int (1 : Int32)), (.int pos), (.ref r0)]))
    refine go _ _ (fun t' k' => XS.iadd X162.here hx rfl (hb hby d8_158) rfl k') ?_
    show G (T162.setTop (mkF m 159 #[.val (.ref r0), .val (.ref ru), .val (.ref ru), .val (.int (g pn)), .val (.int (0 : Int32)), .val (.long ((g pn).toInt64)), .second, .unset] [(.int ((1 : Int32) + (0 : Int32))), (.int pos), (.ref r0)]))
    refine go _ _ (fun t' k' => XS.iadd X162.here hx rfl (hb hby d8_159) rfl k') ?_
    show G (T162.setTop (mkF m 160 #[.val (.ref r0), .val (.ref ru), .val (.ref ru), .val (.int (g pn)), .val (.int (0 : Int32)), .val (.long ((g pn).toInt64)), .second, .unset] [(.int (pos + ((1 : Int32) + (0 : Int32)))), (.ref r0)]))
    obtain ⟨T163, h163, X163, e163, W163, st163⟩ := putF X162 hx hZ hown (host := "") (Or.inl (hw _ (List.mem_of_getElem? (i := 28) rfl))) Via.refl e162 B157p B157E (Or.inl (hw _ (List.mem_of_getElem? (i := 29) rfl))) (hw _ (List.mem_of_getElem? (i := 10) rfl)) (ty := .int) (by decide) rfl rfl (g := (mkF m 160 #[.val (.ref r0), .val (.ref ru), .val (.ref ru), .val (.int (g pn)), .val (.int (0 : Int32)), .val (.long ((g pn).toInt64)), .second, .unset] [(.int (pos + ((1 : Int32) + (0 : Int32)))), (.ref r0)])) rfl rfl (hb hby d8_160)
    have F163 := B157p.same W163
    have K164 : Keep h0 h163 [r0] := (Keep.refl h0 [r0]).wr W163 (Or.inl (List.mem_of_getElem? (i := 0) rfl))
    obtain ⟨lc163, X163h, N163h⟩ := own_hide X163 (Fr.snoc X163 N161h g_r0)
    have Z165 : n0 ≤ h163.size := Nat.le_trans Z0 (Nat.le_of_eq W163.size.symm)
    refine go _ _ st163 ?_
    show G (T163.setTop (mkF m 163 #[.val (.ref r0), .val (.ref ru), .val (.ref ru), .val (.int (g pn)), .val (.int (0 : Int32)), .val (.long ((g pn).toInt64)), .second, .unset] []))
    refine go _ _ (fun t' k' => XS.aloadN X163h.here hx rfl (hb hby d8_163) rfl rfl  k') ?_
    show G (T163.setTop (mkF m 164 #[.val (.ref r0), .val (.ref ru), .val (.ref ru), .val (.int (g pn)), .val (.int (0 : Int32)), .val (.long ((g pn).toInt64)), .second, .unset] [(.ref r0)]))
    have f166 := (B157d.other W163 (Or.inr (slot_ne (Or.inl (hw _ (List.mem_of_getElem? (i := 56) rfl))) (Or.inl (hw _ (List.mem_of_getElem? (i := 29) rfl))) (by decide) (t := .int) (t' := .int) (by decide) (by decide))))
    obtain ⟨T167, X167, e167, st167⟩ := getF X163h hx hZ hown (host := "") (Or.inl (hw _ (List.mem_of_getElem? (i := 55) rfl))) Via.refl e163 f166 (g := (mkF m 164 #[.val (.ref r0), .val (.ref ru), .val (.ref ru), .val (.int (g pn)), .val (.int (0 : Int32)), .val (.long ((g pn).toInt64)), .second, .unset] [(.ref r0)])) rfl rfl (hb hby d8_164)
    refine go _ _ st167 ?_
    show G (T167.setTop (mkF m 167 #[.val (.ref r0), .val (.ref ru), .val (.ref ru), .val (.int (g pn)), .val (.int (0 : Int32)), .val (.long ((g pn).toInt64)), .second, .unset] [(.int (0 : Int32))]))
    refine go _ _ (fun t' k' => XS.ifYes X167.here hx rfl (pc0 := 167) (pc' := 192) rfl (hb hby d8_167) rfl (Free.XT.i0_le_t (by decide)) (by decide) (by decide) k') ?_
    show G (T167.setTop (mkF m 192 #[.val (.ref r0), .val (.ref ru), .val (.ref ru), .val (.int (g pn)), .val (.int (0 : Int32)), .val (.long ((g pn).toInt64)), .second, .unset] []))
    refine go _ _ (fun t' k' => XS.lload X167.here hx rfl (hb hby d8_192) rfl  k') ?_
    show G (T167.setTop (mkF m 194 #[.val (.ref r0), .val (.ref ru), .val (.ref ru), .val (.int (g pn)), .val (.int (0 : Int32)), .val (.long ((g pn).toInt64)), .second, .unset] [(.long ((g pn).toInt64))]))
    refine own_retJ rt X167 hx hret (hb hby d8_194) (by decide) (by decide) ?_
    have f168 := (B157E.wr W163)
    have f169 := (B157i.other W163 (Or.inr (slot_ne (Or.inr (hw _ (List.mem_of_getElem? (i := 22) rfl))) (Or.inl (hw _ (List.mem_of_getElem? (i := 29) rfl))) (by decide) (t := (.array .byte)) (t' := .int) (by decide) (by decide))))
    have f170 := (B157l.other W163 (Or.inr (slot_ne (Or.inl (hw _ (List.mem_of_getElem? (i := 20) rfl))) (Or.inl (hw _ (List.mem_of_getElem? (i := 29) rfl))) (by decide) (t := (.array .int)) (t' := .int) (by decide) (by decide))))
    rw [e167]
    exact ⟨⟨_, rfl, own_ge0 d1⟩, N163h, K164, _, ⟨f168, f169, F163, f170, f166⟩, own_add hpos (by rfl) (by omega)⟩
  · rw [d1]
    show G (T160.setTop (mkF m 47 #[.val (.ref r0), .val (.ref ru), .val (.ref ru), .unset, .unset, .unset, .unset, .unset] [(.int (24 : Int32))]))
    refine go _ _ (fun t' k' => XS.istoreN X160.here hx rfl (hb hby d8_47) rfl (l' := #[.val (.ref r0), .val (.ref ru), .val (.ref ru), .val (.int (24 : Int32)), .unset, .unset, .unset, .unset]) rfl k') ?_
    show G (T160.setTop (mkF m 48 #[.val (.ref r0), .val (.ref ru), .val (.ref ru), .val (.int (24 : Int32)), .unset, .unset, .unset, .unset] []))
    refine go _ _ (fun t' k' => XS.iloadN X160.here hx rfl (hb hby d8_48) rfl  k') ?_
    show G (T160.setTop (mkF m 49 #[.val (.ref r0), .val (.ref ru), .val (.ref ru), .val (.int (24 : Int32)), .unset, .unset, .unset, .unset] [(.int (24 : Int32))]))
    refine go _ _ (fun t' k' => XS.bipush X160.here hx rfl (hb hby d8_49) k') ?_
    show G (T160.setTop (mkF m 51 #[.val (.ref r0), .val (.ref ru), .val (.ref ru), .val (.int (24 : Int32)), .unset, .unset, .unset, .unset] [(.int (23 : Int32)), (.int (24 : Int32))]))
    refine go _ _ (fun t' k' => XS.icmpYes X160.here hx rfl (pc0 := 51) (pc' := 60) rfl (hb hby d8_51) rfl (Free.XT.ii_gt_t (by decide)) (by decide) (by decide) k') ?_
    show G (T160.setTop (mkF m 60 #[.val (.ref r0), .val (.ref ru), .val (.ref ru), .val (.int (24 : Int32)), .unset, .unset, .unset, .unset] []))
    refine go _ _ (fun t' k' => XS.iconst X160.here hx rfl (hb hby d8_60) k') ?_
    show G (T160.setTop (mkF m 61 #[.val (.ref r0), .val (.ref ru), .val (.ref ru), .val (.int (24 : Int32)), .unset, .unset, .unset, .unset] [(.int (1 : Int32))]))
    refine go _ _ (fun t' k' => XS.iloadN X160.here hx rfl (hb hby d8_61) rfl  k') ?_
    show G (T160.setTop (mkF m 62 #[.val (.ref r0), .val (.ref ru), .val (.ref ru), .val (.int (24 : Int32)), .unset, .unset, .unset, .unset] [(.int (24 : Int32)), (.int (1 : Int32))]))
    refine go _ _ (fun t' k' => XS.bipush X160.here hx rfl (hb hby d8_62) k') ?_
    show G (T160.setTop (mkF m 64 #[.val (.ref r0), .val (.ref ru), .val (.ref ru), .val (.int (24 : Int32)), .unset, .unset, .unset, .unset] [(.int (24 : Int32)), (.int (24 : Int32)), (.int (1 : Int32))]))
    refine go _ _ (fun t' k' => XS.isub X160.here hx rfl (hb hby d8_64) rfl k') ?_
    show G (T160.setTop (mkF m 65 #[.val (.ref r0), .val (.ref ru), .val (.ref ru), .val (.int (24 : Int32)), .unset, .unset, .unset, .unset] [(.int ((24 : Int32) - (24 : Int32))), (.int (1 : Int32))]))
    refine go _ _ (fun t' k' => XS.ishl X160.here hx rfl (hb hby d8_65) rfl k') ?_
    show G (T160.setTop (mkF m 66 #[.val (.ref r0), .val (.ref ru), .val (.ref ru), .val (.int (24 : Int32)), .unset, .unset, .unset, .unset] [(.int ((1 : Int32) <<< (((24 : Int32) - (24 : Int32)) &&& 31)))]))
    refine go _ _ (fun t' k' => XS.istore X160.here hx rfl (hb hby d8_66) rfl (l' := #[.val (.ref r0), .val (.ref ru), .val (.ref ru), .val (.int (24 : Int32)), .val (.int ((1 : Int32) <<< (((24 : Int32) - (24 : Int32)) &&& 31))), .unset, .unset, .unset]) rfl k') ?_
    show G (T160.setTop (mkF m 68 #[.val (.ref r0), .val (.ref ru), .val (.ref ru), .val (.int (24 : Int32)), .val (.int ((1 : Int32) <<< (((24 : Int32) - (24 : Int32)) &&& 31))), .unset, .unset, .unset] []))
    show G (T160.setTop (mkF m 68 #[.val (.ref r0), .val (.ref ru), .val (.ref ru), .val (.int (24 : Int32)), .val (.int (1 : Int32)), .unset, .unset, .unset] []))
    refine go _ _ (fun t' k' => XS.iload X160.here hx rfl (hb hby d8_68) rfl  k') ?_
    show G (T160.setTop (mkF m 70 #[.val (.ref r0), .val (.ref ru), .val (.ref ru), .val (.int (24 : Int32)), .val (.int (1 : Int32)), .unset, .unset, .unset] [(.int (1 : Int32))]))
    refine go _ _ (fun t' k' => XS.aloadN X160.here hx rfl (hb hby d8_70) rfl rfl  k') ?_
    show G (T160.setTop (mkF m 71 #[.val (.ref r0), .val (.ref ru), .val (.ref ru), .val (.int (24 : Int32)), .val (.int (1 : Int32)), .unset, .unset, .unset] [(.ref r0), (.int (1 : Int32))]))
    refine own_private go X160 hx hZ e160 hown (hw _ (List.mem_of_getElem? (i := 58) rfl)) (hw _ (List.mem_of_getElem? (i := 59) rfl)) (hw _ (List.mem_of_getElem? (i := 26) rfl)) rfl (hw _ (List.mem_of_getElem? (i := 60) rfl)) (hw _ (List.mem_of_getElem? (i := 11) rfl)) (hw _ (List.mem_of_getElem? (i := 61) rfl)) (by decide) (rm_re l Z a0 hw r0 r1 pos ln _ h0 n0 Z0 B157i B157p A) 1 (by decide) (by decide) (by decide) (by decide) B157E (g := (mkF m 71 #[.val (.ref r0), .val (.ref ru), .val (.ref ru), .val (.int (24 : Int32)), .val (.int (1 : Int32)), .unset, .unset, .unset] [(.ref r0), (.int (1 : Int32))])) rfl (by rw [hml]; rfl) [] [(.int (1 : Int32))] rfl (lenOf pd_3 rfl) rfl (by show 2 * 0 + _ ≤ _; exact Nat.le_of_eq rfl) (hb hby d8_71) ?_
    intro T171 L171 v171 X171 q171
    obtain ⟨rfl, N171, hh171⟩ := q171
    obtain ⟨lc171, X171h, N171h⟩ := own_hide X171 (Fr.app N158h N171)
    show G (T171.setTop (mkF m 74 #[.val (.ref r0), .val (.ref ru), .val (.ref ru), .val (.int (24 : Int32)), .val (.int (1 : Int32)), .unset, .unset, .unset] [(.int (ln.toInt32 - pos)), (.int (1 : Int32))]))
    refine go _ _ (fun t' k' => XS.icmpYes X171h.here hx rfl (pc0 := 74) (pc' := 94) rfl (hb hby d8_74) rfl (Free.XT.ii_lt_t (own_rem_ge 1 (kk := 1) rfl hpos (by omega) (by omega))) (by decide) (by decide) k') ?_
    show G (T171.setTop (mkF m 94 #[.val (.ref r0), .val (.ref ru), .val (.ref ru), .val (.int (24 : Int32)), .val (.int (1 : Int32)), .unset, .unset, .unset] []))
    refine go _ _ (fun t' k' => XS.iload X171h.here hx rfl (hb hby d8_94) rfl  k') ?_
    show G (T171.setTop (mkF m 96 #[.val (.ref r0), .val (.ref ru), .val (.ref ru), .val (.int (24 : Int32)), .val (.int (1 : Int32)), .unset, .unset, .unset] [(.int (1 : Int32))]))
    refine go _ _ (fun t' k' => XS.ifYes X171h.here hx rfl (pc0 := 96) (pc' := 106) rfl (hb hby d8_96) rfl (Free.XT.i0_ne_t (by decide)) (by decide) (by decide) k') ?_
    show G (T171.setTop (mkF m 106 #[.val (.ref r0), .val (.ref ru), .val (.ref ru), .val (.int (24 : Int32)), .val (.int (1 : Int32)), .unset, .unset, .unset] []))
    refine go _ _ (fun t' k' => XS.lconst X171h.here hx rfl (hb hby d8_106) k') ?_
    show G (T171.setTop (mkF m 107 #[.val (.ref r0), .val (.ref ru), .val (.ref ru), .val (.int (24 : Int32)), .val (.int (1 : Int32)), .unset, .unset, .unset] [(.long (0 : Int64))]))
    refine go _ _ (fun t' k' => XS.lstore X171h.here hx rfl (hb hby d8_107) rfl (l' := #[.val (.ref r0), .val (.ref ru), .val (.ref ru), .val (.int (24 : Int32)), .val (.int (1 : Int32)), .val (.long (0 : Int64)), .second, .unset]) rfl k') ?_
    show G (T171.setTop (mkF m 109 #[.val (.ref r0), .val (.ref ru), .val (.ref ru), .val (.int (24 : Int32)), .val (.int (1 : Int32)), .val (.long (0 : Int64)), .second, .unset] []))
    refine go _ _ (fun t' k' => XS.iconst X171h.here hx rfl (hb hby d8_109) k') ?_
    show G (T171.setTop (mkF m 110 #[.val (.ref r0), .val (.ref ru), .val (.ref ru), .val (.int (24 : Int32)), .val (.int (1 : Int32)), .val (.long (0 : Int64)), .second, .unset] [(.int (1 : Int32))]))
    refine go _ _ (fun t' k' => XS.istore X171h.here hx rfl (hb hby d8_110) rfl (l' := #[.val (.ref r0), .val (.ref ru), .val (.ref ru), .val (.int (24 : Int32)), .val (.int (1 : Int32)), .val (.long (0 : Int64)), .second, .val (.int (1 : Int32))]) rfl k') ?_
    show G (T171.setTop (mkF m 112 #[.val (.ref r0), .val (.ref ru), .val (.ref ru), .val (.int (24 : Int32)), .val (.int (1 : Int32)), .val (.long (0 : Int64)), .second, .val (.int (1 : Int32))] []))
    refine go _ _ (fun t' k' => XS.iload X171h.here hx rfl (hb hby d8_112) rfl  k') ?_
    show G (T171.setTop (mkF m 114 #[.val (.ref r0), .val (.ref ru), .val (.ref ru), .val (.int (24 : Int32)), .val (.int (1 : Int32)), .val (.long (0 : Int64)), .second, .val (.int (1 : Int32))] [(.int (1 : Int32))]))
    refine go _ _ (fun t' k' => XS.iload X171h.here hx rfl (hb hby d8_114) rfl  k') ?_
    show G (T171.setTop (mkF m 116 #[.val (.ref r0), .val (.ref ru), .val (.ref ru), .val (.int (24 : Int32)), .val (.int (1 : Int32)), .val (.long (0 : Int64)), .second, .val (.int (1 : Int32))] [(.int (1 : Int32)), (.int (1 : Int32))]))
    refine go _ _ (fun t' k' => XS.icmpNo X171h.here hx rfl (hb hby d8_116) rfl (Free.XT.ii_gt_f (by decide)) k') ?_
    show G (T171.setTop (mkF m 119 #[.val (.ref r0), .val (.ref ru), .val (.ref ru), .val (.int (24 : Int32)), .val (.int (1 : Int32)), .val (.long (0 : Int64)), .second, .val (.int (1 : Int32))] []))
    refine go _ _ (fun t' k' => XS.lload X171h.here hx rfl (hb hby d8_119) rfl  k') ?_
    show G (T171.setTop (mkF m 121 #[.val (.ref r0), .val (.ref ru), .val (.ref ru), .val (.int (24 : Int32)), .val (.int (1 : Int32)), .val (.long (0 : Int64)), .second, .val (.int (1 : Int32))] [(.long (0 : Int64))]))
    refine go _ _ (fun t' k' => XS.bipush X171h.here hx rfl (hb hby d8_121) k') ?_
    show G (T171.setTop (mkF m 123 #[.val (.ref r0), .val (.ref ru), .val (.ref ru), .val (.int (24 : Int32)), .val (.int (1 : Int32)), .val (.long (0 : Int64)), .second, .val (.int (1 : Int32))] [(.int (8 : Int32)), (.long (0 : Int64))]))
    refine go _ _ (fun t' k' => XS.lshl X171h.here hx rfl (hb hby d8_123) rfl k') ?_
    show G (T171.setTop (mkF m 124 #[.val (.ref r0), .val (.ref ru), .val (.ref ru), .val (.int (24 : Int32)), .val (.int (1 : Int32)), .val (.long (0 : Int64)), .second, .val (.int (1 : Int32))] [(.long ((0 : Int64) <<< ((8 : Int32) &&& 0x3f).toInt64))]))
    refine go _ _ (fun t' k' => XS.aloadN X171h.here hx rfl (hb hby d8_124) rfl rfl  k') ?_
    show G (T171.setTop (mkF m 125 #[.val (.ref r0), .val (.ref ru), .val (.ref ru), .val (.int (24 : Int32)), .val (.int (1 : Int32)), .val (.long (0 : Int64)), .second, .val (.int (1 : Int32))] [(.ref r0), (.long ((0 : Int64) <<< ((8 : Int32) &&& 0x3f).toInt64))]))
    obtain ⟨T172, X172, e172, st172⟩ := getF X171h hx hZ hown (host := "") (Or.inl (hw _ (List.mem_of_getElem? (i := 21) rfl))) Via.refl hh171 B157i (g := (mkF m 125 #[.val (.ref r0), .val (.ref ru), .val (.ref ru), .val (.int (24 : Int32)), .val (.int (1 : Int32)), .val (.long (0 : Int64)), .second, .val (.int (1 : Int32))] [(.ref r0), (.long ((0 : Int64) <<< ((8 : Int32) &&& 0x3f).toInt64))])) rfl rfl (hb hby d8_125)
    refine go _ _ st172 ?_
    show G (T172.setTop (mkF m 128 #[.val (.ref r0), .val (.ref ru), .val (.ref ru), .val (.int (24 : Int32)), .val (.int (1 : Int32)), .val (.long (0 : Int64)), .second, .val (.int (1 : Int32))] [(.ref r1), (.long ((0 : Int64) <<< ((8 : Int32) &&& 0x3f).toInt64))]))
    refine go _ _ (fun t' k' => XS.aloadN X172.here hx rfl (hb hby d8_128) rfl rfl  k') ?_
    show G (T172.setTop (mkF m 129 #[.val (.ref r0), .val (.ref ru), .val (.ref ru), .val (.int (24 : Int32)), .val (.int (1 : Int32)), .val (.long (0 : Int64)), .second, .val (.int (1 : Int32))] [(.ref r0), (.ref r1), (.long ((0 : Int64) <<< ((8 : Int32) &&& 0x3f).toInt64))]))
    obtain ⟨T173, X173, e173, st173⟩ := getF X172 hx hZ hown (host := "") (Or.inl (hw _ (List.mem_of_getElem? (i := 28) rfl))) Via.refl e172 B157p (g := (mkF m 129 #[.val (.ref r0), .val (.ref ru), .val (.ref ru), .val (.int (24 : Int32)), .val (.int (1 : Int32)), .val (.long (0 : Int64)), .second, .val (.int (1 : Int32))] [(.ref r0), (.ref r1), (.long ((0 : Int64) <<< ((8 : Int32) &&& 0x3f).toInt64))])) rfl rfl (hb hby d8_129)
    refine go _ _ st173 ?_
    show G (T173.setTop (mkF m 132 #[.val (.ref r0), .val (.ref ru), .val (.ref ru), .val (.int (24 : Int32)), .val (.int (1 : Int32)), .val (.long (0 : Int64)), .second, .val (.int (1 : Int32))] [(.int pos), (.ref r1), (.long ((0 : Int64) <<< ((8 : Int32) &&& 0x3f).toInt64))]))
    refine go _ _ (fun t' k' => XS.iload X173.here hx rfl (hb hby d8_132) rfl  k') ?_
    show G (T173.setTop (mkF m 134 #[.val (.ref r0), .val (.ref ru), .val (.ref ru), .val (.int (24 : Int32)), .val (.int (1 : Int32)), .val (.long (0 : Int64)), .second, .val (.int (1 : Int32))] [(.int (1 : Int32)), (.int pos), (.ref r1), (.long ((0 : Int64) <<< ((8 : Int32) &&& 0x3f).toInt64))]))
    refine go _ _ (fun t' k' => XS.iadd X173.here hx rfl (hb hby d8_134) rfl k') ?_
    show G (T173.setTop (mkF m 135 #[.val (.ref r0), .val (.ref ru), .val (.ref ru), .val (.int (24 : Int32)), .val (.int (1 : Int32)), .val (.long (0 : Int64)), .second, .val (.int (1 : Int32))] [(.int (pos + (1 : Int32))), (.ref r1), (.long ((0 : Int64) <<< ((8 : Int32) &&& 0x3f).toInt64))]))
    refine own_baload go X173 hx hZ e173 (pn + 1) (own_add hpos (by rfl) (by omega)) (by omega) (g := (mkF m 135 #[.val (.ref r0), .val (.ref ru), .val (.ref ru), .val (.int (24 : Int32)), .val (.int (1 : Int32)), .val (.long (0 : Int64)), .second, .val (.int (1 : Int32))] [(.int (pos + (1 : Int32))), (.ref r1), (.long ((0 : Int64) <<< ((8 : Int32) &&& 0x3f).toInt64))])) rfl A rfl (hb hby d8_135) ?_
    show G (T173.setTop (mkF m 136 #[.val (.ref r0), .val (.ref ru), .val (.ref ru), .val (.int (24 : Int32)), .val (.int (1 : Int32)), .val (.long (0 : Int64)), .second, .val (.int (1 : Int32))] [(.int (g (pn + 1))), (.long ((0 : Int64) <<< ((8 : Int32) &&& 0x3f).toInt64))]))
    refine go _ _ (fun t' k' => XS.sipush X173.here hx rfl (hb hby d8_136) k') ?_
    show G (T173.setTop (mkF m 139 #[.val (.ref r0), .val (.ref ru), .val (.ref ru), .val (.int (24 : Int32)), .val (.int (1 : Int32)), .val (.long (0 : Int64)), .second, .val (.int (1 : Int32))] [(.int (255 : Int32)), (.int (g (pn + 1))), (.long ((0 : Int64) <<< ((8 : Int32) &&& 0x3f).toInt64))]))
    refine go _ _ (fun t' k' => XS.iand X173.here hx rfl (hb hby d8_139) rfl k') ?_
    show G (T173.setTop (mkF m 140 #[.val (.ref r0), .val (.ref ru), .val (.ref ru), .val (.int (24 : Int32)), .val (.int (1 : Int32)), .val (.long (0 : Int64)), .second, .val (.int (1 : Int32))] [(.int ((g (pn + 1)) &&& (255 : Int32))), (.long ((0 : Int64) <<< ((8 : Int32) &&& 0x3f).toInt64))]))
    refine go _ _ (fun t' k' => XS.i2l X173.here hx rfl (hb hby d8_140) rfl k') ?_
    show G (T173.setTop (mkF m 141 #[.val (.ref r0), .val (.ref ru), .val (.ref ru), .val (.int (24 : Int32)), .val (.int (1 : Int32)), .val (.long (0 : Int64)), .second, .val (.int (1 : Int32))] [(.long (((g (pn + 1)) &&& (255 : Int32)).toInt64)), (.long ((0 : Int64) <<< ((8 : Int32) &&& 0x3f).toInt64))]))
    refine go _ _ (fun t' k' => XS.lor X173.here hx rfl (hb hby d8_141) rfl k') ?_
    show G (T173.setTop (mkF m 142 #[.val (.ref r0), .val (.ref ru), .val (.ref ru), .val (.int (24 : Int32)), .val (.int (1 : Int32)), .val (.long (0 : Int64)), .second, .val (.int (1 : Int32))] [(.long (((0 : Int64) <<< ((8 : Int32) &&& 0x3f).toInt64) ||| (((g (pn + 1)) &&& (255 : Int32)).toInt64)))]))
    refine go _ _ (fun t' k' => XS.lstore X173.here hx rfl (hb hby d8_142) rfl (l' := #[.val (.ref r0), .val (.ref ru), .val (.ref ru), .val (.int (24 : Int32)), .val (.int (1 : Int32)), .val (.long (((0 : Int64) <<< ((8 : Int32) &&& 0x3f).toInt64) ||| (((g (pn + 1)) &&& (255 : Int32)).toInt64))), .second, .val (.int (1 : Int32))]) rfl k') ?_
    show G (T173.setTop (mkF m 144 #[.val (.ref r0), .val (.ref ru), .val (.ref ru), .val (.int (24 : Int32)), .val (.int (1 : Int32)), .val (.long (((0 : Int64) <<< ((8 : Int32) &&& 0x3f).toInt64) ||| (((g (pn + 1)) &&& (255 : Int32)).toInt64))), .second, .val (.int (1 : Int32))] []))
    obtain ⟨ar, har⟩ : ∃ z, z = (((0 : Int64) <<< ((8 : Int32) &&& 0x3f).toInt64) ||| (((g (pn + 1)) &&& (255 : Int32)).toInt64)) := ⟨_, rfl⟩
    rw [← har]
    show G (T173.setTop (mkF m 144 #[.val (.ref r0), .val (.ref ru), .val (.ref ru), .val (.int (24 : Int32)), .val (.int (1 : Int32)), .val (.long ar), .second, .val (.int (1 : Int32))] []))
    refine go _ _ (fun t' k' => XS.iinc X173.here hx rfl (hb hby d8_144) rfl (l' := #[.val (.ref r0), .val (.ref ru), .val (.ref ru), .val (.int (24 : Int32)), .val (.int (1 : Int32)), .val (.long ar), .second, .val (.int ((1 : Int32) + (1 : Int32)))]) rfl k') ?_
    show G (T173.setTop (mkF m 147 #[.val (.ref r0), .val (.ref ru), .val (.ref ru), .val (.int (24 : Int32)), .val (.int (1 : Int32)), .val (.long ar), .second, .val (.int ((1 : Int32) + (1 : Int32)))] []))
    refine go _ _ (fun t' k' => XS.goto X173.here hx rfl (pc0 := 147) (pc' := 112) rfl (hb hby d8_147) (by decide) (by decide) k') ?_
    show G (T173.setTop (mkF m 112 #[.val (.ref r0), .val (.ref ru), .val (.ref ru), .val (.int (24 : Int32)), .val (.int (1 : Int32)), .val (.long ar), .second, .val (.int ((1 : Int32) + (1 : Int32)))] []))
    show G (T173.setTop (mkF m 112 #[.val (.ref r0), .val (.ref ru), .val (.ref ru), .val (.int (24 : Int32)), .val (.int (1 : Int32)), .val (.long ar), .second, .val (.int (2 : Int32))] []))
    refine go _ _ (fun t' k' => XS.iload X173.here hx rfl (hb hby d8_112) rfl  k') ?_
    show G (T173.setTop (mkF m 114 #[.val (.ref r0), .val (.ref ru), .val (.ref ru), .val (.int (24 : Int32)), .val (.int (1 : Int32)), .val (.long ar), .second, .val (.int (2 : Int32))] [(.int (2 : Int32))]))
    refine go _ _ (fun t' k' => XS.iload X173.here hx rfl (hb hby d8_114) rfl  k') ?_
    show G (T173.setTop (mkF m 116 #[.val (.ref r0), .val (.ref ru), .val (.ref ru), .val (.int (24 : Int32)), .val (.int (1 : Int32)), .val (.long ar), .second, .val (.int (2 : Int32))] [(.int (1 : Int32)), (.int (2 : Int32))]))
    refine go _ _ (fun t' k' => XS.icmpYes X173.here hx rfl (pc0 := 116) (pc' := 150) rfl (hb hby d8_116) rfl (Free.XT.ii_gt_t (by decide)) (by decide) (by decide) k') ?_
    show G (T173.setTop (mkF m 150 #[.val (.ref r0), .val (.ref ru), .val (.ref ru), .val (.int (24 : Int32)), .val (.int (1 : Int32)), .val (.long ar), .second, .val (.int (2 : Int32))] []))
    refine go _ _ (fun t' k' => XS.aloadN X173.here hx rfl (hb hby d8_150) rfl rfl  k') ?_
    show G (T173.setTop (mkF m 151 #[.val (.ref r0), .val (.ref ru), .val (.ref ru), .val (.int (24 : Int32)), .val (.int (1 : Int32)), .val (.long ar), .second, .val (.int (2 : Int32))] [(.ref r0)]))
    refine go _ _ (fun t' k' => XS.dup X173.here hx rfl (hb hby d8_151) rfl rfl k') ?_
    show G (T173.setTop (mkF m 152 #[.val (.ref r0), .val (.ref ru), .val (.ref ru), .val (.int (24 : Int32)), .val (.int (1 : Int32)), .val (.long ar), .second, .val (.int (2 : Int32))] [(.ref r0), (.ref r0)]))
    obtain ⟨T174, X174, e174, st174⟩ := getF X173 hx hZ hown (host := "") (Or.inl (hw _ (List.mem_of_getElem? (i := 28) rfl))) Via.refl e173 B157p (g := (mkF m 152 #[.val (.ref r0), .val (.ref ru), .val (.ref ru), .val (.int (24 : Int32)), .val (.int (1 : Int32)), .val (.long ar), .second, .val (.int (2 : Int32))] [(.ref r0), (.ref r0)])) rfl rfl (hb hby d8_152)
    refine go _ _ st174 ?_
    show G (T174.setTop (mkF m 155 #[.val (.ref r0), .val (.ref ru), .val (.ref ru), .val (.int (24 : Int32)), .val (.int (1 : Int32)), .val (.long ar), .second, .val (.int (2 : Int32))] [(.int pos), (.ref r0)]))
    refine go _ _ (fun t' k' => XS.iconst X174.here hx rfl (hb hby d8_155) k') ?_
    show G (T174.setTop (mkF m 156 #[.val (.ref r0), .val (.ref ru), .val (.ref ru), .val (.int (24 : Int32)), .val (.int (1 : Int32)), .val (.long ar), .second, .val (.int (2 : Int32))] [(.int (1 : Int32)), (.int pos), (.ref r0)]))
    refine go _ _ (fun t' k' => XS.iload X174.here hx rfl (hb hby d8_156) rfl  k') ?_
    show G (T174.setTop (mkF m 158 #[.val (.ref r0), .val (.ref ru), .val (.ref ru), .val (.int (24 : Int32)), .val (.int (1 : Int32)), .val (.long ar), .second, .val (.int (2 : Int32))] [(.int (1 : Int32)), (.int (1 : Int32)), (.int pos), (.ref r0)]))
    refine go _ _ (fun t' k' => XS.iadd X174.here hx rfl (hb hby d8_158) rfl k') ?_
    show G (T174.setTop (mkF m 159 #[.val (.ref r0), .val (.ref ru), .val (.ref ru), .val (.int (24 : Int32)), .val (.int (1 : Int32)), .val (.long ar), .second, .val (.int (2 : Int32))] [(.int ((1 : Int32) + (1 : Int32))), (.int pos), (.ref r0)]))
    refine go _ _ (fun t' k' => XS.iadd X174.here hx rfl (hb hby d8_159) rfl k') ?_
    show G (T174.setTop (mkF m 160 #[.val (.ref r0), .val (.ref ru), .val (.ref ru), .val (.int (24 : Int32)), .val (.int (1 : Int32)), .val (.long ar), .second, .val (.int (2 : Int32))] [(.int (pos + ((1 : Int32) + (1 : Int32)))), (.ref r0)]))
    obtain ⟨T175, h175, X175, e175, W175, st175⟩ := putF X174 hx hZ hown (host := "") (Or.inl (hw _ (List.mem_of_getElem? (i := 28) rfl))) Via.refl e174 B157p B157E (Or.inl (hw _ (List.mem_of_getElem? (i := 29) rfl))) (hw _ (List.mem_of_getElem? (i := 10) rfl)) (ty := .int) (by decide) rfl rfl (g := (mkF m 160 #[.val (.ref r0), .val (.ref ru), .val (.ref ru), .val (.int (24 : Int32)), .val (.int (1 : Int32)), .val (.long ar), .second, .val (.int (2 : Int32))] [(.int (pos + ((1 : Int32) + (1 : Int32)))), (.ref r0)])) rfl rfl (hb hby d8_160)
    have F175 := B157p.same W175
    have K176 : Keep h0 h175 [r0] := (Keep.refl h0 [r0]).wr W175 (Or.inl (List.mem_of_getElem? (i := 0) rfl))
    obtain ⟨lc175, X175h, N175h⟩ := own_hide X175 (Fr.snoc X175 N171h g_r0)
    have Z177 : n0 ≤ h175.size := Nat.le_trans Z0 (Nat.le_of_eq W175.size.symm)
    refine go _ _ st175 ?_
    show G (T175.setTop (mkF m 163 #[.val (.ref r0), .val (.ref ru), .val (.ref ru), .val (.int (24 : Int32)), .val (.int (1 : Int32)), .val (.long ar), .second, .val (.int (2 : Int32))] []))
    refine go _ _ (fun t' k' => XS.aloadN X175h.here hx rfl (hb hby d8_163) rfl rfl  k') ?_
    show G (T175.setTop (mkF m 164 #[.val (.ref r0), .val (.ref ru), .val (.ref ru), .val (.int (24 : Int32)), .val (.int (1 : Int32)), .val (.long ar), .second, .val (.int (2 : Int32))] [(.ref r0)]))
    have f178 := (B157d.other W175 (Or.inr (slot_ne (Or.inl (hw _ (List.mem_of_getElem? (i := 56) rfl))) (Or.inl (hw _ (List.mem_of_getElem? (i := 29) rfl))) (by decide) (t := .int) (t' := .int) (by decide) (by decide))))
    obtain ⟨T179, X179, e179, st179⟩ := getF X175h hx hZ hown (host := "") (Or.inl (hw _ (List.mem_of_getElem? (i := 55) rfl))) Via.refl e175 f178 (g := (mkF m 164 #[.val (.ref r0), .val (.ref ru), .val (.ref ru), .val (.int (24 : Int32)), .val (.int (1 : Int32)), .val (.long ar), .second, .val (.int (2 : Int32))] [(.ref r0)])) rfl rfl (hb hby d8_164)
    refine go _ _ st179 ?_
    show G (T179.setTop (mkF m 167 #[.val (.ref r0), .val (.ref ru), .val (.ref ru), .val (.int (24 : Int32)), .val (.int (1 : Int32)), .val (.long ar), .second, .val (.int (2 : Int32))] [(.int (0 : Int32))]))
    refine go _ _ (fun t' k' => XS.ifYes X179.here hx rfl (pc0 := 167) (pc' := 192) rfl (hb hby d8_167) rfl (Free.XT.i0_le_t (by decide)) (by decide) (by decide) k') ?_
    show G (T179.setTop (mkF m 192 #[.val (.ref r0), .val (.ref ru), .val (.ref ru), .val (.int (24 : Int32)), .val (.int (1 : Int32)), .val (.long ar), .second, .val (.int (2 : Int32))] []))
    refine go _ _ (fun t' k' => XS.lload X179.here hx rfl (hb hby d8_192) rfl  k') ?_
    show G (T179.setTop (mkF m 194 #[.val (.ref r0), .val (.ref ru), .val (.ref ru), .val (.int (24 : Int32)), .val (.int (1 : Int32)), .val (.long ar), .second, .val (.int (2 : Int32))] [(.long ar)]))
    refine own_retJ rt X179 hx hret (hb hby d8_194) (by decide) (by decide) ?_
    have f180 := (B157E.wr W175)
    have f181 := (B157i.other W175 (Or.inr (slot_ne (Or.inr (hw _ (List.mem_of_getElem? (i := 22) rfl))) (Or.inl (hw _ (List.mem_of_getElem? (i := 29) rfl))) (by decide) (t := (.array .byte)) (t' := .int) (by decide) (by decide))))
    have f182 := (B157l.other W175 (Or.inr (slot_ne (Or.inl (hw _ (List.mem_of_getElem? (i := 20) rfl))) (Or.inl (hw _ (List.mem_of_getElem? (i := 29) rfl))) (by decide) (t := (.array .int)) (t' := .int) (by decide) (by decide))))
    rw [e179]
    exact ⟨⟨_, rfl, own_ge1 har⟩, N175h, K176, _, ⟨f180, f181, F175, f182, f178⟩, own_add hpos (by rfl) (by omega)⟩
theorem pn_7 : plainFor (⟨"com/example/brevidns/brevidns/CborReader", "readUnsigned", "()J"⟩ : MethodName) = true := by first | (exact plainFor_of_name (show plainName "com/example/brevidns/brevidns/CborReader" = true by first | (simp [plainName, overriddenIn]; done) | decide +kernel)) | decide +kernel
theorem ef_rm_ru (m : MethodId) (x0 : Addr) : entryFrame m #[(.ref x0)] 4 = mkF m 0 #[.val (.ref x0), .unset, .unset, .unset] [] := by first | (simp [entryFrame, mkF, argsToLocals, Value.category]; done) | rfl
set_option maxRecDepth 65536 in
set_option maxHeartbeats 40000000 in
theorem rm_ru (l : Launch) (Z : State) (a0 : Array Value) (hw : ∀ d ∈ tables_1, d.before a0 Z = true) (r0 r1 il ru : Addr) (pos : Int32) (pn ln w : Nat) (g : Nat → Int32) (h0 : Heap) (n0 : Nat) (Z0 : n0 ≤ h0.size) (g_r0 : n0 ≤ r0) (Cr : CR Z h0 r0 r1 il pos) (A : Ary Z h0 r1 .byte ln (fun i => .int (g i))) (n10 : r1 ≠ r0) (hpos : pos.toInt = pn) (hl5 : ln ≤ 5) (hd : Head g pn w) (hpw : pn + w ≤ ln) (Su : Sta Z h0 "com/example/brevidns/brevidns/CborReader$Kind" "UNSIGNED_INTEGER" "Lcom/example/brevidns/brevidns/CborReader$Kind;" (.ref ru)) :
    Con l Z (⟨"com/example/brevidns/brevidns/CborReader", "readUnsigned", "()J"⟩ : MethodName) prog_3_method_12_code 4 (some .long) ({ frames := 3, cells := 0, slots := 0, locals := 46 } : Room) #[(.ref r0)] h0 (fun v h L => (∃ y : Int64, v = some (.long y)) ∧ Fr n0 L ∧ Keep h0 h [r0] ∧ ∃ pos2, CR Z h r0 r1 il pos2 ∧ pos2.toInt = ((pn + w : Nat) : Int)) := by
  refine own_body pn_7 ?_
  intro p e s m below meth c s₁ hx hby hml hown hnm hret hZ e0 X0 G go rt
  have N0 := Fr.nil n0
  rw [ef_rm_ru m r0]
  have hw12 : w = 1 ∨ w = 2 := hd.elim (fun z => Or.inl z.1) (fun z => Or.inr z.1)
  obtain ⟨B183E, B183i, B183p, B183l, B183d⟩ := Cr
  show G (s₁.setTop (mkF m 0 #[.val (.ref r0), .unset, .unset, .unset] []))
  refine go _ _ (fun t' k' => XS.aloadN X0.here hx rfl (hb hby d7_0) rfl rfl  k') ?_
  show G (s₁.setTop (mkF m 1 #[.val (.ref r0), .unset, .unset, .unset] [(.ref r0)]))
  obtain ⟨T184, X184, e184, st184⟩ := getF X0 hx hZ hown (host := "") (Or.inl (hw _ (List.mem_of_getElem? (i := 28) rfl))) Via.refl e0 B183p (g := (mkF m 1 #[.val (.ref r0), .unset, .unset, .unset] [(.ref r0)])) rfl rfl (hb hby d7_1)
  refine go _ _ st184 ?_
  show G (T184.setTop (mkF m 4 #[.val (.ref r0), .unset, .unset, .unset] [(.int pos)]))
  refine go _ _ (fun t' k' => XS.istoreN X184.here hx rfl (hb hby d7_4) rfl (l' := #[.val (.ref r0), .val (.int pos), .unset, .unset]) rfl k') ?_
  show G (T184.setTop (mkF m 5 #[.val (.ref r0), .val (.int pos), .unset, .unset] []))
  refine go _ _ (fun t' k' => XS.aloadN X184.here hx rfl (hb hby d7_5) rfl rfl  k') ?_
  show G (T184.setTop (mkF m 6 #[.val (.ref r0), .val (.int pos), .unset, .unset] [(.ref r0)]))
  obtain ⟨T185, X185, e185, st185⟩ := getS X184 hx hZ hown (host := "") (hw _ (List.mem_of_getElem? (i := 39) rfl)) Via.refl e184 Su (g := (mkF m 6 #[.val (.ref r0), .val (.int pos), .unset, .unset] [(.ref r0)])) rfl (hb hby d7_6)
  refine go _ _ st185 ?_
  show G (T185.setTop (mkF m 9 #[.val (.ref r0), .val (.int pos), .unset, .unset] [(.ref ru), (.ref r0)]))
  refine own_private go X185 hx hZ e185 hown (hw _ (List.mem_of_getElem? (i := 42) rfl)) (hw _ (List.mem_of_getElem? (i := 43) rfl)) (hw _ (List.mem_of_getElem? (i := 26) rfl)) rfl (hw _ (List.mem_of_getElem? (i := 44) rfl)) (hw _ (List.mem_of_getElem? (i := 11) rfl)) (hw _ (List.mem_of_getElem? (i := 45) rfl)) (by decide) (rm_rh l Z a0 hw r0 r1 il ru pos pn ln w g h0 n0 Z0 g_r0 ⟨B183E, B183i, B183p, B183l, B183d⟩ A n10 hpos hl5 hd hpw Su) 0 (by decide) (by decide) (by decide) (by decide) B183E (g := (mkF m 9 #[.val (.ref r0), .val (.int pos), .unset, .unset] [(.ref ru), (.ref r0)])) rfl (by rw [hml]; rfl) [(.ref ru)] [] rfl (lenOf pd_4 rfl) rfl (by show 2 * 0 + _ ≤ _; exact Nat.le_of_eq rfl) (hb hby d7_9) ?_
  intro T186 L186 v186 X186 q186
  obtain ⟨⟨y186, rfl, hy186⟩, N186, K186, pos2, Cr2, hp2⟩ := q186
  have ns187 : ∀ w ∈ [r0], ∃ c : Cell, h0[w]? = some c ∧ c.vm.isStatics = false := (allS (own_exa_ns B183E) all0)
  obtain ⟨lc186, X186h, N186h⟩ := own_hide X186 (Fr.app N0 N186)
  have K188 : Keep h0 T186.heap [r0] := (Keep.refl h0 [r0]).trans K186 (allS (Or.inl (List.mem_of_getElem? (i := 0) rfl)) all0)
  have Z189 : n0 ≤ T186.heap.size := Nat.le_trans Z0 K186.1
  show G (T186.setTop (mkF m 12 #[.val (.ref r0), .val (.int pos), .unset, .unset] [(.long y186)]))
  refine go _ _ (fun t' k' => XS.lstoreN X186h.here hx rfl (hb hby d7_12) rfl (l' := #[.val (.ref r0), .val (.int pos), .val (.long y186), .second]) rfl k') ?_
  show G (T186.setTop (mkF m 13 #[.val (.ref r0), .val (.int pos), .val (.long y186), .second] []))
  refine go _ _ (fun t' k' => XS.lloadN X186h.here hx rfl (hb hby d7_13) rfl  k') ?_
  show G (T186.setTop (mkF m 14 #[.val (.ref r0), .val (.int pos), .val (.long y186), .second] [(.long y186)]))
  refine go _ _ (fun t' k' => XS.lconst X186h.here hx rfl (hb hby d7_14) k') ?_
  show G (T186.setTop (mkF m 15 #[.val (.ref r0), .val (.int pos), .val (.long y186), .second] [(.long (0 : Int64)), (.long y186)]))
  refine go _ _ (fun t' k' => Free.XT.lcmp X186h.here hx rfl (hb hby d7_15) rfl k') ?_
  show G (T186.setTop (mkF m 16 #[.val (.ref r0), .val (.int pos), .val (.long y186), .second] [(.int (Free.XT.cmpL y186 (0 : Int64)))]))
  refine go _ _ (fun t' k' => XS.ifYes X186h.here hx rfl (pc0 := 16) (pc' := 37) rfl (hb hby d7_16) rfl (Free.XT.ll_ge_t hy186) (by decide) (by decide) k') ?_
  show G (T186.setTop (mkF m 37 #[.val (.ref r0), .val (.int pos), .val (.long y186), .second] []))
  refine go _ _ (fun t' k' => XS.lloadN X186h.here hx rfl (hb hby d7_37) rfl  k') ?_
  show G (T186.setTop (mkF m 38 #[.val (.ref r0), .val (.int pos), .val (.long y186), .second] [(.long y186)]))
  refine own_retJ rt X186h hx hret (hb hby d7_38) (by decide) (by decide) ?_
  exact ⟨⟨_, rfl⟩, N186h, K188, pos2, Cr2, hp2⟩
theorem pn_6 : plainFor (⟨"com/example/brevidns/brevidns/CborReaderAtEndPinLaw", "put", "([BIZI)I"⟩ : MethodName) = true := by first | (exact plainFor_of_name (show plainName "com/example/brevidns/brevidns/CborReaderAtEndPinLaw" = true by first | (simp [plainName, overriddenIn]; done) | decide +kernel)) | decide +kernel
theorem ef_rm_pu (m : MethodId) (x0 : Addr) (x1 : Int32) (x2 : Int32) (x3 : Int32) : entryFrame m #[(.ref x0), (.int x1), (.int x2), (.int x3)] 4 = mkF m 0 #[.val (.ref x0), .val (.int x1), .val (.int x2), .val (.int x3)] [] := by first | (simp [entryFrame, mkF, argsToLocals, Value.category]; done) | rfl
set_option maxRecDepth 65536 in
set_option maxHeartbeats 40000000 in
theorem rm_pu (l : Launch) (Z : State) (a0 : Array Value) (hw : ∀ d ∈ tables_1, d.before a0 Z = true) (r0 : Addr) (u1 u2 u3 : Int32) (pn ln w : Nat) (g : Nat → Int32) (h0 : Heap) (n0 : Nat) (Z0 : n0 ≤ h0.size) (g_r0 : n0 ≤ r0) (A : Ary Z h0 r0 .byte ln (fun i => .int (g i))) (hpos : u1.toInt = pn) (hl5 : ln ≤ 5) (hlw : (u2 = 0 ∧ w = 1) ∨ (¬ u2 = 0 ∧ w = 2)) (hpw : pn + w ≤ ln) :
    Con l Z (⟨"com/example/brevidns/brevidns/CborReaderAtEndPinLaw", "put", "([BIZI)I"⟩ : MethodName) method_3_code 4 (some .int) ({ frames := 0, cells := 0, slots := 0, locals := 0 } : Room) #[(.ref r0), (.int u1), (.int u2), (.int u3)] h0 (fun v h L => (∃ y : Int32, v = some (.int y) ∧ y.toInt = ((pn + w : Nat) : Int)) ∧ Fr n0 L ∧ Keep h0 h [r0] ∧ ∃ g2 : Nat → Int32, Ary Z h r0 .byte ln (fun i => .int (g2 i)) ∧ Head g2 pn w ∧ ∀ q w2, q < pn → Head g q w2 → Head g2 q w2) := by
  refine own_body pn_6 ?_
  intro p e s m below meth c s₁ hx hby hml hown hnm hret hZ e0 X0 G go rt
  have N0 := Fr.nil n0
  rw [ef_rm_pu m r0 u1 u2 u3]
  rcases hlw with ⟨hq, rfl⟩ | ⟨hq, rfl⟩
  · show G (s₁.setTop (mkF m 0 #[.val (.ref r0), .val (.int u1), .val (.int u2), .val (.int u3)] []))
    refine go _ _ (fun t' k' => XS.iloadN X0.here hx rfl (hb hby d6_0) rfl  k') ?_
    show G (s₁.setTop (mkF m 1 #[.val (.ref r0), .val (.int u1), .val (.int u2), .val (.int u3)] [(.int u2)]))
    refine go _ _ (fun t' k' => XS.ifYes X0.here hx rfl (pc0 := 1) (pc' := 20) rfl (hb hby d6_1) rfl (Free.XT.i0_eq_t hq) (by decide) (by decide) k') ?_
    show G (s₁.setTop (mkF m 20 #[.val (.ref r0), .val (.int u1), .val (.int u2), .val (.int u3)] []))
    refine go _ _ (fun t' k' => XS.aloadN X0.here hx rfl (hb hby d6_20) rfl rfl  k') ?_
    show G (s₁.setTop (mkF m 21 #[.val (.ref r0), .val (.int u1), .val (.int u2), .val (.int u3)] [(.ref r0)]))
    refine go _ _ (fun t' k' => XS.iloadN X0.here hx rfl (hb hby d6_21) rfl  k') ?_
    show G (s₁.setTop (mkF m 22 #[.val (.ref r0), .val (.int u1), .val (.int u2), .val (.int u3)] [(.int u1), (.ref r0)]))
    refine go _ _ (fun t' k' => XS.iloadN X0.here hx rfl (hb hby d6_22) rfl  k') ?_
    show G (s₁.setTop (mkF m 23 #[.val (.ref r0), .val (.int u1), .val (.int u2), .val (.int u3)] [(.int u3), (.int u1), (.ref r0)]))
    refine go _ _ (fun t' k' => X0.ldcInt hx hown (mvT hZ (hw _ (List.mem_of_getElem? (i := 33) rfl))) (g := (mkF m 23 #[.val (.ref r0), .val (.int u1), .val (.int u2), .val (.int u3)] [(.int u3), (.int u1), (.ref r0)])) rfl (hb hby d6_23) _ k') ?_
    show G (s₁.setTop (mkF m 25 #[.val (.ref r0), .val (.int u1), .val (.int u2), .val (.int u3)] [(.int (2147483647 : Int32)), (.int u3), (.int u1), (.ref r0)]))
    refine go _ _ (fun t' k' => XS.iand X0.here hx rfl (hb hby d6_25) rfl k') ?_
    show G (s₁.setTop (mkF m 26 #[.val (.ref r0), .val (.int u1), .val (.int u2), .val (.int u3)] [(.int (u3 &&& (2147483647 : Int32))), (.int u1), (.ref r0)]))
    refine go _ _ (fun t' k' => XS.bipush X0.here hx rfl (hb hby d6_26) k') ?_
    show G (s₁.setTop (mkF m 28 #[.val (.ref r0), .val (.int u1), .val (.int u2), .val (.int u3)] [(.int (24 : Int32)), (.int (u3 &&& (2147483647 : Int32))), (.int u1), (.ref r0)]))
    refine go _ _ (fun t' k' => iremM X0 hx rfl (hb hby d6_28) rfl (by decide) k') ?_
    show G (s₁.setTop (mkF m 29 #[.val (.ref r0), .val (.int u1), .val (.int u2), .val (.int u3)] [(.int ((u3 &&& (2147483647 : Int32)) % (24 : Int32))), (.int u1), (.ref r0)]))
    refine go _ _ (fun t' k' => XS.i2b X0.here hx rfl (hb hby d6_29) rfl k') ?_
    show G (s₁.setTop (mkF m 30 #[.val (.ref r0), .val (.int u1), .val (.int u2), .val (.int u3)] [(.int (((u3 &&& (2147483647 : Int32)) % (24 : Int32)).toInt8.toInt32)), (.int u1), (.ref r0)]))
    refine own_bastore go X0 hx hZ e0 pn hpos (by omega) (g := (mkF m 30 #[.val (.ref r0), .val (.int u1), .val (.int u2), .val (.int u3)] [(.int (((u3 &&& (2147483647 : Int32)) % (24 : Int32)).toInt8.toInt32)), (.int u1), (.ref r0)])) rfl A rfl (hb hby d6_30) ?_
    intro T190 h190 X190 e190 W190 A190
    have K191 : Keep h0 h190 [r0] := (Keep.refl h0 [r0]).wr W190 (Or.inl (List.mem_of_getElem? (i := 0) rfl))
    obtain ⟨lc190, X190h, N190h⟩ := own_hide X190 (Fr.snoc X190 N0 g_r0)
    have Z192 : n0 ≤ h190.size := Nat.le_trans Z0 (Nat.le_of_eq W190.size.symm)
    have A190c := A190.cong (g := (fun i => .int ((upd g pn (((u3 &&& (2147483647 : Int32)) % (24 : Int32)).toInt8.toInt32)) i))) (own_upd (own_nb _))
    show G (T190.setTop (mkF m 31 #[.val (.ref r0), .val (.int u1), .val (.int u2), .val (.int u3)] []))
    refine go _ _ (fun t' k' => XS.iloadN X190h.here hx rfl (hb hby d6_31) rfl  k') ?_
    show G (T190.setTop (mkF m 32 #[.val (.ref r0), .val (.int u1), .val (.int u2), .val (.int u3)] [(.int u1)]))
    refine go _ _ (fun t' k' => XS.iconst X190h.here hx rfl (hb hby d6_32) k') ?_
    show G (T190.setTop (mkF m 33 #[.val (.ref r0), .val (.int u1), .val (.int u2), .val (.int u3)] [(.int (1 : Int32)), (.int u1)]))
    refine go _ _ (fun t' k' => XS.iadd X190h.here hx rfl (hb hby d6_33) rfl k') ?_
    show G (T190.setTop (mkF m 34 #[.val (.ref r0), .val (.int u1), .val (.int u2), .val (.int u3)] [(.int (u1 + (1 : Int32)))]))
    refine own_retI rt X190h hx hret (hb hby d6_34) (by decide) (by decide) ?_
    rw [e190]
    exact ⟨⟨_, rfl, own_add hpos (by rfl) (by omega)⟩, N190h, K191, _, A190c, Or.inl ⟨rfl, own_hd24 u3⟩, fun q w2 hq2 H => H.upd (by omega)⟩
  · show G (s₁.setTop (mkF m 0 #[.val (.ref r0), .val (.int u1), .val (.int u2), .val (.int u3)] []))
    refine go _ _ (fun t' k' => XS.iloadN X0.here hx rfl (hb hby d6_0) rfl  k') ?_
    show G (s₁.setTop (mkF m 1 #[.val (.ref r0), .val (.int u1), .val (.int u2), .val (.int u3)] [(.int u2)]))
    refine go _ _ (fun t' k' => XS.ifNo X0.here hx rfl (hb hby d6_1) rfl (Free.XT.i0_eq_f hq) k') ?_
    show G (s₁.setTop (mkF m 4 #[.val (.ref r0), .val (.int u1), .val (.int u2), .val (.int u3)] []))
    refine go _ _ (fun t' k' => XS.aloadN X0.here hx rfl (hb hby d6_4) rfl rfl  k') ?_
    show G (s₁.setTop (mkF m 5 #[.val (.ref r0), .val (.int u1), .val (.int u2), .val (.int u3)] [(.ref r0)]))
    refine go _ _ (fun t' k' => XS.iloadN X0.here hx rfl (hb hby d6_5) rfl  k') ?_
    show G (s₁.setTop (mkF m 6 #[.val (.ref r0), .val (.int u1), .val (.int u2), .val (.int u3)] [(.int u1), (.ref r0)]))
    refine go _ _ (fun t' k' => XS.bipush X0.here hx rfl (hb hby d6_6) k') ?_
    show G (s₁.setTop (mkF m 8 #[.val (.ref r0), .val (.int u1), .val (.int u2), .val (.int u3)] [(.int (24 : Int32)), (.int u1), (.ref r0)]))
    refine own_bastore go X0 hx hZ e0 pn hpos (by omega) (g := (mkF m 8 #[.val (.ref r0), .val (.int u1), .val (.int u2), .val (.int u3)] [(.int (24 : Int32)), (.int u1), (.ref r0)])) rfl A rfl (hb hby d6_8) ?_
    intro T193 h193 X193 e193 W193 A193
    have K194 : Keep h0 h193 [r0] := (Keep.refl h0 [r0]).wr W193 (Or.inl (List.mem_of_getElem? (i := 0) rfl))
    obtain ⟨lc193, X193h, N193h⟩ := own_hide X193 (Fr.snoc X193 N0 g_r0)
    have Z195 : n0 ≤ h193.size := Nat.le_trans Z0 (Nat.le_of_eq W193.size.symm)
    have A193c := A193.cong (g := (fun i => .int ((upd g pn 24) i))) (own_upd rfl)
    show G (T193.setTop (mkF m 9 #[.val (.ref r0), .val (.int u1), .val (.int u2), .val (.int u3)] []))
    refine go _ _ (fun t' k' => XS.aloadN X193h.here hx rfl (hb hby d6_9) rfl rfl  k') ?_
    show G (T193.setTop (mkF m 10 #[.val (.ref r0), .val (.int u1), .val (.int u2), .val (.int u3)] [(.ref r0)]))
    refine go _ _ (fun t' k' => XS.iloadN X193h.here hx rfl (hb hby d6_10) rfl  k') ?_
    show G (T193.setTop (mkF m 11 #[.val (.ref r0), .val (.int u1), .val (.int u2), .val (.int u3)] [(.int u1), (.ref r0)]))
    refine go _ _ (fun t' k' => XS.iconst X193h.here hx rfl (hb hby d6_11) k') ?_
    show G (T193.setTop (mkF m 12 #[.val (.ref r0), .val (.int u1), .val (.int u2), .val (.int u3)] [(.int (1 : Int32)), (.int u1), (.ref r0)]))
    refine go _ _ (fun t' k' => XS.iadd X193h.here hx rfl (hb hby d6_12) rfl k') ?_
    show G (T193.setTop (mkF m 13 #[.val (.ref r0), .val (.int u1), .val (.int u2), .val (.int u3)] [(.int (u1 + (1 : Int32))), (.ref r0)]))
    refine go _ _ (fun t' k' => XS.iloadN X193h.here hx rfl (hb hby d6_13) rfl  k') ?_
    show G (T193.setTop (mkF m 14 #[.val (.ref r0), .val (.int u1), .val (.int u2), .val (.int u3)] [(.int u3), (.int (u1 + (1 : Int32))), (.ref r0)]))
    refine go _ _ (fun t' k' => XS.i2b X193h.here hx rfl (hb hby d6_14) rfl k') ?_
    show G (T193.setTop (mkF m 15 #[.val (.ref r0), .val (.int u1), .val (.int u2), .val (.int u3)] [(.int (u3.toInt8.toInt32)), (.int (u1 + (1 : Int32))), (.ref r0)]))
    refine own_bastore go X193h hx hZ e193 (pn + 1) (own_add hpos (by rfl) (by omega)) (by omega) (g := (mkF m 15 #[.val (.ref r0), .val (.int u1), .val (.int u2), .val (.int u3)] [(.int (u3.toInt8.toInt32)), (.int (u1 + (1 : Int32))), (.ref r0)])) rfl A193c rfl (hb hby d6_15) ?_
    intro T196 h196 X196 e196 W196 A196
    have K197 : Keep h0 h196 [r0] := K194.wr W196 (Or.inl (List.mem_of_getElem? (i := 0) rfl))
    obtain ⟨lc196, X196h, N196h⟩ := own_hide X196 (Fr.snoc X196 N193h g_r0)
    have Z198 : n0 ≤ h196.size := Nat.le_trans Z195 (Nat.le_of_eq W196.size.symm)
    have A196c := A196.cong (g := (fun i => .int ((upd (upd g pn 24) (pn + 1) (u3.toInt8.toInt32)) i))) (own_upd (own_nb _))
    show G (T196.setTop (mkF m 16 #[.val (.ref r0), .val (.int u1), .val (.int u2), .val (.int u3)] []))
    refine go _ _ (fun t' k' => XS.iloadN X196h.here hx rfl (hb hby d6_16) rfl  k') ?_
    show G (T196.setTop (mkF m 17 #[.val (.ref r0), .val (.int u1), .val (.int u2), .val (.int u3)] [(.int u1)]))
    refine go _ _ (fun t' k' => XS.iconst X196h.here hx rfl (hb hby d6_17) k') ?_
    show G (T196.setTop (mkF m 18 #[.val (.ref r0), .val (.int u1), .val (.int u2), .val (.int u3)] [(.int (2 : Int32)), (.int u1)]))
    refine go _ _ (fun t' k' => XS.iadd X196h.here hx rfl (hb hby d6_18) rfl k') ?_
    show G (T196.setTop (mkF m 19 #[.val (.ref r0), .val (.int u1), .val (.int u2), .val (.int u3)] [(.int (u1 + (2 : Int32)))]))
    refine own_retI rt X196h hx hret (hb hby d6_19) (by decide) (by decide) ?_
    rw [e196]
    exact ⟨⟨_, rfl, own_add hpos (by rfl) (by omega)⟩, N196h, K197, _, A196c, Head.upd (Or.inr ⟨rfl, by unfold upd; rw [if_pos rfl]⟩) (by omega), fun q w2 hq2 H => (H.upd (by omega)).upd (by omega)⟩
theorem pn_0 : plainFor x = true := by first | (exact plainFor_of_name (show plainName "com/example/brevidns/brevidns/CborReaderAtEndPinLaw" = true by first | (simp [plainName, overriddenIn]; done) | decide +kernel)) | decide +kernel
theorem ef_rm0 (m : MethodId) (x0 : Int32) (x1 : Int32) (x2 : Int32) (x3 : Int32) : entryFrame m #[(.int x0), (.int x1), (.int x2), (.int x3)] maxLocals = mkF m 0 #[.val (.int x0), .val (.int x1), .val (.int x2), .val (.int x3), .unset, .unset, .unset, .unset, .unset, .unset, .unset, .unset, .unset, .unset, .unset, .unset] [] := by first | (simp [entryFrame, mkF, argsToLocals, Value.category, maxLocals]; done) | rfl
set_option maxRecDepth 65536 in
set_option maxHeartbeats 40000000 in
theorem rm0 (l : Launch) (Z : State) (a0 : Array Value) (hw : ∀ d ∈ tables_1, d.before a0 Z = true) (u0 u1 u2 u3 : Int32) (h0 : Heap) (n0 : Nat) (Z0 : n0 ≤ h0.size) (ru : Addr) (Su : Sta Z h0 "com/example/brevidns/brevidns/CborReader$Kind" "UNSIGNED_INTEGER" "Lcom/example/brevidns/brevidns/CborReader$Kind;" (.ref ru)) :
    Con l Z x code maxLocals ret room_1 #[(.int u0), (.int u1), (.int u2), (.int u3)] h0 (fun v h L => v = some (.int 1) ∧ Fr n0 L) := by
  refine own_body pn_0 ?_
  intro p e s m below meth c s₁ hx hby hml hown hnm hret hZ e0 X0 G go rt
  have N0 := Fr.nil n0
  rw [ef_rm0 m u0 u1 u2 u3]
  show G (s₁.setTop (mkF m 0 #[.val (.int u0), .val (.int u1), .val (.int u2), .val (.int u3), .unset, .unset, .unset, .unset, .unset, .unset, .unset, .unset, .unset, .unset, .unset, .unset] []))
  refine go _ _ (fun t' k' => XS.iloadN X0.here hx rfl (hb hby at_0) rfl  k') ?_
  show G (s₁.setTop (mkF m 1 #[.val (.int u0), .val (.int u1), .val (.int u2), .val (.int u3), .unset, .unset, .unset, .unset, .unset, .unset, .unset, .unset, .unset, .unset, .unset, .unset] [(.int u0)]))
  refine go _ _ (fun t' k' => XS.iconst X0.here hx rfl (hb hby at_1) k') ?_
  show G (s₁.setTop (mkF m 2 #[.val (.int u0), .val (.int u1), .val (.int u2), .val (.int u3), .unset, .unset, .unset, .unset, .unset, .unset, .unset, .unset, .unset, .unset, .unset, .unset] [(.int (3 : Int32)), (.int u0)]))
  refine go _ _ (fun t' k' => XS.iand X0.here hx rfl (hb hby at_2) rfl k') ?_
  show G (s₁.setTop (mkF m 3 #[.val (.int u0), .val (.int u1), .val (.int u2), .val (.int u3), .unset, .unset, .unset, .unset, .unset, .unset, .unset, .unset, .unset, .unset, .unset, .unset] [(.int (u0 &&& (3 : Int32)))]))
  refine go _ _ (fun t' k' => XS.iconst X0.here hx rfl (hb hby at_3) k') ?_
  show G (s₁.setTop (mkF m 4 #[.val (.int u0), .val (.int u1), .val (.int u2), .val (.int u3), .unset, .unset, .unset, .unset, .unset, .unset, .unset, .unset, .unset, .unset, .unset, .unset] [(.int (3 : Int32)), (.int (u0 &&& (3 : Int32)))]))
  refine go _ _ (fun t' k' => iremM X0 hx rfl (hb hby at_4) rfl (by decide) k') ?_
  show G (s₁.setTop (mkF m 5 #[.val (.int u0), .val (.int u1), .val (.int u2), .val (.int u3), .unset, .unset, .unset, .unset, .unset, .unset, .unset, .unset, .unset, .unset, .unset, .unset] [(.int ((u0 &&& (3 : Int32)) % (3 : Int32)))]))
  refine go _ _ (fun t' k' => XS.istore X0.here hx rfl (hb hby at_5) rfl (l' := #[.val (.int u0), .val (.int u1), .val (.int u2), .val (.int u3), .val (.int ((u0 &&& (3 : Int32)) % (3 : Int32))), .unset, .unset, .unset, .unset, .unset, .unset, .unset, .unset, .unset, .unset, .unset]) rfl k') ?_
  show G (s₁.setTop (mkF m 7 #[.val (.int u0), .val (.int u1), .val (.int u2), .val (.int u3), .val (.int ((u0 &&& (3 : Int32)) % (3 : Int32))), .unset, .unset, .unset, .unset, .unset, .unset, .unset, .unset, .unset, .unset, .unset] []))
  obtain ⟨nn, hnn⟩ : ∃ z, z = ((u0 &&& (3 : Int32)) % (3 : Int32)) := ⟨_, rfl⟩
  rw [← hnn]
  show G (s₁.setTop (mkF m 7 #[.val (.int u0), .val (.int u1), .val (.int u2), .val (.int u3), .val (.int nn), .unset, .unset, .unset, .unset, .unset, .unset, .unset, .unset, .unset, .unset, .unset] []))
  rcases own_n3 hnn with rfl | rfl | rfl
  · clear hnn
    show G (s₁.setTop (mkF m 7 #[.val (.int u0), .val (.int u1), .val (.int u2), .val (.int u3), .val (.int (0 : Int32)), .unset, .unset, .unset, .unset, .unset, .unset, .unset, .unset, .unset, .unset, .unset] []))
    refine go _ _ (fun t' k' => XS.iloadN X0.here hx rfl (hb hby at_7) rfl  k') ?_
    show G (s₁.setTop (mkF m 8 #[.val (.int u0), .val (.int u1), .val (.int u2), .val (.int u3), .val (.int (0 : Int32)), .unset, .unset, .unset, .unset, .unset, .unset, .unset, .unset, .unset, .unset, .unset] [(.int u0)]))
    refine go _ _ (fun t' k' => XS.iconst X0.here hx rfl (hb hby at_8) k') ?_
    show G (s₁.setTop (mkF m 9 #[.val (.int u0), .val (.int u1), .val (.int u2), .val (.int u3), .val (.int (0 : Int32)), .unset, .unset, .unset, .unset, .unset, .unset, .unset, .unset, .unset, .unset, .unset] [(.int (4 : Int32)), (.int u0)]))
    refine go _ _ (fun t' k' => XS.iand X0.here hx rfl (hb hby at_9) rfl k') ?_
    show G (s₁.setTop (mkF m 10 #[.val (.int u0), .val (.int u1), .val (.int u2), .val (.int u3), .val (.int (0 : Int32)), .unset, .unset, .unset, .unset, .unset, .unset, .unset, .unset, .unset, .unset, .unset] [(.int (u0 &&& (4 : Int32)))]))
    have J18 : ∀ (T : State) (locs : List Loc), Stand p l e room_1 s m #[(.int u0), (.int u1), (.int u2), (.int u3)] below meth c T locs 0 0 → T.heap = h0 → Fr n0 locs → ∀ (b5 : Int32), G (T.setTop (mkF m 18 #[.val (.int u0), .val (.int u1), .val (.int u2), .val (.int u3), .val (.int (0 : Int32)), .unset, .unset, .unset, .unset, .unset, .unset, .unset, .unset, .unset, .unset, .unset] [(.int b5)])) := by
      intro T199 locs199 X199 e199 N199j b5 
      show G (T199.setTop (mkF m 18 #[.val (.int u0), .val (.int u1), .val (.int u2), .val (.int u3), .val (.int (0 : Int32)), .unset, .unset, .unset, .unset, .unset, .unset, .unset, .unset, .unset, .unset, .unset] [(.int b5)]))
      refine go _ _ (fun t' k' => XS.istore X199.here hx rfl (hb hby at_18) rfl (l' := #[.val (.int u0), .val (.int u1), .val (.int u2), .val (.int u3), .val (.int (0 : Int32)), .val (.int b5), .unset, .unset, .unset, .unset, .unset, .unset, .unset, .unset, .unset, .unset]) rfl k') ?_
      show G (T199.setTop (mkF m 20 #[.val (.int u0), .val (.int u1), .val (.int u2), .val (.int u3), .val (.int (0 : Int32)), .val (.int b5), .unset, .unset, .unset, .unset, .unset, .unset, .unset, .unset, .unset, .unset] []))
      refine go _ _ (fun t' k' => XS.iloadN X199.here hx rfl (hb hby at_20) rfl  k') ?_
      show G (T199.setTop (mkF m 21 #[.val (.int u0), .val (.int u1), .val (.int u2), .val (.int u3), .val (.int (0 : Int32)), .val (.int b5), .unset, .unset, .unset, .unset, .unset, .unset, .unset, .unset, .unset, .unset] [(.int u0)]))
      refine go _ _ (fun t' k' => XS.bipush X199.here hx rfl (hb hby at_21) k') ?_
      show G (T199.setTop (mkF m 23 #[.val (.int u0), .val (.int u1), .val (.int u2), .val (.int u3), .val (.int (0 : Int32)), .val (.int b5), .unset, .unset, .unset, .unset, .unset, .unset, .unset, .unset, .unset, .unset] [(.int (8 : Int32)), (.int u0)]))
      refine go _ _ (fun t' k' => XS.iand X199.here hx rfl (hb hby at_23) rfl k') ?_
      show G (T199.setTop (mkF m 24 #[.val (.int u0), .val (.int u1), .val (.int u2), .val (.int u3), .val (.int (0 : Int32)), .val (.int b5), .unset, .unset, .unset, .unset, .unset, .unset, .unset, .unset, .unset, .unset] [(.int (u0 &&& (8 : Int32)))]))
      have J32 : ∀ (T : State) (locs : List Loc), Stand p l e room_1 s m #[(.int u0), (.int u1), (.int u2), (.int u3)] below meth c T locs 0 0 → T.heap = h0 → Fr n0 locs → ∀ (b6 : Int32), G (T.setTop (mkF m 32 #[.val (.int u0), .val (.int u1), .val (.int u2), .val (.int u3), .val (.int (0 : Int32)), .val (.int b5), .unset, .unset, .unset, .unset, .unset, .unset, .unset, .unset, .unset, .unset] [(.int b6)])) := by
        intro T200 locs200 X200 e200 N200j b6 
        show G (T200.setTop (mkF m 32 #[.val (.int u0), .val (.int u1), .val (.int u2), .val (.int u3), .val (.int (0 : Int32)), .val (.int b5), .unset, .unset, .unset, .unset, .unset, .unset, .unset, .unset, .unset, .unset] [(.int b6)]))
        refine go _ _ (fun t' k' => XS.istore X200.here hx rfl (hb hby at_32) rfl (l' := #[.val (.int u0), .val (.int u1), .val (.int u2), .val (.int u3), .val (.int (0 : Int32)), .val (.int b5), .val (.int b6), .unset, .unset, .unset, .unset, .unset, .unset, .unset, .unset, .unset]) rfl k') ?_
        show G (T200.setTop (mkF m 34 #[.val (.int u0), .val (.int u1), .val (.int u2), .val (.int u3), .val (.int (0 : Int32)), .val (.int b5), .val (.int b6), .unset, .unset, .unset, .unset, .unset, .unset, .unset, .unset, .unset] []))
        refine go _ _ (fun t' k' => XS.iloadN X200.here hx rfl (hb hby at_34) rfl  k') ?_
        show G (T200.setTop (mkF m 35 #[.val (.int u0), .val (.int u1), .val (.int u2), .val (.int u3), .val (.int (0 : Int32)), .val (.int b5), .val (.int b6), .unset, .unset, .unset, .unset, .unset, .unset, .unset, .unset, .unset] [(.int u0)]))
        refine go _ _ (fun t' k' => XS.iconst X200.here hx rfl (hb hby at_35) k') ?_
        show G (T200.setTop (mkF m 36 #[.val (.int u0), .val (.int u1), .val (.int u2), .val (.int u3), .val (.int (0 : Int32)), .val (.int b5), .val (.int b6), .unset, .unset, .unset, .unset, .unset, .unset, .unset, .unset, .unset] [(.int (4 : Int32)), (.int u0)]))
        refine go _ _ (fun t' k' => XS.iushr X200.here hx rfl (hb hby at_36) rfl k') ?_
        show G (T200.setTop (mkF m 37 #[.val (.int u0), .val (.int u1), .val (.int u2), .val (.int u3), .val (.int (0 : Int32)), .val (.int b5), .val (.int b6), .unset, .unset, .unset, .unset, .unset, .unset, .unset, .unset, .unset] [(.int ((u0.toUInt32 >>> ((4 : Int32) &&& 31).toUInt32).toInt32))]))
        refine go _ _ (fun t' k' => XS.iconst X200.here hx rfl (hb hby at_37) k') ?_
        show G (T200.setTop (mkF m 38 #[.val (.int u0), .val (.int u1), .val (.int u2), .val (.int u3), .val (.int (0 : Int32)), .val (.int b5), .val (.int b6), .unset, .unset, .unset, .unset, .unset, .unset, .unset, .unset, .unset] [(.int (1 : Int32)), (.int ((u0.toUInt32 >>> ((4 : Int32) &&& 31).toUInt32).toInt32))]))
        refine go _ _ (fun t' k' => XS.iand X200.here hx rfl (hb hby at_38) rfl k') ?_
        show G (T200.setTop (mkF m 39 #[.val (.int u0), .val (.int u1), .val (.int u2), .val (.int u3), .val (.int (0 : Int32)), .val (.int b5), .val (.int b6), .unset, .unset, .unset, .unset, .unset, .unset, .unset, .unset, .unset] [(.int (((u0.toUInt32 >>> ((4 : Int32) &&& 31).toUInt32).toInt32) &&& (1 : Int32)))]))
        refine go _ _ (fun t' k' => XS.istore X200.here hx rfl (hb hby at_39) rfl (l' := #[.val (.int u0), .val (.int u1), .val (.int u2), .val (.int u3), .val (.int (0 : Int32)), .val (.int b5), .val (.int b6), .val (.int (((u0.toUInt32 >>> ((4 : Int32) &&& 31).toUInt32).toInt32) &&& (1 : Int32))), .unset, .unset, .unset, .unset, .unset, .unset, .unset, .unset]) rfl k') ?_
        show G (T200.setTop (mkF m 41 #[.val (.int u0), .val (.int u1), .val (.int u2), .val (.int u3), .val (.int (0 : Int32)), .val (.int b5), .val (.int b6), .val (.int (((u0.toUInt32 >>> ((4 : Int32) &&& 31).toUInt32).toInt32) &&& (1 : Int32))), .unset, .unset, .unset, .unset, .unset, .unset, .unset, .unset] []))
        obtain ⟨tt, htt⟩ : ∃ z, z = (((u0.toUInt32 >>> ((4 : Int32) &&& 31).toUInt32).toInt32) &&& (1 : Int32)) := ⟨_, rfl⟩
        rw [← htt]
        show G (T200.setTop (mkF m 41 #[.val (.int u0), .val (.int u1), .val (.int u2), .val (.int u3), .val (.int (0 : Int32)), .val (.int b5), .val (.int b6), .val (.int tt), .unset, .unset, .unset, .unset, .unset, .unset, .unset, .unset] []))
        obtain ⟨tn, htn, htn1⟩ := own_t01 htt
        refine go _ _ (fun t' k' => XS.iload X200.here hx rfl (hb hby at_41) rfl  k') ?_
        show G (T200.setTop (mkF m 43 #[.val (.int u0), .val (.int u1), .val (.int u2), .val (.int u3), .val (.int (0 : Int32)), .val (.int b5), .val (.int b6), .val (.int tt), .unset, .unset, .unset, .unset, .unset, .unset, .unset, .unset] [(.int (0 : Int32))]))
        refine go _ _ (fun t' k' => XS.iloadN X200.here hx rfl (hb hby at_43) rfl  k') ?_
        show G (T200.setTop (mkF m 44 #[.val (.int u0), .val (.int u1), .val (.int u2), .val (.int u3), .val (.int (0 : Int32)), .val (.int b5), .val (.int b6), .val (.int tt), .unset, .unset, .unset, .unset, .unset, .unset, .unset, .unset] [(.int u0), (.int (0 : Int32))]))
        refine go _ _ (fun t' k' => XS.iconst X200.here hx rfl (hb hby at_44) k') ?_
        show G (T200.setTop (mkF m 45 #[.val (.int u0), .val (.int u1), .val (.int u2), .val (.int u3), .val (.int (0 : Int32)), .val (.int b5), .val (.int b6), .val (.int tt), .unset, .unset, .unset, .unset, .unset, .unset, .unset, .unset] [(.int (5 : Int32)), (.int u0), (.int (0 : Int32))]))
        refine go _ _ (fun t' k' => XS.iushr X200.here hx rfl (hb hby at_45) rfl k') ?_
        show G (T200.setTop (mkF m 46 #[.val (.int u0), .val (.int u1), .val (.int u2), .val (.int u3), .val (.int (0 : Int32)), .val (.int b5), .val (.int b6), .val (.int tt), .unset, .unset, .unset, .unset, .unset, .unset, .unset, .unset] [(.int ((u0.toUInt32 >>> ((5 : Int32) &&& 31).toUInt32).toInt32)), (.int (0 : Int32))]))
        refine go _ _ (fun t' k' => XS.iconst X200.here hx rfl (hb hby at_46) k') ?_
        show G (T200.setTop (mkF m 47 #[.val (.int u0), .val (.int u1), .val (.int u2), .val (.int u3), .val (.int (0 : Int32)), .val (.int b5), .val (.int b6), .val (.int tt), .unset, .unset, .unset, .unset, .unset, .unset, .unset, .unset] [(.int (3 : Int32)), (.int ((u0.toUInt32 >>> ((5 : Int32) &&& 31).toUInt32).toInt32)), (.int (0 : Int32))]))
        refine go _ _ (fun t' k' => XS.iand X200.here hx rfl (hb hby at_47) rfl k') ?_
        show G (T200.setTop (mkF m 48 #[.val (.int u0), .val (.int u1), .val (.int u2), .val (.int u3), .val (.int (0 : Int32)), .val (.int b5), .val (.int b6), .val (.int tt), .unset, .unset, .unset, .unset, .unset, .unset, .unset, .unset] [(.int (((u0.toUInt32 >>> ((5 : Int32) &&& 31).toUInt32).toInt32) &&& (3 : Int32))), (.int (0 : Int32))]))
        refine own_static go X200 hx hZ e200 hown (hw _ (List.mem_of_getElem? (i := 0) rfl)) (hw _ (List.mem_of_getElem? (i := 1) rfl)) (hw _ (List.mem_of_getElem? (i := 2) rfl)) (hw _ (List.mem_of_getElem? (i := 3) rfl)) (by decide) (rm_min l Z a0 hw (0 : Int32) (((u0.toUInt32 >>> ((5 : Int32) &&& 31).toUInt32).toInt32) &&& (3 : Int32)) h0 n0 Z0) 0 (by decide) (by decide) (by decide) (by decide) (g := (mkF m 48 #[.val (.int u0), .val (.int u1), .val (.int u2), .val (.int u3), .val (.int (0 : Int32)), .val (.int b5), .val (.int b6), .val (.int tt), .unset, .unset, .unset, .unset, .unset, .unset, .unset, .unset] [(.int (((u0.toUInt32 >>> ((5 : Int32) &&& 31).toUInt32).toInt32) &&& (3 : Int32))), (.int (0 : Int32))])) rfl (by rw [hml]; rfl) [(.int (0 : Int32)), (.int (((u0.toUInt32 >>> ((5 : Int32) &&& 31).toUInt32).toInt32) &&& (3 : Int32)))] [] rfl (lenOf pd_5 rfl) rfl (by show 2 * 0 + _ ≤ _; exact Nat.le_of_eq rfl) (hb hby at_48) ?_
        intro T201 L201 v201 X201 q201
        obtain ⟨rfl, N201, hh201⟩ := q201
        obtain ⟨lc201, X201h, N201h⟩ := own_hide X201 (Fr.app N200j N201)
        show G (T201.setTop (mkF m 51 #[.val (.int u0), .val (.int u1), .val (.int u2), .val (.int u3), .val (.int (0 : Int32)), .val (.int b5), .val (.int b6), .val (.int tt), .unset, .unset, .unset, .unset, .unset, .unset, .unset, .unset] [(.int (if (((u0.toUInt32 >>> ((5 : Int32) &&& 31).toUInt32).toInt32) &&& (3 : Int32)) < (0 : Int32) then (((u0.toUInt32 >>> ((5 : Int32) &&& 31).toUInt32).toInt32) &&& (3 : Int32)) else (0 : Int32)))]))
        refine go _ _ (fun t' k' => XS.istore X201h.here hx rfl (hb hby at_51) rfl (l' := #[.val (.int u0), .val (.int u1), .val (.int u2), .val (.int u3), .val (.int (0 : Int32)), .val (.int b5), .val (.int b6), .val (.int tt), .val (.int (if (((u0.toUInt32 >>> ((5 : Int32) &&& 31).toUInt32).toInt32) &&& (3 : Int32)) < (0 : Int32) then (((u0.toUInt32 >>> ((5 : Int32) &&& 31).toUInt32).toInt32) &&& (3 : Int32)) else (0 : Int32))), .unset, .unset, .unset, .unset, .unset, .unset, .unset]) rfl k') ?_
        show G (T201.setTop (mkF m 53 #[.val (.int u0), .val (.int u1), .val (.int u2), .val (.int u3), .val (.int (0 : Int32)), .val (.int b5), .val (.int b6), .val (.int tt), .val (.int (if (((u0.toUInt32 >>> ((5 : Int32) &&& 31).toUInt32).toInt32) &&& (3 : Int32)) < (0 : Int32) then (((u0.toUInt32 >>> ((5 : Int32) &&& 31).toUInt32).toInt32) &&& (3 : Int32)) else (0 : Int32))), .unset, .unset, .unset, .unset, .unset, .unset, .unset] []))
        obtain ⟨kq, hkq⟩ : ∃ z, z = (if (((u0.toUInt32 >>> ((5 : Int32) &&& 31).toUInt32).toInt32) &&& (3 : Int32)) < (0 : Int32) then (((u0.toUInt32 >>> ((5 : Int32) &&& 31).toUInt32).toInt32) &&& (3 : Int32)) else (0 : Int32)) := ⟨_, rfl⟩
        rw [← hkq]
        show G (T201.setTop (mkF m 53 #[.val (.int u0), .val (.int u1), .val (.int u2), .val (.int u3), .val (.int (0 : Int32)), .val (.int b5), .val (.int b6), .val (.int tt), .val (.int kq), .unset, .unset, .unset, .unset, .unset, .unset, .unset] []))
        obtain ⟨kn, hkn, hkn2⟩ := own_kq hkq (by decide)
        have hkn3 : kn ≤ 0 := by have e : (0 : Int32).toInt = 0 := rfl; omega
        refine go _ _ (fun t' k' => XS.iload X201h.here hx rfl (hb hby at_53) rfl  k') ?_
        show G (T201.setTop (mkF m 55 #[.val (.int u0), .val (.int u1), .val (.int u2), .val (.int u3), .val (.int (0 : Int32)), .val (.int b5), .val (.int b6), .val (.int tt), .val (.int kq), .unset, .unset, .unset, .unset, .unset, .unset, .unset] [(.int b5)]))
        have J63 : ∀ (T : State) (locs : List Loc), Stand p l e room_1 s m #[(.int u0), (.int u1), (.int u2), (.int u3)] below meth c T locs 0 0 → T.heap = h0 → Fr n0 locs → ∀ (l9 : Int32) (w0 : Nat), (l9.toInt = w0) → ((b5 = 0 ∧ w0 = 1) ∨ (¬ b5 = 0 ∧ w0 = 2)) → G (T.setTop (mkF m 63 #[.val (.int u0), .val (.int u1), .val (.int u2), .val (.int u3), .val (.int (0 : Int32)), .val (.int b5), .val (.int b6), .val (.int tt), .val (.int kq), .unset, .unset, .unset, .unset, .unset, .unset, .unset] [(.int l9)])) := by
          intro T202 locs202 X202 e202 N202j l9 w0 hl9 hw0
          show G (T202.setTop (mkF m 63 #[.val (.int u0), .val (.int u1), .val (.int u2), .val (.int u3), .val (.int (0 : Int32)), .val (.int b5), .val (.int b6), .val (.int tt), .val (.int kq), .unset, .unset, .unset, .unset, .unset, .unset, .unset] [(.int l9)]))
          refine go _ _ (fun t' k' => XS.istore X202.here hx rfl (hb hby at_63) rfl (l' := #[.val (.int u0), .val (.int u1), .val (.int u2), .val (.int u3), .val (.int (0 : Int32)), .val (.int b5), .val (.int b6), .val (.int tt), .val (.int kq), .val (.int l9), .unset, .unset, .unset, .unset, .unset, .unset]) rfl k') ?_
          show G (T202.setTop (mkF m 65 #[.val (.int u0), .val (.int u1), .val (.int u2), .val (.int u3), .val (.int (0 : Int32)), .val (.int b5), .val (.int b6), .val (.int tt), .val (.int kq), .val (.int l9), .unset, .unset, .unset, .unset, .unset, .unset] []))
          refine go _ _ (fun t' k' => XS.iload X202.here hx rfl (hb hby at_65) rfl  k') ?_
          show G (T202.setTop (mkF m 67 #[.val (.int u0), .val (.int u1), .val (.int u2), .val (.int u3), .val (.int (0 : Int32)), .val (.int b5), .val (.int b6), .val (.int tt), .val (.int kq), .val (.int l9), .unset, .unset, .unset, .unset, .unset, .unset] [(.int b6)]))
          have J75 : ∀ (T : State) (locs : List Loc), Stand p l e room_1 s m #[(.int u0), (.int u1), (.int u2), (.int u3)] below meth c T locs 0 0 → T.heap = h0 → Fr n0 locs → ∀ (l10 : Int32) (w1 : Nat), (l10.toInt = w1) → ((b6 = 0 ∧ w1 = 1) ∨ (¬ b6 = 0 ∧ w1 = 2)) → G (T.setTop (mkF m 75 #[.val (.int u0), .val (.int u1), .val (.int u2), .val (.int u3), .val (.int (0 : Int32)), .val (.int b5), .val (.int b6), .val (.int tt), .val (.int kq), .val (.int l9), .unset, .unset, .unset, .unset, .unset, .unset] [(.int l10)])) := by
            intro T203 locs203 X203 e203 N203j l10 w1 hl10 hw1
            show G (T203.setTop (mkF m 75 #[.val (.int u0), .val (.int u1), .val (.int u2), .val (.int u3), .val (.int (0 : Int32)), .val (.int b5), .val (.int b6), .val (.int tt), .val (.int kq), .val (.int l9), .unset, .unset, .unset, .unset, .unset, .unset] [(.int l10)]))
            refine go _ _ (fun t' k' => XS.istore X203.here hx rfl (hb hby at_75) rfl (l' := #[.val (.int u0), .val (.int u1), .val (.int u2), .val (.int u3), .val (.int (0 : Int32)), .val (.int b5), .val (.int b6), .val (.int tt), .val (.int kq), .val (.int l9), .val (.int l10), .unset, .unset, .unset, .unset, .unset]) rfl k') ?_
            show G (T203.setTop (mkF m 77 #[.val (.int u0), .val (.int u1), .val (.int u2), .val (.int u3), .val (.int (0 : Int32)), .val (.int b5), .val (.int b6), .val (.int tt), .val (.int kq), .val (.int l9), .val (.int l10), .unset, .unset, .unset, .unset, .unset] []))
            refine go _ _ (fun t' k' => XS.iload X203.here hx rfl (hb hby at_77) rfl  k') ?_
            show G (T203.setTop (mkF m 79 #[.val (.int u0), .val (.int u1), .val (.int u2), .val (.int u3), .val (.int (0 : Int32)), .val (.int b5), .val (.int b6), .val (.int tt), .val (.int kq), .val (.int l9), .val (.int l10), .unset, .unset, .unset, .unset, .unset] [(.int (0 : Int32))]))
            refine go _ _ (fun t' k' => XS.iconst X203.here hx rfl (hb hby at_79) k') ?_
            show G (T203.setTop (mkF m 80 #[.val (.int u0), .val (.int u1), .val (.int u2), .val (.int u3), .val (.int (0 : Int32)), .val (.int b5), .val (.int b6), .val (.int tt), .val (.int kq), .val (.int l9), .val (.int l10), .unset, .unset, .unset, .unset, .unset] [(.int (1 : Int32)), (.int (0 : Int32))]))
            refine go _ _ (fun t' k' => XS.icmpYes X203.here hx rfl (pc0 := 80) (pc' := 88) rfl (hb hby at_80) rfl (Free.XT.ii_lt_t (by decide)) (by decide) (by decide) k') ?_
            show G (T203.setTop (mkF m 88 #[.val (.int u0), .val (.int u1), .val (.int u2), .val (.int u3), .val (.int (0 : Int32)), .val (.int b5), .val (.int b6), .val (.int tt), .val (.int kq), .val (.int l9), .val (.int l10), .unset, .unset, .unset, .unset, .unset] []))
            refine go _ _ (fun t' k' => XS.iconst X203.here hx rfl (hb hby at_88) k') ?_
            show G (T203.setTop (mkF m 89 #[.val (.int u0), .val (.int u1), .val (.int u2), .val (.int u3), .val (.int (0 : Int32)), .val (.int b5), .val (.int b6), .val (.int tt), .val (.int kq), .val (.int l9), .val (.int l10), .unset, .unset, .unset, .unset, .unset] [(.int (0 : Int32))]))
            refine go _ _ (fun t' k' => XS.iload X203.here hx rfl (hb hby at_89) rfl  k') ?_
            show G (T203.setTop (mkF m 91 #[.val (.int u0), .val (.int u1), .val (.int u2), .val (.int u3), .val (.int (0 : Int32)), .val (.int b5), .val (.int b6), .val (.int tt), .val (.int kq), .val (.int l9), .val (.int l10), .unset, .unset, .unset, .unset, .unset] [(.int (0 : Int32)), (.int (0 : Int32))]))
            refine go _ _ (fun t' k' => XS.iconst X203.here hx rfl (hb hby at_91) k') ?_
            show G (T203.setTop (mkF m 92 #[.val (.int u0), .val (.int u1), .val (.int u2), .val (.int u3), .val (.int (0 : Int32)), .val (.int b5), .val (.int b6), .val (.int tt), .val (.int kq), .val (.int l9), .val (.int l10), .unset, .unset, .unset, .unset, .unset] [(.int (2 : Int32)), (.int (0 : Int32)), (.int (0 : Int32))]))
            refine go _ _ (fun t' k' => XS.icmpYes X203.here hx rfl (pc0 := 92) (pc' := 100) rfl (hb hby at_92) rfl (Free.XT.ii_lt_t (by decide)) (by decide) (by decide) k') ?_
            show G (T203.setTop (mkF m 100 #[.val (.int u0), .val (.int u1), .val (.int u2), .val (.int u3), .val (.int (0 : Int32)), .val (.int b5), .val (.int b6), .val (.int tt), .val (.int kq), .val (.int l9), .val (.int l10), .unset, .unset, .unset, .unset, .unset] [(.int (0 : Int32))]))
            refine go _ _ (fun t' k' => XS.iconst X203.here hx rfl (hb hby at_100) k') ?_
            show G (T203.setTop (mkF m 101 #[.val (.int u0), .val (.int u1), .val (.int u2), .val (.int u3), .val (.int (0 : Int32)), .val (.int b5), .val (.int b6), .val (.int tt), .val (.int kq), .val (.int l9), .val (.int l10), .unset, .unset, .unset, .unset, .unset] [(.int (0 : Int32)), (.int (0 : Int32))]))
            refine go _ _ (fun t' k' => XS.iadd X203.here hx rfl (hb hby at_101) rfl k') ?_
            show G (T203.setTop (mkF m 102 #[.val (.int u0), .val (.int u1), .val (.int u2), .val (.int u3), .val (.int (0 : Int32)), .val (.int b5), .val (.int b6), .val (.int tt), .val (.int kq), .val (.int l9), .val (.int l10), .unset, .unset, .unset, .unset, .unset] [(.int ((0 : Int32) + (0 : Int32)))]))
            refine go _ _ (fun t' k' => XS.iload X203.here hx rfl (hb hby at_102) rfl  k') ?_
            show G (T203.setTop (mkF m 104 #[.val (.int u0), .val (.int u1), .val (.int u2), .val (.int u3), .val (.int (0 : Int32)), .val (.int b5), .val (.int b6), .val (.int tt), .val (.int kq), .val (.int l9), .val (.int l10), .unset, .unset, .unset, .unset, .unset] [(.int tt), (.int ((0 : Int32) + (0 : Int32)))]))
            refine go _ _ (fun t' k' => XS.iadd X203.here hx rfl (hb hby at_104) rfl k') ?_
            show G (T203.setTop (mkF m 105 #[.val (.int u0), .val (.int u1), .val (.int u2), .val (.int u3), .val (.int (0 : Int32)), .val (.int b5), .val (.int b6), .val (.int tt), .val (.int kq), .val (.int l9), .val (.int l10), .unset, .unset, .unset, .unset, .unset] [(.int (((0 : Int32) + (0 : Int32)) + tt))]))
            refine go _ _ (fun t' k' => XS.istore X203.here hx rfl (hb hby at_105) rfl (l' := #[.val (.int u0), .val (.int u1), .val (.int u2), .val (.int u3), .val (.int (0 : Int32)), .val (.int b5), .val (.int b6), .val (.int tt), .val (.int kq), .val (.int l9), .val (.int l10), .val (.int (((0 : Int32) + (0 : Int32)) + tt)), .unset, .unset, .unset, .unset]) rfl k') ?_
            show G (T203.setTop (mkF m 107 #[.val (.int u0), .val (.int u1), .val (.int u2), .val (.int u3), .val (.int (0 : Int32)), .val (.int b5), .val (.int b6), .val (.int tt), .val (.int kq), .val (.int l9), .val (.int l10), .val (.int (((0 : Int32) + (0 : Int32)) + tt)), .unset, .unset, .unset, .unset] []))
            obtain ⟨len, hlen⟩ : ∃ z, z = (((0 : Int32) + (0 : Int32)) + tt) := ⟨_, rfl⟩
            rw [← hlen]
            show G (T203.setTop (mkF m 107 #[.val (.int u0), .val (.int u1), .val (.int u2), .val (.int u3), .val (.int (0 : Int32)), .val (.int b5), .val (.int b6), .val (.int tt), .val (.int kq), .val (.int l9), .val (.int l10), .val (.int len), .unset, .unset, .unset, .unset] []))
            have hwb0 : w0 = 1 ∨ w0 = 2 := hw0.elim (fun z => Or.inl z.2) (fun z => Or.inr z.2)
            have hwb1 : w1 = 1 ∨ w1 = 2 := hw1.elim (fun z => Or.inl z.2) (fun z => Or.inr z.2)
            obtain ⟨ln, hlnE⟩ : ∃ ln : Nat, ln = 0 + 0 + tn := ⟨_, rfl⟩
            have hln : len.toInt = ln := by rw [hlen, hlnE]; exact own_add (own_add rfl rfl (by omega)) htn (by omega)
            refine go _ _ (fun t' k' => XS.iload X203.here hx rfl (hb hby at_107) rfl  k') ?_
            show G (T203.setTop (mkF m 109 #[.val (.int u0), .val (.int u1), .val (.int u2), .val (.int u3), .val (.int (0 : Int32)), .val (.int b5), .val (.int b6), .val (.int tt), .val (.int kq), .val (.int l9), .val (.int l10), .val (.int len), .unset, .unset, .unset, .unset] [(.int len)]))
            refine own_static go X203 hx hZ e203 hown (hw _ (List.mem_of_getElem? (i := 4) rfl)) (hw _ (List.mem_of_getElem? (i := 5) rfl)) (hw _ (List.mem_of_getElem? (i := 6) rfl)) (hw _ (List.mem_of_getElem? (i := 7) rfl)) (by decide) (rm_al l Z a0 hw len ln h0 n0 Z0 hln (by omega)) 0 (by decide) (by decide) (by decide) (by decide) (g := (mkF m 109 #[.val (.int u0), .val (.int u1), .val (.int u2), .val (.int u3), .val (.int (0 : Int32)), .val (.int b5), .val (.int b6), .val (.int tt), .val (.int kq), .val (.int l9), .val (.int l10), .val (.int len), .unset, .unset, .unset, .unset] [(.int len)])) rfl (by rw [hml]; rfl) [(.int len)] [] rfl (lenOf pd_6 rfl) rfl (by show 2 * 0 + _ ≤ _; exact Nat.le_of_eq rfl) (hb hby at_109) ?_
            intro T204 L204 v204 X204 q204
            obtain ⟨a204, rfl, N204, K204, A204, g_a204, ga204⟩ := q204
            have ns205 : ∀ w ∈ [], ∃ c : Cell, h0[w]? = some c ∧ c.vm.isStatics = false := all0
            obtain ⟨lc204, X204h, N204h⟩ := own_hide X204 (Fr.app N203j N204)
            have K206 : Keep h0 T204.heap [] := (Keep.refl h0 []).trans K204 all0
            have Z207 : n0 ≤ T204.heap.size := Nat.le_trans Z0 K204.1
            have sz_a204 : h0.size ≤ a204 := Nat.le_trans (Keep.refl h0 []).1 (Nat.le_of_eq ga204.symm)
            obtain ⟨g0, Ag0⟩ := A204.ints (by simp)
            show G (T204.setTop (mkF m 112 #[.val (.int u0), .val (.int u1), .val (.int u2), .val (.int u3), .val (.int (0 : Int32)), .val (.int b5), .val (.int b6), .val (.int tt), .val (.int kq), .val (.int l9), .val (.int l10), .val (.int len), .unset, .unset, .unset, .unset] [(.ref a204)]))
            refine go _ _ (fun t' k' => XS.astore X204h.here hx rfl (hb hby at_112) rfl rfl (l' := #[.val (.int u0), .val (.int u1), .val (.int u2), .val (.int u3), .val (.int (0 : Int32)), .val (.int b5), .val (.int b6), .val (.int tt), .val (.int kq), .val (.int l9), .val (.int l10), .val (.int len), .val (.ref a204), .unset, .unset, .unset]) rfl k') ?_
            show G (T204.setTop (mkF m 114 #[.val (.int u0), .val (.int u1), .val (.int u2), .val (.int u3), .val (.int (0 : Int32)), .val (.int b5), .val (.int b6), .val (.int tt), .val (.int kq), .val (.int l9), .val (.int l10), .val (.int len), .val (.ref a204), .unset, .unset, .unset] []))
            refine go _ _ (fun t' k' => XS.iconst X204h.here hx rfl (hb hby at_114) k') ?_
            show G (T204.setTop (mkF m 115 #[.val (.int u0), .val (.int u1), .val (.int u2), .val (.int u3), .val (.int (0 : Int32)), .val (.int b5), .val (.int b6), .val (.int tt), .val (.int kq), .val (.int l9), .val (.int l10), .val (.int len), .val (.ref a204), .unset, .unset, .unset] [(.int (0 : Int32))]))
            refine go _ _ (fun t' k' => XS.istore X204h.here hx rfl (hb hby at_115) rfl (l' := #[.val (.int u0), .val (.int u1), .val (.int u2), .val (.int u3), .val (.int (0 : Int32)), .val (.int b5), .val (.int b6), .val (.int tt), .val (.int kq), .val (.int l9), .val (.int l10), .val (.int len), .val (.ref a204), .val (.int (0 : Int32)), .unset, .unset]) rfl k') ?_
            show G (T204.setTop (mkF m 117 #[.val (.int u0), .val (.int u1), .val (.int u2), .val (.int u3), .val (.int (0 : Int32)), .val (.int b5), .val (.int b6), .val (.int tt), .val (.int kq), .val (.int l9), .val (.int l10), .val (.int len), .val (.ref a204), .val (.int (0 : Int32)), .unset, .unset] []))
            refine go _ _ (fun t' k' => XS.iload X204h.here hx rfl (hb hby at_117) rfl  k') ?_
            show G (T204.setTop (mkF m 119 #[.val (.int u0), .val (.int u1), .val (.int u2), .val (.int u3), .val (.int (0 : Int32)), .val (.int b5), .val (.int b6), .val (.int tt), .val (.int kq), .val (.int l9), .val (.int l10), .val (.int len), .val (.ref a204), .val (.int (0 : Int32)), .unset, .unset] [(.int (0 : Int32))]))
            refine go _ _ (fun t' k' => XS.iconst X204h.here hx rfl (hb hby at_119) k') ?_
            show G (T204.setTop (mkF m 120 #[.val (.int u0), .val (.int u1), .val (.int u2), .val (.int u3), .val (.int (0 : Int32)), .val (.int b5), .val (.int b6), .val (.int tt), .val (.int kq), .val (.int l9), .val (.int l10), .val (.int len), .val (.ref a204), .val (.int (0 : Int32)), .unset, .unset] [(.int (1 : Int32)), (.int (0 : Int32))]))
            refine go _ _ (fun t' k' => XS.icmpYes X204h.here hx rfl (pc0 := 120) (pc' := 135) rfl (hb hby at_120) rfl (Free.XT.ii_lt_t (by decide)) (by decide) (by decide) k') ?_
            show G (T204.setTop (mkF m 135 #[.val (.int u0), .val (.int u1), .val (.int u2), .val (.int u3), .val (.int (0 : Int32)), .val (.int b5), .val (.int b6), .val (.int tt), .val (.int kq), .val (.int l9), .val (.int l10), .val (.int len), .val (.ref a204), .val (.int (0 : Int32)), .unset, .unset] []))
            refine go _ _ (fun t' k' => XS.iload X204h.here hx rfl (hb hby at_135) rfl  k') ?_
            show G (T204.setTop (mkF m 137 #[.val (.int u0), .val (.int u1), .val (.int u2), .val (.int u3), .val (.int (0 : Int32)), .val (.int b5), .val (.int b6), .val (.int tt), .val (.int kq), .val (.int l9), .val (.int l10), .val (.int len), .val (.ref a204), .val (.int (0 : Int32)), .unset, .unset] [(.int (0 : Int32))]))
            refine go _ _ (fun t' k' => XS.iconst X204h.here hx rfl (hb hby at_137) k') ?_
            show G (T204.setTop (mkF m 138 #[.val (.int u0), .val (.int u1), .val (.int u2), .val (.int u3), .val (.int (0 : Int32)), .val (.int b5), .val (.int b6), .val (.int tt), .val (.int kq), .val (.int l9), .val (.int l10), .val (.int len), .val (.ref a204), .val (.int (0 : Int32)), .unset, .unset] [(.int (2 : Int32)), (.int (0 : Int32))]))
            refine go _ _ (fun t' k' => XS.icmpYes X204h.here hx rfl (pc0 := 138) (pc' := 153) rfl (hb hby at_138) rfl (Free.XT.ii_lt_t (by decide)) (by decide) (by decide) k') ?_
            show G (T204.setTop (mkF m 153 #[.val (.int u0), .val (.int u1), .val (.int u2), .val (.int u3), .val (.int (0 : Int32)), .val (.int b5), .val (.int b6), .val (.int tt), .val (.int kq), .val (.int l9), .val (.int l10), .val (.int len), .val (.ref a204), .val (.int (0 : Int32)), .unset, .unset] []))
            refine go _ _ (fun t' k' => XS.iload X204h.here hx rfl (hb hby at_153) rfl  k') ?_
            show G (T204.setTop (mkF m 155 #[.val (.int u0), .val (.int u1), .val (.int u2), .val (.int u3), .val (.int (0 : Int32)), .val (.int b5), .val (.int b6), .val (.int tt), .val (.int kq), .val (.int l9), .val (.int l10), .val (.int len), .val (.ref a204), .val (.int (0 : Int32)), .unset, .unset] [(.int tt)]))
            refine go _ _ (fun t' k' => XS.iconst X204h.here hx rfl (hb hby at_155) k') ?_
            show G (T204.setTop (mkF m 156 #[.val (.int u0), .val (.int u1), .val (.int u2), .val (.int u3), .val (.int (0 : Int32)), .val (.int b5), .val (.int b6), .val (.int tt), .val (.int kq), .val (.int l9), .val (.int l10), .val (.int len), .val (.ref a204), .val (.int (0 : Int32)), .unset, .unset] [(.int (1 : Int32)), (.int tt)]))
            by_cases c208 : tt = (1 : Int32)
            · have htn0 : tn = 1 := (own_lit 1 (kk := 1) rfl htn).mp c208
              have z209 : ¬ tt = (0 : Int32) := (not_congr (own_lit 0 (kk := 0) rfl htn)).mpr (by omega)
              show G (T204.setTop (mkF m 156 #[.val (.int u0), .val (.int u1), .val (.int u2), .val (.int u3), .val (.int (0 : Int32)), .val (.int b5), .val (.int b6), .val (.int tt), .val (.int kq), .val (.int l9), .val (.int l10), .val (.int len), .val (.ref a204), .val (.int (0 : Int32)), .unset, .unset] [(.int (1 : Int32)), (.int tt)]))
              refine go _ _ (fun t' k' => XS.icmpNo X204h.here hx rfl (hb hby at_156) rfl (Free.XT.ii_ne_f c208) k') ?_
              show G (T204.setTop (mkF m 159 #[.val (.int u0), .val (.int u1), .val (.int u2), .val (.int u3), .val (.int (0 : Int32)), .val (.int b5), .val (.int b6), .val (.int tt), .val (.int kq), .val (.int l9), .val (.int l10), .val (.int len), .val (.ref a204), .val (.int (0 : Int32)), .unset, .unset] []))
              refine go _ _ (fun t' k' => XS.aload X204h.here hx rfl (hb hby at_159) rfl rfl  k') ?_
              show G (T204.setTop (mkF m 161 #[.val (.int u0), .val (.int u1), .val (.int u2), .val (.int u3), .val (.int (0 : Int32)), .val (.int b5), .val (.int b6), .val (.int tt), .val (.int kq), .val (.int l9), .val (.int l10), .val (.int len), .val (.ref a204), .val (.int (0 : Int32)), .unset, .unset] [(.ref a204)]))
              refine go _ _ (fun t' k' => XS.iload X204h.here hx rfl (hb hby at_161) rfl  k') ?_
              show G (T204.setTop (mkF m 163 #[.val (.int u0), .val (.int u1), .val (.int u2), .val (.int u3), .val (.int (0 : Int32)), .val (.int b5), .val (.int b6), .val (.int tt), .val (.int kq), .val (.int l9), .val (.int l10), .val (.int len), .val (.ref a204), .val (.int (0 : Int32)), .unset, .unset] [(.int (0 : Int32)), (.ref a204)]))
              refine go _ _ (fun t' k' => XS.iloadN X204h.here hx rfl (hb hby at_163) rfl  k') ?_
              show G (T204.setTop (mkF m 164 #[.val (.int u0), .val (.int u1), .val (.int u2), .val (.int u3), .val (.int (0 : Int32)), .val (.int b5), .val (.int b6), .val (.int tt), .val (.int kq), .val (.int l9), .val (.int l10), .val (.int len), .val (.ref a204), .val (.int (0 : Int32)), .unset, .unset] [(.int u3), (.int (0 : Int32)), (.ref a204)]))
              refine go _ _ (fun t' k' => XS.i2b X204h.here hx rfl (hb hby at_164) rfl k') ?_
              show G (T204.setTop (mkF m 165 #[.val (.int u0), .val (.int u1), .val (.int u2), .val (.int u3), .val (.int (0 : Int32)), .val (.int b5), .val (.int b6), .val (.int tt), .val (.int kq), .val (.int l9), .val (.int l10), .val (.int len), .val (.ref a204), .val (.int (0 : Int32)), .unset, .unset] [(.int (u3.toInt8.toInt32)), (.int (0 : Int32)), (.ref a204)]))
              refine own_bastore go X204h hx hZ rfl 0 rfl (by omega) (g := (mkF m 165 #[.val (.int u0), .val (.int u1), .val (.int u2), .val (.int u3), .val (.int (0 : Int32)), .val (.int b5), .val (.int b6), .val (.int tt), .val (.int kq), .val (.int l9), .val (.int l10), .val (.int len), .val (.ref a204), .val (.int (0 : Int32)), .unset, .unset] [(.int (u3.toInt8.toInt32)), (.int (0 : Int32)), (.ref a204)])) rfl Ag0 rfl (hb hby at_165) ?_
              intro T210 h210 X210 e210 W210 A210
              have K211 : Keep h0 h210 [] := K206.wr W210 (Or.inr sz_a204)
              obtain ⟨lc210, X210h, N210h⟩ := own_hide X210 (Fr.snoc X210 N204h g_a204)
              have Z212 : n0 ≤ h210.size := Nat.le_trans Z207 (Nat.le_of_eq W210.size.symm)
              have A210c := A210.cong (g := (fun i => .int ((upd g0 0 (u3.toInt8.toInt32)) i))) (own_upd (own_nb _))
              show G (T210.setTop (mkF m 166 #[.val (.int u0), .val (.int u1), .val (.int u2), .val (.int u3), .val (.int (0 : Int32)), .val (.int b5), .val (.int b6), .val (.int tt), .val (.int kq), .val (.int l9), .val (.int l10), .val (.int len), .val (.ref a204), .val (.int (0 : Int32)), .unset, .unset] []))
              obtain ⟨T213, h213, X213, e213, E213, A213, D213, -, st213⟩ := newO X210h hx hZ hown (hw _ (List.mem_of_getElem? (i := 9) rfl)) (hw _ (List.mem_of_getElem? (i := 10) rfl)) (hw _ (List.mem_of_getElem? (i := 11) rfl)) e210 (g := (mkF m 166 #[.val (.int u0), .val (.int u1), .val (.int u2), .val (.int u3), .val (.int (0 : Int32)), .val (.int b5), .val (.int b6), .val (.int tt), .val (.int kq), .val (.int l9), .val (.int l10), .val (.int len), .val (.ref a204), .val (.int (0 : Int32)), .unset, .unset] [])) rfl (hb hby at_166) (by decide) (by decide)
              obtain ⟨b213, g213⟩ : ∃ z, z = h210.size := ⟨_, rfl⟩
              rw [← g213] at A213 D213 st213
              have ne214 : a204 ≠ b213 := Nat.ne_of_lt (by rw [g213]; exact A210c.lt)
              have g_b213 : n0 ≤ b213 := Nat.le_trans Z212 (Nat.le_of_eq g213.symm)
              have sz_b213 : h0.size ≤ b213 := Nat.le_trans K211.1 (Nat.le_of_eq g213.symm)
              have Z215 : n0 ≤ h213.size := Nat.le_trans Z212 E213.1
              have K216 : Keep h0 h213 [] := K211.ext E213
              have F217 : Fld Z h213 b213 "com/example/brevidns/brevidns/CborReader" "itemsLeft" "[I" .null := D213 (Or.inl (hw _ (List.mem_of_getElem? (i := 20) rfl))) (ty := (.array .int)) (by decide)
              have F218 : Fld Z h213 b213 "com/example/brevidns/brevidns/CborReader" "input" "[B" .null := D213 (Or.inr (hw _ (List.mem_of_getElem? (i := 22) rfl))) (ty := (.array .byte)) (by decide)
              have F219 : Fld Z h213 b213 "com/example/brevidns/brevidns/CborReader" "position" "I" (.int (0 : Int32)) := D213 (Or.inl (hw _ (List.mem_of_getElem? (i := 29) rfl))) (ty := .int) (by decide)
              have F220 : Fld Z h213 b213 "com/example/brevidns/brevidns/CborReader" "depth" "I" (.int (0 : Int32)) := D213 (Or.inl (hw _ (List.mem_of_getElem? (i := 56) rfl))) (ty := .int) (by decide)
              refine go _ _ st213 ?_
              show G (T213.setTop (mkF m 169 #[.val (.int u0), .val (.int u1), .val (.int u2), .val (.int u3), .val (.int (0 : Int32)), .val (.int b5), .val (.int b6), .val (.int tt), .val (.int kq), .val (.int l9), .val (.int l10), .val (.int len), .val (.ref a204), .val (.int (0 : Int32)), .unset, .unset] [(.ref b213)]))
              refine go _ _ (fun t' k' => XS.dup X213.here hx rfl (hb hby at_169) rfl rfl k') ?_
              show G (T213.setTop (mkF m 170 #[.val (.int u0), .val (.int u1), .val (.int u2), .val (.int u3), .val (.int (0 : Int32)), .val (.int b5), .val (.int b6), .val (.int tt), .val (.int kq), .val (.int l9), .val (.int l10), .val (.int len), .val (.ref a204), .val (.int (0 : Int32)), .unset, .unset] [(.ref b213), (.ref b213)]))
              refine go _ _ (fun t' k' => XS.aload X213.here hx rfl (hb hby at_170) rfl rfl  k') ?_
              show G (T213.setTop (mkF m 172 #[.val (.int u0), .val (.int u1), .val (.int u2), .val (.int u3), .val (.int (0 : Int32)), .val (.int b5), .val (.int b6), .val (.int tt), .val (.int kq), .val (.int l9), .val (.int l10), .val (.int len), .val (.ref a204), .val (.int (0 : Int32)), .unset, .unset] [(.ref a204), (.ref b213), (.ref b213)]))
              refine own_init go X213 hx hZ e213 rfl hown (hw _ (List.mem_of_getElem? (i := 12) rfl)) (hw _ (List.mem_of_getElem? (i := 13) rfl)) (hw _ (List.mem_of_getElem? (i := 11) rfl)) (hw _ (List.mem_of_getElem? (i := 14) rfl)) (by decide) (rm_in l Z a0 hw b213 a204 h213 n0 Z215 g_b213 A213 F218 F219 F217 F220) 1 (by decide) (by decide) (by decide) (by decide) (g := (mkF m 172 #[.val (.int u0), .val (.int u1), .val (.int u2), .val (.int u3), .val (.int (0 : Int32)), .val (.int b5), .val (.int b6), .val (.int tt), .val (.int kq), .val (.int l9), .val (.int l10), .val (.int len), .val (.ref a204), .val (.int (0 : Int32)), .unset, .unset] [(.ref a204), (.ref b213), (.ref b213)])) rfl (by rw [hml]; rfl) b213 [(.ref a204)] [(.ref b213)] rfl (lenOf pd_7 rfl) rfl (by show 2 * 0 + _ ≤ _; exact Nat.le_of_eq rfl) (hb hby at_172) ?_
              intro T221 L221 v221 X221 q221
              obtain ⟨rfl, N221, K221, il, Cr221⟩ := q221
              have ns222 : ∀ w ∈ [b213], ∃ c : Cell, h213[w]? = some c ∧ c.vm.isStatics = false := (allS (own_exa_ns A213) all0)
              obtain ⟨lc221, X221h, N221h⟩ := own_hide X221 (Fr.app N210h N221)
              have K223 : Keep h0 T221.heap [] := K216.trans K221 (allS (Or.inr sz_b213) all0)
              have Z224 : n0 ≤ T221.heap.size := Nat.le_trans Z215 K221.1
              obtain ⟨B225E, B225i, B225p, B225l, B225d⟩ := Cr221
              show G (T221.setTop (mkF m 175 #[.val (.int u0), .val (.int u1), .val (.int u2), .val (.int u3), .val (.int (0 : Int32)), .val (.int b5), .val (.int b6), .val (.int tt), .val (.int kq), .val (.int l9), .val (.int l10), .val (.int len), .val (.ref a204), .val (.int (0 : Int32)), .unset, .unset] [(.ref b213)]))
              refine go _ _ (fun t' k' => XS.astore X221h.here hx rfl (hb hby at_175) rfl rfl (l' := #[.val (.int u0), .val (.int u1), .val (.int u2), .val (.int u3), .val (.int (0 : Int32)), .val (.int b5), .val (.int b6), .val (.int tt), .val (.int kq), .val (.int l9), .val (.int l10), .val (.int len), .val (.ref a204), .val (.int (0 : Int32)), .val (.ref b213), .unset]) rfl k') ?_
              show G (T221.setTop (mkF m 177 #[.val (.int u0), .val (.int u1), .val (.int u2), .val (.int u3), .val (.int (0 : Int32)), .val (.int b5), .val (.int b6), .val (.int tt), .val (.int kq), .val (.int l9), .val (.int l10), .val (.int len), .val (.ref a204), .val (.int (0 : Int32)), .val (.ref b213), .unset] []))
              refine go _ _ (fun t' k' => XS.aload X221h.here hx rfl (hb hby at_177) rfl rfl  k') ?_
              show G (T221.setTop (mkF m 179 #[.val (.int u0), .val (.int u1), .val (.int u2), .val (.int u3), .val (.int (0 : Int32)), .val (.int b5), .val (.int b6), .val (.int tt), .val (.int kq), .val (.int l9), .val (.int l10), .val (.int len), .val (.ref a204), .val (.int (0 : Int32)), .val (.ref b213), .unset] [(.ref b213)]))
              have f226 := ((A210c.ext E213).keep K221 (ninS ne214 nin0))
              refine own_virtual go X221h hx hZ rfl hown (hw _ (List.mem_of_getElem? (i := 23) rfl)) (hw _ (List.mem_of_getElem? (i := 24) rfl)) (notFace_of_selects (args := #[]) (mvT hZ (hw _ (List.mem_of_getElem? (i := 26) rfl)))) (hw _ (List.mem_of_getElem? (i := 26) rfl)) (hw _ (List.mem_of_getElem? (i := 25) rfl)) (hw _ (List.mem_of_getElem? (i := 11) rfl)) (hw _ (List.mem_of_getElem? (i := 27) rfl)) (by decide) (rm_ae l Z a0 hw b213 a204 (0 : Int32) 0 0 ln _ T221.heap n0 Z224 B225i B225p f226 rfl (by omega) (Or.inr ⟨rfl, by omega⟩)) 0 (by decide) (by decide) (by decide) (by decide) B225E (g := (mkF m 179 #[.val (.int u0), .val (.int u1), .val (.int u2), .val (.int u3), .val (.int (0 : Int32)), .val (.int b5), .val (.int b6), .val (.int tt), .val (.int kq), .val (.int l9), .val (.int l10), .val (.int len), .val (.ref a204), .val (.int (0 : Int32)), .val (.ref b213), .unset] [(.ref b213)])) rfl (by rw [hml]; rfl) [] [] rfl (lenOf pd_1 rfl) rfl (by show 2 * 0 + _ ≤ _; exact Nat.le_of_eq rfl) (hb hby at_179) ?_
              intro T227 L227 v227 X227 q227
              obtain ⟨rfl, N227, hh227⟩ := q227
              obtain ⟨lc227, X227h, N227h⟩ := own_hide X227 (Fr.app N221h N227)
              show G (T227.setTop (mkF m 182 #[.val (.int u0), .val (.int u1), .val (.int u2), .val (.int u3), .val (.int (0 : Int32)), .val (.int b5), .val (.int b6), .val (.int tt), .val (.int kq), .val (.int l9), .val (.int l10), .val (.int len), .val (.ref a204), .val (.int (0 : Int32)), .val (.ref b213), .unset] [(.int (0 : Int32))]))
              refine go _ _ (fun t' k' => XS.iload X227h.here hx rfl (hb hby at_182) rfl  k') ?_
              show G (T227.setTop (mkF m 184 #[.val (.int u0), .val (.int u1), .val (.int u2), .val (.int u3), .val (.int (0 : Int32)), .val (.int b5), .val (.int b6), .val (.int tt), .val (.int kq), .val (.int l9), .val (.int l10), .val (.int len), .val (.ref a204), .val (.int (0 : Int32)), .val (.ref b213), .unset] [(.int len), (.int (0 : Int32))]))
              refine go _ _ (fun t' k' => XS.ifYes X227h.here hx rfl (pc0 := 184) (pc' := 191) rfl (hb hby at_184) rfl (Free.XT.i0_ne_t ((not_congr (own_lit 0 (kk := 0) rfl hln)).mpr (by omega))) (by decide) (by decide) k') ?_
              show G (T227.setTop (mkF m 191 #[.val (.int u0), .val (.int u1), .val (.int u2), .val (.int u3), .val (.int (0 : Int32)), .val (.int b5), .val (.int b6), .val (.int tt), .val (.int kq), .val (.int l9), .val (.int l10), .val (.int len), .val (.ref a204), .val (.int (0 : Int32)), .val (.ref b213), .unset] [(.int (0 : Int32))]))
              refine go _ _ (fun t' k' => XS.iconst X227h.here hx rfl (hb hby at_191) k') ?_
              show G (T227.setTop (mkF m 192 #[.val (.int u0), .val (.int u1), .val (.int u2), .val (.int u3), .val (.int (0 : Int32)), .val (.int b5), .val (.int b6), .val (.int tt), .val (.int kq), .val (.int l9), .val (.int l10), .val (.int len), .val (.ref a204), .val (.int (0 : Int32)), .val (.ref b213), .unset] [(.int (0 : Int32)), (.int (0 : Int32))]))
              refine go _ _ (fun t' k' => XS.icmpNo X227h.here hx rfl (hb hby at_192) rfl (Free.XT.ii_ne_f (by decide)) k') ?_
              show G (T227.setTop (mkF m 195 #[.val (.int u0), .val (.int u1), .val (.int u2), .val (.int u3), .val (.int (0 : Int32)), .val (.int b5), .val (.int b6), .val (.int tt), .val (.int kq), .val (.int l9), .val (.int l10), .val (.int len), .val (.ref a204), .val (.int (0 : Int32)), .val (.ref b213), .unset] []))
              refine go _ _ (fun t' k' => XS.iconst X227h.here hx rfl (hb hby at_195) k') ?_
              show G (T227.setTop (mkF m 196 #[.val (.int u0), .val (.int u1), .val (.int u2), .val (.int u3), .val (.int (0 : Int32)), .val (.int b5), .val (.int b6), .val (.int tt), .val (.int kq), .val (.int l9), .val (.int l10), .val (.int len), .val (.ref a204), .val (.int (0 : Int32)), .val (.ref b213), .unset] [(.int (1 : Int32))]))
              refine go _ _ (fun t' k' => XS.goto X227h.here hx rfl (pc0 := 196) (pc' := 200) rfl (hb hby at_196) (by decide) (by decide) k') ?_
              show G (T227.setTop (mkF m 200 #[.val (.int u0), .val (.int u1), .val (.int u2), .val (.int u3), .val (.int (0 : Int32)), .val (.int b5), .val (.int b6), .val (.int tt), .val (.int kq), .val (.int l9), .val (.int l10), .val (.int len), .val (.ref a204), .val (.int (0 : Int32)), .val (.ref b213), .unset] [(.int (1 : Int32))]))
              refine go _ _ (fun t' k' => XS.istore X227h.here hx rfl (hb hby at_200) rfl (l' := #[.val (.int u0), .val (.int u1), .val (.int u2), .val (.int u3), .val (.int (0 : Int32)), .val (.int b5), .val (.int b6), .val (.int tt), .val (.int kq), .val (.int l9), .val (.int l10), .val (.int len), .val (.ref a204), .val (.int (0 : Int32)), .val (.ref b213), .val (.int (1 : Int32))]) rfl k') ?_
              show G (T227.setTop (mkF m 202 #[.val (.int u0), .val (.int u1), .val (.int u2), .val (.int u3), .val (.int (0 : Int32)), .val (.int b5), .val (.int b6), .val (.int tt), .val (.int kq), .val (.int l9), .val (.int l10), .val (.int len), .val (.ref a204), .val (.int (0 : Int32)), .val (.ref b213), .val (.int (1 : Int32))] []))
              refine go _ _ (fun t' k' => XS.iload X227h.here hx rfl (hb hby at_202) rfl  k') ?_
              show G (T227.setTop (mkF m 204 #[.val (.int u0), .val (.int u1), .val (.int u2), .val (.int u3), .val (.int (0 : Int32)), .val (.int b5), .val (.int b6), .val (.int tt), .val (.int kq), .val (.int l9), .val (.int l10), .val (.int len), .val (.ref a204), .val (.int (0 : Int32)), .val (.ref b213), .val (.int (1 : Int32))] [(.int kq)]))
              refine go _ _ (fun t' k' => XS.iconst X227h.here hx rfl (hb hby at_204) k') ?_
              show G (T227.setTop (mkF m 205 #[.val (.int u0), .val (.int u1), .val (.int u2), .val (.int u3), .val (.int (0 : Int32)), .val (.int b5), .val (.int b6), .val (.int tt), .val (.int kq), .val (.int l9), .val (.int l10), .val (.int len), .val (.ref a204), .val (.int (0 : Int32)), .val (.ref b213), .val (.int (1 : Int32))] [(.int (1 : Int32)), (.int kq)]))
              refine go _ _ (fun t' k' => XS.icmpYes X227h.here hx rfl (pc0 := 205) (pc' := 250) rfl (hb hby at_205) rfl (Free.XT.ii_lt_t ((own_lt hkn (j := 1) rfl).mpr (by omega))) (by decide) (by decide) k') ?_
              show G (T227.setTop (mkF m 250 #[.val (.int u0), .val (.int u1), .val (.int u2), .val (.int u3), .val (.int (0 : Int32)), .val (.int b5), .val (.int b6), .val (.int tt), .val (.int kq), .val (.int l9), .val (.int l10), .val (.int len), .val (.ref a204), .val (.int (0 : Int32)), .val (.ref b213), .val (.int (1 : Int32))] []))
              refine go _ _ (fun t' k' => XS.iload X227h.here hx rfl (hb hby at_250) rfl  k') ?_
              show G (T227.setTop (mkF m 252 #[.val (.int u0), .val (.int u1), .val (.int u2), .val (.int u3), .val (.int (0 : Int32)), .val (.int b5), .val (.int b6), .val (.int tt), .val (.int kq), .val (.int l9), .val (.int l10), .val (.int len), .val (.ref a204), .val (.int (0 : Int32)), .val (.ref b213), .val (.int (1 : Int32))] [(.int kq)]))
              refine go _ _ (fun t' k' => XS.iconst X227h.here hx rfl (hb hby at_252) k') ?_
              show G (T227.setTop (mkF m 253 #[.val (.int u0), .val (.int u1), .val (.int u2), .val (.int u3), .val (.int (0 : Int32)), .val (.int b5), .val (.int b6), .val (.int tt), .val (.int kq), .val (.int l9), .val (.int l10), .val (.int len), .val (.ref a204), .val (.int (0 : Int32)), .val (.ref b213), .val (.int (1 : Int32))] [(.int (2 : Int32)), (.int kq)]))
              refine go _ _ (fun t' k' => XS.icmpYes X227h.here hx rfl (pc0 := 253) (pc' := 292) rfl (hb hby at_253) rfl (Free.XT.ii_lt_t ((own_lt hkn (j := 2) rfl).mpr (by omega))) (by decide) (by decide) k') ?_
              show G (T227.setTop (mkF m 292 #[.val (.int u0), .val (.int u1), .val (.int u2), .val (.int u3), .val (.int (0 : Int32)), .val (.int b5), .val (.int b6), .val (.int tt), .val (.int kq), .val (.int l9), .val (.int l10), .val (.int len), .val (.ref a204), .val (.int (0 : Int32)), .val (.ref b213), .val (.int (1 : Int32))] []))
              refine go _ _ (fun t' k' => XS.iload X227h.here hx rfl (hb hby at_292) rfl  k') ?_
              show G (T227.setTop (mkF m 294 #[.val (.int u0), .val (.int u1), .val (.int u2), .val (.int u3), .val (.int (0 : Int32)), .val (.int b5), .val (.int b6), .val (.int tt), .val (.int kq), .val (.int l9), .val (.int l10), .val (.int len), .val (.ref a204), .val (.int (0 : Int32)), .val (.ref b213), .val (.int (1 : Int32))] [(.int (1 : Int32))]))
              refine own_retZ rt X227h hx (t := .boolean) hret (by simp) (hb hby at_294) (by decide) (by decide) ?_
              exact ⟨rfl, N227h⟩
            · have htn0 : tn = 0 := by have z := (not_congr (own_lit 1 (kk := 1) rfl htn)).mp c208; omega
              have z228 : tt = (0 : Int32) := (own_lit 0 (kk := 0) rfl htn).mpr (by omega)
              show G (T204.setTop (mkF m 156 #[.val (.int u0), .val (.int u1), .val (.int u2), .val (.int u3), .val (.int (0 : Int32)), .val (.int b5), .val (.int b6), .val (.int tt), .val (.int kq), .val (.int l9), .val (.int l10), .val (.int len), .val (.ref a204), .val (.int (0 : Int32)), .unset, .unset] [(.int (1 : Int32)), (.int tt)]))
              refine go _ _ (fun t' k' => XS.icmpYes X204h.here hx rfl (pc0 := 156) (pc' := 166) rfl (hb hby at_156) rfl (Free.XT.ii_ne_t c208) (by decide) (by decide) k') ?_
              show G (T204.setTop (mkF m 166 #[.val (.int u0), .val (.int u1), .val (.int u2), .val (.int u3), .val (.int (0 : Int32)), .val (.int b5), .val (.int b6), .val (.int tt), .val (.int kq), .val (.int l9), .val (.int l10), .val (.int len), .val (.ref a204), .val (.int (0 : Int32)), .unset, .unset] []))
              obtain ⟨T229, h229, X229, e229, E229, A229, D229, -, st229⟩ := newO X204h hx hZ hown (hw _ (List.mem_of_getElem? (i := 9) rfl)) (hw _ (List.mem_of_getElem? (i := 10) rfl)) (hw _ (List.mem_of_getElem? (i := 11) rfl)) rfl (g := (mkF m 166 #[.val (.int u0), .val (.int u1), .val (.int u2), .val (.int u3), .val (.int (0 : Int32)), .val (.int b5), .val (.int b6), .val (.int tt), .val (.int kq), .val (.int l9), .val (.int l10), .val (.int len), .val (.ref a204), .val (.int (0 : Int32)), .unset, .unset] [])) rfl (hb hby at_166) (by decide) (by decide)
              obtain ⟨b229, g229⟩ : ∃ z, z = T204.heap.size := ⟨_, rfl⟩
              rw [← g229] at A229 D229 st229
              have ne230 : a204 ≠ b229 := Nat.ne_of_lt (by rw [g229]; exact Ag0.lt)
              have g_b229 : n0 ≤ b229 := Nat.le_trans Z207 (Nat.le_of_eq g229.symm)
              have sz_b229 : h0.size ≤ b229 := Nat.le_trans K206.1 (Nat.le_of_eq g229.symm)
              have Z231 : n0 ≤ h229.size := Nat.le_trans Z207 E229.1
              have K232 : Keep h0 h229 [] := K206.ext E229
              have F233 : Fld Z h229 b229 "com/example/brevidns/brevidns/CborReader" "itemsLeft" "[I" .null := D229 (Or.inl (hw _ (List.mem_of_getElem? (i := 20) rfl))) (ty := (.array .int)) (by decide)
              have F234 : Fld Z h229 b229 "com/example/brevidns/brevidns/CborReader" "input" "[B" .null := D229 (Or.inr (hw _ (List.mem_of_getElem? (i := 22) rfl))) (ty := (.array .byte)) (by decide)
              have F235 : Fld Z h229 b229 "com/example/brevidns/brevidns/CborReader" "position" "I" (.int (0 : Int32)) := D229 (Or.inl (hw _ (List.mem_of_getElem? (i := 29) rfl))) (ty := .int) (by decide)
              have F236 : Fld Z h229 b229 "com/example/brevidns/brevidns/CborReader" "depth" "I" (.int (0 : Int32)) := D229 (Or.inl (hw _ (List.mem_of_getElem? (i := 56) rfl))) (ty := .int) (by decide)
              refine go _ _ st229 ?_
              show G (T229.setTop (mkF m 169 #[.val (.int u0), .val (.int u1), .val (.int u2), .val (.int u3), .val (.int (0 : Int32)), .val (.int b5), .val (.int b6), .val (.int tt), .val (.int kq), .val (.int l9), .val (.int l10), .val (.int len), .val (.ref a204), .val (.int (0 : Int32)), .unset, .unset] [(.ref b229)]))
              refine go _ _ (fun t' k' => XS.dup X229.here hx rfl (hb hby at_169) rfl rfl k') ?_
              show G (T229.setTop (mkF m 170 #[.val (.int u0), .val (.int u1), .val (.int u2), .val (.int u3), .val (.int (0 : Int32)), .val (.int b5), .val (.int b6), .val (.int tt), .val (.int kq), .val (.int l9), .val (.int l10), .val (.int len), .val (.ref a204), .val (.int (0 : Int32)), .unset, .unset] [(.ref b229), (.ref b229)]))
              refine go _ _ (fun t' k' => XS.aload X229.here hx rfl (hb hby at_170) rfl rfl  k') ?_
              show G (T229.setTop (mkF m 172 #[.val (.int u0), .val (.int u1), .val (.int u2), .val (.int u3), .val (.int (0 : Int32)), .val (.int b5), .val (.int b6), .val (.int tt), .val (.int kq), .val (.int l9), .val (.int l10), .val (.int len), .val (.ref a204), .val (.int (0 : Int32)), .unset, .unset] [(.ref a204), (.ref b229), (.ref b229)]))
              refine own_init go X229 hx hZ e229 rfl hown (hw _ (List.mem_of_getElem? (i := 12) rfl)) (hw _ (List.mem_of_getElem? (i := 13) rfl)) (hw _ (List.mem_of_getElem? (i := 11) rfl)) (hw _ (List.mem_of_getElem? (i := 14) rfl)) (by decide) (rm_in l Z a0 hw b229 a204 h229 n0 Z231 g_b229 A229 F234 F235 F233 F236) 1 (by decide) (by decide) (by decide) (by decide) (g := (mkF m 172 #[.val (.int u0), .val (.int u1), .val (.int u2), .val (.int u3), .val (.int (0 : Int32)), .val (.int b5), .val (.int b6), .val (.int tt), .val (.int kq), .val (.int l9), .val (.int l10), .val (.int len), .val (.ref a204), .val (.int (0 : Int32)), .unset, .unset] [(.ref a204), (.ref b229), (.ref b229)])) rfl (by rw [hml]; rfl) b229 [(.ref a204)] [(.ref b229)] rfl (lenOf pd_7 rfl) rfl (by show 2 * 0 + _ ≤ _; exact Nat.le_of_eq rfl) (hb hby at_172) ?_
              intro T237 L237 v237 X237 q237
              obtain ⟨rfl, N237, K237, il, Cr237⟩ := q237
              have ns238 : ∀ w ∈ [b229], ∃ c : Cell, h229[w]? = some c ∧ c.vm.isStatics = false := (allS (own_exa_ns A229) all0)
              obtain ⟨lc237, X237h, N237h⟩ := own_hide X237 (Fr.app N204h N237)
              have K239 : Keep h0 T237.heap [] := K232.trans K237 (allS (Or.inr sz_b229) all0)
              have Z240 : n0 ≤ T237.heap.size := Nat.le_trans Z231 K237.1
              obtain ⟨B241E, B241i, B241p, B241l, B241d⟩ := Cr237
              show G (T237.setTop (mkF m 175 #[.val (.int u0), .val (.int u1), .val (.int u2), .val (.int u3), .val (.int (0 : Int32)), .val (.int b5), .val (.int b6), .val (.int tt), .val (.int kq), .val (.int l9), .val (.int l10), .val (.int len), .val (.ref a204), .val (.int (0 : Int32)), .unset, .unset] [(.ref b229)]))
              refine go _ _ (fun t' k' => XS.astore X237h.here hx rfl (hb hby at_175) rfl rfl (l' := #[.val (.int u0), .val (.int u1), .val (.int u2), .val (.int u3), .val (.int (0 : Int32)), .val (.int b5), .val (.int b6), .val (.int tt), .val (.int kq), .val (.int l9), .val (.int l10), .val (.int len), .val (.ref a204), .val (.int (0 : Int32)), .val (.ref b229), .unset]) rfl k') ?_
              show G (T237.setTop (mkF m 177 #[.val (.int u0), .val (.int u1), .val (.int u2), .val (.int u3), .val (.int (0 : Int32)), .val (.int b5), .val (.int b6), .val (.int tt), .val (.int kq), .val (.int l9), .val (.int l10), .val (.int len), .val (.ref a204), .val (.int (0 : Int32)), .val (.ref b229), .unset] []))
              refine go _ _ (fun t' k' => XS.aload X237h.here hx rfl (hb hby at_177) rfl rfl  k') ?_
              show G (T237.setTop (mkF m 179 #[.val (.int u0), .val (.int u1), .val (.int u2), .val (.int u3), .val (.int (0 : Int32)), .val (.int b5), .val (.int b6), .val (.int tt), .val (.int kq), .val (.int l9), .val (.int l10), .val (.int len), .val (.ref a204), .val (.int (0 : Int32)), .val (.ref b229), .unset] [(.ref b229)]))
              have f242 := ((Ag0.ext E229).keep K237 (ninS ne230 nin0))
              refine own_virtual go X237h hx hZ rfl hown (hw _ (List.mem_of_getElem? (i := 23) rfl)) (hw _ (List.mem_of_getElem? (i := 24) rfl)) (notFace_of_selects (args := #[]) (mvT hZ (hw _ (List.mem_of_getElem? (i := 26) rfl)))) (hw _ (List.mem_of_getElem? (i := 26) rfl)) (hw _ (List.mem_of_getElem? (i := 25) rfl)) (hw _ (List.mem_of_getElem? (i := 11) rfl)) (hw _ (List.mem_of_getElem? (i := 27) rfl)) (by decide) (rm_ae l Z a0 hw b229 a204 (0 : Int32) 1 0 ln _ T237.heap n0 Z240 B241i B241p f242 rfl (by omega) (Or.inl ⟨rfl, by omega⟩)) 0 (by decide) (by decide) (by decide) (by decide) B241E (g := (mkF m 179 #[.val (.int u0), .val (.int u1), .val (.int u2), .val (.int u3), .val (.int (0 : Int32)), .val (.int b5), .val (.int b6), .val (.int tt), .val (.int kq), .val (.int l9), .val (.int l10), .val (.int len), .val (.ref a204), .val (.int (0 : Int32)), .val (.ref b229), .unset] [(.ref b229)])) rfl (by rw [hml]; rfl) [] [] rfl (lenOf pd_1 rfl) rfl (by show 2 * 0 + _ ≤ _; exact Nat.le_of_eq rfl) (hb hby at_179) ?_
              intro T243 L243 v243 X243 q243
              obtain ⟨rfl, N243, hh243⟩ := q243
              obtain ⟨lc243, X243h, N243h⟩ := own_hide X243 (Fr.app N237h N243)
              show G (T243.setTop (mkF m 182 #[.val (.int u0), .val (.int u1), .val (.int u2), .val (.int u3), .val (.int (0 : Int32)), .val (.int b5), .val (.int b6), .val (.int tt), .val (.int kq), .val (.int l9), .val (.int l10), .val (.int len), .val (.ref a204), .val (.int (0 : Int32)), .val (.ref b229), .unset] [(.int (1 : Int32))]))
              refine go _ _ (fun t' k' => XS.iload X243h.here hx rfl (hb hby at_182) rfl  k') ?_
              show G (T243.setTop (mkF m 184 #[.val (.int u0), .val (.int u1), .val (.int u2), .val (.int u3), .val (.int (0 : Int32)), .val (.int b5), .val (.int b6), .val (.int tt), .val (.int kq), .val (.int l9), .val (.int l10), .val (.int len), .val (.ref a204), .val (.int (0 : Int32)), .val (.ref b229), .unset] [(.int len), (.int (1 : Int32))]))
              refine go _ _ (fun t' k' => XS.ifNo X243h.here hx rfl (hb hby at_184) rfl (Free.XT.i0_ne_f ((own_lit 0 (kk := 0) rfl hln).mpr (by omega))) k') ?_
              show G (T243.setTop (mkF m 187 #[.val (.int u0), .val (.int u1), .val (.int u2), .val (.int u3), .val (.int (0 : Int32)), .val (.int b5), .val (.int b6), .val (.int tt), .val (.int kq), .val (.int l9), .val (.int l10), .val (.int len), .val (.ref a204), .val (.int (0 : Int32)), .val (.ref b229), .unset] [(.int (1 : Int32))]))
              refine go _ _ (fun t' k' => XS.iconst X243h.here hx rfl (hb hby at_187) k') ?_
              show G (T243.setTop (mkF m 188 #[.val (.int u0), .val (.int u1), .val (.int u2), .val (.int u3), .val (.int (0 : Int32)), .val (.int b5), .val (.int b6), .val (.int tt), .val (.int kq), .val (.int l9), .val (.int l10), .val (.int len), .val (.ref a204), .val (.int (0 : Int32)), .val (.ref b229), .unset] [(.int (1 : Int32)), (.int (1 : Int32))]))
              refine go _ _ (fun t' k' => XS.goto X243h.here hx rfl (pc0 := 188) (pc' := 192) rfl (hb hby at_188) (by decide) (by decide) k') ?_
              show G (T243.setTop (mkF m 192 #[.val (.int u0), .val (.int u1), .val (.int u2), .val (.int u3), .val (.int (0 : Int32)), .val (.int b5), .val (.int b6), .val (.int tt), .val (.int kq), .val (.int l9), .val (.int l10), .val (.int len), .val (.ref a204), .val (.int (0 : Int32)), .val (.ref b229), .unset] [(.int (1 : Int32)), (.int (1 : Int32))]))
              refine go _ _ (fun t' k' => XS.icmpNo X243h.here hx rfl (hb hby at_192) rfl (Free.XT.ii_ne_f (by decide)) k') ?_
              show G (T243.setTop (mkF m 195 #[.val (.int u0), .val (.int u1), .val (.int u2), .val (.int u3), .val (.int (0 : Int32)), .val (.int b5), .val (.int b6), .val (.int tt), .val (.int kq), .val (.int l9), .val (.int l10), .val (.int len), .val (.ref a204), .val (.int (0 : Int32)), .val (.ref b229), .unset] []))
              refine go _ _ (fun t' k' => XS.iconst X243h.here hx rfl (hb hby at_195) k') ?_
              show G (T243.setTop (mkF m 196 #[.val (.int u0), .val (.int u1), .val (.int u2), .val (.int u3), .val (.int (0 : Int32)), .val (.int b5), .val (.int b6), .val (.int tt), .val (.int kq), .val (.int l9), .val (.int l10), .val (.int len), .val (.ref a204), .val (.int (0 : Int32)), .val (.ref b229), .unset] [(.int (1 : Int32))]))
              refine go _ _ (fun t' k' => XS.goto X243h.here hx rfl (pc0 := 196) (pc' := 200) rfl (hb hby at_196) (by decide) (by decide) k') ?_
              show G (T243.setTop (mkF m 200 #[.val (.int u0), .val (.int u1), .val (.int u2), .val (.int u3), .val (.int (0 : Int32)), .val (.int b5), .val (.int b6), .val (.int tt), .val (.int kq), .val (.int l9), .val (.int l10), .val (.int len), .val (.ref a204), .val (.int (0 : Int32)), .val (.ref b229), .unset] [(.int (1 : Int32))]))
              refine go _ _ (fun t' k' => XS.istore X243h.here hx rfl (hb hby at_200) rfl (l' := #[.val (.int u0), .val (.int u1), .val (.int u2), .val (.int u3), .val (.int (0 : Int32)), .val (.int b5), .val (.int b6), .val (.int tt), .val (.int kq), .val (.int l9), .val (.int l10), .val (.int len), .val (.ref a204), .val (.int (0 : Int32)), .val (.ref b229), .val (.int (1 : Int32))]) rfl k') ?_
              show G (T243.setTop (mkF m 202 #[.val (.int u0), .val (.int u1), .val (.int u2), .val (.int u3), .val (.int (0 : Int32)), .val (.int b5), .val (.int b6), .val (.int tt), .val (.int kq), .val (.int l9), .val (.int l10), .val (.int len), .val (.ref a204), .val (.int (0 : Int32)), .val (.ref b229), .val (.int (1 : Int32))] []))
              refine go _ _ (fun t' k' => XS.iload X243h.here hx rfl (hb hby at_202) rfl  k') ?_
              show G (T243.setTop (mkF m 204 #[.val (.int u0), .val (.int u1), .val (.int u2), .val (.int u3), .val (.int (0 : Int32)), .val (.int b5), .val (.int b6), .val (.int tt), .val (.int kq), .val (.int l9), .val (.int l10), .val (.int len), .val (.ref a204), .val (.int (0 : Int32)), .val (.ref b229), .val (.int (1 : Int32))] [(.int kq)]))
              refine go _ _ (fun t' k' => XS.iconst X243h.here hx rfl (hb hby at_204) k') ?_
              show G (T243.setTop (mkF m 205 #[.val (.int u0), .val (.int u1), .val (.int u2), .val (.int u3), .val (.int (0 : Int32)), .val (.int b5), .val (.int b6), .val (.int tt), .val (.int kq), .val (.int l9), .val (.int l10), .val (.int len), .val (.ref a204), .val (.int (0 : Int32)), .val (.ref b229), .val (.int (1 : Int32))] [(.int (1 : Int32)), (.int kq)]))
              refine go _ _ (fun t' k' => XS.icmpYes X243h.here hx rfl (pc0 := 205) (pc' := 250) rfl (hb hby at_205) rfl (Free.XT.ii_lt_t ((own_lt hkn (j := 1) rfl).mpr (by omega))) (by decide) (by decide) k') ?_
              show G (T243.setTop (mkF m 250 #[.val (.int u0), .val (.int u1), .val (.int u2), .val (.int u3), .val (.int (0 : Int32)), .val (.int b5), .val (.int b6), .val (.int tt), .val (.int kq), .val (.int l9), .val (.int l10), .val (.int len), .val (.ref a204), .val (.int (0 : Int32)), .val (.ref b229), .val (.int (1 : Int32))] []))
              refine go _ _ (fun t' k' => XS.iload X243h.here hx rfl (hb hby at_250) rfl  k') ?_
              show G (T243.setTop (mkF m 252 #[.val (.int u0), .val (.int u1), .val (.int u2), .val (.int u3), .val (.int (0 : Int32)), .val (.int b5), .val (.int b6), .val (.int tt), .val (.int kq), .val (.int l9), .val (.int l10), .val (.int len), .val (.ref a204), .val (.int (0 : Int32)), .val (.ref b229), .val (.int (1 : Int32))] [(.int kq)]))
              refine go _ _ (fun t' k' => XS.iconst X243h.here hx rfl (hb hby at_252) k') ?_
              show G (T243.setTop (mkF m 253 #[.val (.int u0), .val (.int u1), .val (.int u2), .val (.int u3), .val (.int (0 : Int32)), .val (.int b5), .val (.int b6), .val (.int tt), .val (.int kq), .val (.int l9), .val (.int l10), .val (.int len), .val (.ref a204), .val (.int (0 : Int32)), .val (.ref b229), .val (.int (1 : Int32))] [(.int (2 : Int32)), (.int kq)]))
              refine go _ _ (fun t' k' => XS.icmpYes X243h.here hx rfl (pc0 := 253) (pc' := 292) rfl (hb hby at_253) rfl (Free.XT.ii_lt_t ((own_lt hkn (j := 2) rfl).mpr (by omega))) (by decide) (by decide) k') ?_
              show G (T243.setTop (mkF m 292 #[.val (.int u0), .val (.int u1), .val (.int u2), .val (.int u3), .val (.int (0 : Int32)), .val (.int b5), .val (.int b6), .val (.int tt), .val (.int kq), .val (.int l9), .val (.int l10), .val (.int len), .val (.ref a204), .val (.int (0 : Int32)), .val (.ref b229), .val (.int (1 : Int32))] []))
              refine go _ _ (fun t' k' => XS.iload X243h.here hx rfl (hb hby at_292) rfl  k') ?_
              show G (T243.setTop (mkF m 294 #[.val (.int u0), .val (.int u1), .val (.int u2), .val (.int u3), .val (.int (0 : Int32)), .val (.int b5), .val (.int b6), .val (.int tt), .val (.int kq), .val (.int l9), .val (.int l10), .val (.int len), .val (.ref a204), .val (.int (0 : Int32)), .val (.ref b229), .val (.int (1 : Int32))] [(.int (1 : Int32))]))
              refine own_retZ rt X243h hx (t := .boolean) hret (by simp) (hb hby at_294) (by decide) (by decide) ?_
              exact ⟨rfl, N243h⟩
          by_cases c244 : b6 = (0 : Int32)
          · refine go _ _ (fun t' k' => XS.ifYes X202.here hx rfl (pc0 := 67) (pc' := 74) rfl (hb hby at_67) rfl (Free.XT.i0_eq_t c244) (by decide) (by decide) k') ?_
            show G (T202.setTop (mkF m 74 #[.val (.int u0), .val (.int u1), .val (.int u2), .val (.int u3), .val (.int (0 : Int32)), .val (.int b5), .val (.int b6), .val (.int tt), .val (.int kq), .val (.int l9), .unset, .unset, .unset, .unset, .unset, .unset] []))
            refine go _ _ (fun t' k' => XS.iconst X202.here hx rfl (hb hby at_74) k') ?_
            show G (T202.setTop (mkF m 75 #[.val (.int u0), .val (.int u1), .val (.int u2), .val (.int u3), .val (.int (0 : Int32)), .val (.int b5), .val (.int b6), .val (.int tt), .val (.int kq), .val (.int l9), .unset, .unset, .unset, .unset, .unset, .unset] [(.int (1 : Int32))]))
            exact J75 T202 _ X202 e202 N202j _ 1 rfl (Or.inl ⟨c244, rfl⟩)
          · refine go _ _ (fun t' k' => XS.ifNo X202.here hx rfl (hb hby at_67) rfl (Free.XT.i0_eq_f c244) k') ?_
            show G (T202.setTop (mkF m 70 #[.val (.int u0), .val (.int u1), .val (.int u2), .val (.int u3), .val (.int (0 : Int32)), .val (.int b5), .val (.int b6), .val (.int tt), .val (.int kq), .val (.int l9), .unset, .unset, .unset, .unset, .unset, .unset] []))
            refine go _ _ (fun t' k' => XS.iconst X202.here hx rfl (hb hby at_70) k') ?_
            show G (T202.setTop (mkF m 71 #[.val (.int u0), .val (.int u1), .val (.int u2), .val (.int u3), .val (.int (0 : Int32)), .val (.int b5), .val (.int b6), .val (.int tt), .val (.int kq), .val (.int l9), .unset, .unset, .unset, .unset, .unset, .unset] [(.int (2 : Int32))]))
            refine go _ _ (fun t' k' => XS.goto X202.here hx rfl (pc0 := 71) (pc' := 75) rfl (hb hby at_71) (by decide) (by decide) k') ?_
            show G (T202.setTop (mkF m 75 #[.val (.int u0), .val (.int u1), .val (.int u2), .val (.int u3), .val (.int (0 : Int32)), .val (.int b5), .val (.int b6), .val (.int tt), .val (.int kq), .val (.int l9), .unset, .unset, .unset, .unset, .unset, .unset] [(.int (2 : Int32))]))
            exact J75 T202 _ X202 e202 N202j _ 2 rfl (Or.inr ⟨c244, rfl⟩)
        by_cases c245 : b5 = (0 : Int32)
        · refine go _ _ (fun t' k' => XS.ifYes X201h.here hx rfl (pc0 := 55) (pc' := 62) rfl (hb hby at_55) rfl (Free.XT.i0_eq_t c245) (by decide) (by decide) k') ?_
          show G (T201.setTop (mkF m 62 #[.val (.int u0), .val (.int u1), .val (.int u2), .val (.int u3), .val (.int (0 : Int32)), .val (.int b5), .val (.int b6), .val (.int tt), .val (.int kq), .unset, .unset, .unset, .unset, .unset, .unset, .unset] []))
          refine go _ _ (fun t' k' => XS.iconst X201h.here hx rfl (hb hby at_62) k') ?_
          show G (T201.setTop (mkF m 63 #[.val (.int u0), .val (.int u1), .val (.int u2), .val (.int u3), .val (.int (0 : Int32)), .val (.int b5), .val (.int b6), .val (.int tt), .val (.int kq), .unset, .unset, .unset, .unset, .unset, .unset, .unset] [(.int (1 : Int32))]))
          exact J63 T201 _ X201h hh201 N201h _ 1 rfl (Or.inl ⟨c245, rfl⟩)
        · refine go _ _ (fun t' k' => XS.ifNo X201h.here hx rfl (hb hby at_55) rfl (Free.XT.i0_eq_f c245) k') ?_
          show G (T201.setTop (mkF m 58 #[.val (.int u0), .val (.int u1), .val (.int u2), .val (.int u3), .val (.int (0 : Int32)), .val (.int b5), .val (.int b6), .val (.int tt), .val (.int kq), .unset, .unset, .unset, .unset, .unset, .unset, .unset] []))
          refine go _ _ (fun t' k' => XS.iconst X201h.here hx rfl (hb hby at_58) k') ?_
          show G (T201.setTop (mkF m 59 #[.val (.int u0), .val (.int u1), .val (.int u2), .val (.int u3), .val (.int (0 : Int32)), .val (.int b5), .val (.int b6), .val (.int tt), .val (.int kq), .unset, .unset, .unset, .unset, .unset, .unset, .unset] [(.int (2 : Int32))]))
          refine go _ _ (fun t' k' => XS.goto X201h.here hx rfl (pc0 := 59) (pc' := 63) rfl (hb hby at_59) (by decide) (by decide) k') ?_
          show G (T201.setTop (mkF m 63 #[.val (.int u0), .val (.int u1), .val (.int u2), .val (.int u3), .val (.int (0 : Int32)), .val (.int b5), .val (.int b6), .val (.int tt), .val (.int kq), .unset, .unset, .unset, .unset, .unset, .unset, .unset] [(.int (2 : Int32))]))
          exact J63 T201 _ X201h hh201 N201h _ 2 rfl (Or.inr ⟨c245, rfl⟩)
      by_cases c246 : (u0 &&& (8 : Int32)) = (0 : Int32)
      · refine go _ _ (fun t' k' => XS.ifYes X199.here hx rfl (pc0 := 24) (pc' := 31) rfl (hb hby at_24) rfl (Free.XT.i0_eq_t c246) (by decide) (by decide) k') ?_
        show G (T199.setTop (mkF m 31 #[.val (.int u0), .val (.int u1), .val (.int u2), .val (.int u3), .val (.int (0 : Int32)), .val (.int b5), .unset, .unset, .unset, .unset, .unset, .unset, .unset, .unset, .unset, .unset] []))
        refine go _ _ (fun t' k' => XS.iconst X199.here hx rfl (hb hby at_31) k') ?_
        show G (T199.setTop (mkF m 32 #[.val (.int u0), .val (.int u1), .val (.int u2), .val (.int u3), .val (.int (0 : Int32)), .val (.int b5), .unset, .unset, .unset, .unset, .unset, .unset, .unset, .unset, .unset, .unset] [(.int (0 : Int32))]))
        exact J32 T199 _ X199 e199 N199j _ 
      · refine go _ _ (fun t' k' => XS.ifNo X199.here hx rfl (hb hby at_24) rfl (Free.XT.i0_eq_f c246) k') ?_
        show G (T199.setTop (mkF m 27 #[.val (.int u0), .val (.int u1), .val (.int u2), .val (.int u3), .val (.int (0 : Int32)), .val (.int b5), .unset, .unset, .unset, .unset, .unset, .unset, .unset, .unset, .unset, .unset] []))
        refine go _ _ (fun t' k' => XS.iconst X199.here hx rfl (hb hby at_27) k') ?_
        show G (T199.setTop (mkF m 28 #[.val (.int u0), .val (.int u1), .val (.int u2), .val (.int u3), .val (.int (0 : Int32)), .val (.int b5), .unset, .unset, .unset, .unset, .unset, .unset, .unset, .unset, .unset, .unset] [(.int (1 : Int32))]))
        refine go _ _ (fun t' k' => XS.goto X199.here hx rfl (pc0 := 28) (pc' := 32) rfl (hb hby at_28) (by decide) (by decide) k') ?_
        show G (T199.setTop (mkF m 32 #[.val (.int u0), .val (.int u1), .val (.int u2), .val (.int u3), .val (.int (0 : Int32)), .val (.int b5), .unset, .unset, .unset, .unset, .unset, .unset, .unset, .unset, .unset, .unset] [(.int (1 : Int32))]))
        exact J32 T199 _ X199 e199 N199j _ 
    by_cases c247 : (u0 &&& (4 : Int32)) = (0 : Int32)
    · refine go _ _ (fun t' k' => XS.ifYes X0.here hx rfl (pc0 := 10) (pc' := 17) rfl (hb hby at_10) rfl (Free.XT.i0_eq_t c247) (by decide) (by decide) k') ?_
      show G (s₁.setTop (mkF m 17 #[.val (.int u0), .val (.int u1), .val (.int u2), .val (.int u3), .val (.int (0 : Int32)), .unset, .unset, .unset, .unset, .unset, .unset, .unset, .unset, .unset, .unset, .unset] []))
      refine go _ _ (fun t' k' => XS.iconst X0.here hx rfl (hb hby at_17) k') ?_
      show G (s₁.setTop (mkF m 18 #[.val (.int u0), .val (.int u1), .val (.int u2), .val (.int u3), .val (.int (0 : Int32)), .unset, .unset, .unset, .unset, .unset, .unset, .unset, .unset, .unset, .unset, .unset] [(.int (0 : Int32))]))
      exact J18 s₁ _ X0 e0 N0 _ 
    · refine go _ _ (fun t' k' => XS.ifNo X0.here hx rfl (hb hby at_10) rfl (Free.XT.i0_eq_f c247) k') ?_
      show G (s₁.setTop (mkF m 13 #[.val (.int u0), .val (.int u1), .val (.int u2), .val (.int u3), .val (.int (0 : Int32)), .unset, .unset, .unset, .unset, .unset, .unset, .unset, .unset, .unset, .unset, .unset] []))
      refine go _ _ (fun t' k' => XS.iconst X0.here hx rfl (hb hby at_13) k') ?_
      show G (s₁.setTop (mkF m 14 #[.val (.int u0), .val (.int u1), .val (.int u2), .val (.int u3), .val (.int (0 : Int32)), .unset, .unset, .unset, .unset, .unset, .unset, .unset, .unset, .unset, .unset, .unset] [(.int (1 : Int32))]))
      refine go _ _ (fun t' k' => XS.goto X0.here hx rfl (pc0 := 14) (pc' := 18) rfl (hb hby at_14) (by decide) (by decide) k') ?_
      show G (s₁.setTop (mkF m 18 #[.val (.int u0), .val (.int u1), .val (.int u2), .val (.int u3), .val (.int (0 : Int32)), .unset, .unset, .unset, .unset, .unset, .unset, .unset, .unset, .unset, .unset, .unset] [(.int (1 : Int32))]))
      exact J18 s₁ _ X0 e0 N0 _ 
  · clear hnn
    show G (s₁.setTop (mkF m 7 #[.val (.int u0), .val (.int u1), .val (.int u2), .val (.int u3), .val (.int (1 : Int32)), .unset, .unset, .unset, .unset, .unset, .unset, .unset, .unset, .unset, .unset, .unset] []))
    refine go _ _ (fun t' k' => XS.iloadN X0.here hx rfl (hb hby at_7) rfl  k') ?_
    show G (s₁.setTop (mkF m 8 #[.val (.int u0), .val (.int u1), .val (.int u2), .val (.int u3), .val (.int (1 : Int32)), .unset, .unset, .unset, .unset, .unset, .unset, .unset, .unset, .unset, .unset, .unset] [(.int u0)]))
    refine go _ _ (fun t' k' => XS.iconst X0.here hx rfl (hb hby at_8) k') ?_
    show G (s₁.setTop (mkF m 9 #[.val (.int u0), .val (.int u1), .val (.int u2), .val (.int u3), .val (.int (1 : Int32)), .unset, .unset, .unset, .unset, .unset, .unset, .unset, .unset, .unset, .unset, .unset] [(.int (4 : Int32)), (.int u0)]))
    refine go _ _ (fun t' k' => XS.iand X0.here hx rfl (hb hby at_9) rfl k') ?_
    show G (s₁.setTop (mkF m 10 #[.val (.int u0), .val (.int u1), .val (.int u2), .val (.int u3), .val (.int (1 : Int32)), .unset, .unset, .unset, .unset, .unset, .unset, .unset, .unset, .unset, .unset, .unset] [(.int (u0 &&& (4 : Int32)))]))
    have J18 : ∀ (T : State) (locs : List Loc), Stand p l e room_1 s m #[(.int u0), (.int u1), (.int u2), (.int u3)] below meth c T locs 0 0 → T.heap = h0 → Fr n0 locs → ∀ (b5 : Int32), G (T.setTop (mkF m 18 #[.val (.int u0), .val (.int u1), .val (.int u2), .val (.int u3), .val (.int (1 : Int32)), .unset, .unset, .unset, .unset, .unset, .unset, .unset, .unset, .unset, .unset, .unset] [(.int b5)])) := by
      intro T248 locs248 X248 e248 N248j b5 
      show G (T248.setTop (mkF m 18 #[.val (.int u0), .val (.int u1), .val (.int u2), .val (.int u3), .val (.int (1 : Int32)), .unset, .unset, .unset, .unset, .unset, .unset, .unset, .unset, .unset, .unset, .unset] [(.int b5)]))
      refine go _ _ (fun t' k' => XS.istore X248.here hx rfl (hb hby at_18) rfl (l' := #[.val (.int u0), .val (.int u1), .val (.int u2), .val (.int u3), .val (.int (1 : Int32)), .val (.int b5), .unset, .unset, .unset, .unset, .unset, .unset, .unset, .unset, .unset, .unset]) rfl k') ?_
      show G (T248.setTop (mkF m 20 #[.val (.int u0), .val (.int u1), .val (.int u2), .val (.int u3), .val (.int (1 : Int32)), .val (.int b5), .unset, .unset, .unset, .unset, .unset, .unset, .unset, .unset, .unset, .unset] []))
      refine go _ _ (fun t' k' => XS.iloadN X248.here hx rfl (hb hby at_20) rfl  k') ?_
      show G (T248.setTop (mkF m 21 #[.val (.int u0), .val (.int u1), .val (.int u2), .val (.int u3), .val (.int (1 : Int32)), .val (.int b5), .unset, .unset, .unset, .unset, .unset, .unset, .unset, .unset, .unset, .unset] [(.int u0)]))
      refine go _ _ (fun t' k' => XS.bipush X248.here hx rfl (hb hby at_21) k') ?_
      show G (T248.setTop (mkF m 23 #[.val (.int u0), .val (.int u1), .val (.int u2), .val (.int u3), .val (.int (1 : Int32)), .val (.int b5), .unset, .unset, .unset, .unset, .unset, .unset, .unset, .unset, .unset, .unset] [(.int (8 : Int32)), (.int u0)]))
      refine go _ _ (fun t' k' => XS.iand X248.here hx rfl (hb hby at_23) rfl k') ?_
      show G (T248.setTop (mkF m 24 #[.val (.int u0), .val (.int u1), .val (.int u2), .val (.int u3), .val (.int (1 : Int32)), .val (.int b5), .unset, .unset, .unset, .unset, .unset, .unset, .unset, .unset, .unset, .unset] [(.int (u0 &&& (8 : Int32)))]))
      have J32 : ∀ (T : State) (locs : List Loc), Stand p l e room_1 s m #[(.int u0), (.int u1), (.int u2), (.int u3)] below meth c T locs 0 0 → T.heap = h0 → Fr n0 locs → ∀ (b6 : Int32), G (T.setTop (mkF m 32 #[.val (.int u0), .val (.int u1), .val (.int u2), .val (.int u3), .val (.int (1 : Int32)), .val (.int b5), .unset, .unset, .unset, .unset, .unset, .unset, .unset, .unset, .unset, .unset] [(.int b6)])) := by
        intro T249 locs249 X249 e249 N249j b6 
        show G (T249.setTop (mkF m 32 #[.val (.int u0), .val (.int u1), .val (.int u2), .val (.int u3), .val (.int (1 : Int32)), .val (.int b5), .unset, .unset, .unset, .unset, .unset, .unset, .unset, .unset, .unset, .unset] [(.int b6)]))
        refine go _ _ (fun t' k' => XS.istore X249.here hx rfl (hb hby at_32) rfl (l' := #[.val (.int u0), .val (.int u1), .val (.int u2), .val (.int u3), .val (.int (1 : Int32)), .val (.int b5), .val (.int b6), .unset, .unset, .unset, .unset, .unset, .unset, .unset, .unset, .unset]) rfl k') ?_
        show G (T249.setTop (mkF m 34 #[.val (.int u0), .val (.int u1), .val (.int u2), .val (.int u3), .val (.int (1 : Int32)), .val (.int b5), .val (.int b6), .unset, .unset, .unset, .unset, .unset, .unset, .unset, .unset, .unset] []))
        refine go _ _ (fun t' k' => XS.iloadN X249.here hx rfl (hb hby at_34) rfl  k') ?_
        show G (T249.setTop (mkF m 35 #[.val (.int u0), .val (.int u1), .val (.int u2), .val (.int u3), .val (.int (1 : Int32)), .val (.int b5), .val (.int b6), .unset, .unset, .unset, .unset, .unset, .unset, .unset, .unset, .unset] [(.int u0)]))
        refine go _ _ (fun t' k' => XS.iconst X249.here hx rfl (hb hby at_35) k') ?_
        show G (T249.setTop (mkF m 36 #[.val (.int u0), .val (.int u1), .val (.int u2), .val (.int u3), .val (.int (1 : Int32)), .val (.int b5), .val (.int b6), .unset, .unset, .unset, .unset, .unset, .unset, .unset, .unset, .unset] [(.int (4 : Int32)), (.int u0)]))
        refine go _ _ (fun t' k' => XS.iushr X249.here hx rfl (hb hby at_36) rfl k') ?_
        show G (T249.setTop (mkF m 37 #[.val (.int u0), .val (.int u1), .val (.int u2), .val (.int u3), .val (.int (1 : Int32)), .val (.int b5), .val (.int b6), .unset, .unset, .unset, .unset, .unset, .unset, .unset, .unset, .unset] [(.int ((u0.toUInt32 >>> ((4 : Int32) &&& 31).toUInt32).toInt32))]))
        refine go _ _ (fun t' k' => XS.iconst X249.here hx rfl (hb hby at_37) k') ?_
        show G (T249.setTop (mkF m 38 #[.val (.int u0), .val (.int u1), .val (.int u2), .val (.int u3), .val (.int (1 : Int32)), .val (.int b5), .val (.int b6), .unset, .unset, .unset, .unset, .unset, .unset, .unset, .unset, .unset] [(.int (1 : Int32)), (.int ((u0.toUInt32 >>> ((4 : Int32) &&& 31).toUInt32).toInt32))]))
        refine go _ _ (fun t' k' => XS.iand X249.here hx rfl (hb hby at_38) rfl k') ?_
        show G (T249.setTop (mkF m 39 #[.val (.int u0), .val (.int u1), .val (.int u2), .val (.int u3), .val (.int (1 : Int32)), .val (.int b5), .val (.int b6), .unset, .unset, .unset, .unset, .unset, .unset, .unset, .unset, .unset] [(.int (((u0.toUInt32 >>> ((4 : Int32) &&& 31).toUInt32).toInt32) &&& (1 : Int32)))]))
        refine go _ _ (fun t' k' => XS.istore X249.here hx rfl (hb hby at_39) rfl (l' := #[.val (.int u0), .val (.int u1), .val (.int u2), .val (.int u3), .val (.int (1 : Int32)), .val (.int b5), .val (.int b6), .val (.int (((u0.toUInt32 >>> ((4 : Int32) &&& 31).toUInt32).toInt32) &&& (1 : Int32))), .unset, .unset, .unset, .unset, .unset, .unset, .unset, .unset]) rfl k') ?_
        show G (T249.setTop (mkF m 41 #[.val (.int u0), .val (.int u1), .val (.int u2), .val (.int u3), .val (.int (1 : Int32)), .val (.int b5), .val (.int b6), .val (.int (((u0.toUInt32 >>> ((4 : Int32) &&& 31).toUInt32).toInt32) &&& (1 : Int32))), .unset, .unset, .unset, .unset, .unset, .unset, .unset, .unset] []))
        obtain ⟨tt, htt⟩ : ∃ z, z = (((u0.toUInt32 >>> ((4 : Int32) &&& 31).toUInt32).toInt32) &&& (1 : Int32)) := ⟨_, rfl⟩
        rw [← htt]
        show G (T249.setTop (mkF m 41 #[.val (.int u0), .val (.int u1), .val (.int u2), .val (.int u3), .val (.int (1 : Int32)), .val (.int b5), .val (.int b6), .val (.int tt), .unset, .unset, .unset, .unset, .unset, .unset, .unset, .unset] []))
        obtain ⟨tn, htn, htn1⟩ := own_t01 htt
        refine go _ _ (fun t' k' => XS.iload X249.here hx rfl (hb hby at_41) rfl  k') ?_
        show G (T249.setTop (mkF m 43 #[.val (.int u0), .val (.int u1), .val (.int u2), .val (.int u3), .val (.int (1 : Int32)), .val (.int b5), .val (.int b6), .val (.int tt), .unset, .unset, .unset, .unset, .unset, .unset, .unset, .unset] [(.int (1 : Int32))]))
        refine go _ _ (fun t' k' => XS.iloadN X249.here hx rfl (hb hby at_43) rfl  k') ?_
        show G (T249.setTop (mkF m 44 #[.val (.int u0), .val (.int u1), .val (.int u2), .val (.int u3), .val (.int (1 : Int32)), .val (.int b5), .val (.int b6), .val (.int tt), .unset, .unset, .unset, .unset, .unset, .unset, .unset, .unset] [(.int u0), (.int (1 : Int32))]))
        refine go _ _ (fun t' k' => XS.iconst X249.here hx rfl (hb hby at_44) k') ?_
        show G (T249.setTop (mkF m 45 #[.val (.int u0), .val (.int u1), .val (.int u2), .val (.int u3), .val (.int (1 : Int32)), .val (.int b5), .val (.int b6), .val (.int tt), .unset, .unset, .unset, .unset, .unset, .unset, .unset, .unset] [(.int (5 : Int32)), (.int u0), (.int (1 : Int32))]))
        refine go _ _ (fun t' k' => XS.iushr X249.here hx rfl (hb hby at_45) rfl k') ?_
        show G (T249.setTop (mkF m 46 #[.val (.int u0), .val (.int u1), .val (.int u2), .val (.int u3), .val (.int (1 : Int32)), .val (.int b5), .val (.int b6), .val (.int tt), .unset, .unset, .unset, .unset, .unset, .unset, .unset, .unset] [(.int ((u0.toUInt32 >>> ((5 : Int32) &&& 31).toUInt32).toInt32)), (.int (1 : Int32))]))
        refine go _ _ (fun t' k' => XS.iconst X249.here hx rfl (hb hby at_46) k') ?_
        show G (T249.setTop (mkF m 47 #[.val (.int u0), .val (.int u1), .val (.int u2), .val (.int u3), .val (.int (1 : Int32)), .val (.int b5), .val (.int b6), .val (.int tt), .unset, .unset, .unset, .unset, .unset, .unset, .unset, .unset] [(.int (3 : Int32)), (.int ((u0.toUInt32 >>> ((5 : Int32) &&& 31).toUInt32).toInt32)), (.int (1 : Int32))]))
        refine go _ _ (fun t' k' => XS.iand X249.here hx rfl (hb hby at_47) rfl k') ?_
        show G (T249.setTop (mkF m 48 #[.val (.int u0), .val (.int u1), .val (.int u2), .val (.int u3), .val (.int (1 : Int32)), .val (.int b5), .val (.int b6), .val (.int tt), .unset, .unset, .unset, .unset, .unset, .unset, .unset, .unset] [(.int (((u0.toUInt32 >>> ((5 : Int32) &&& 31).toUInt32).toInt32) &&& (3 : Int32))), (.int (1 : Int32))]))
        refine own_static go X249 hx hZ e249 hown (hw _ (List.mem_of_getElem? (i := 0) rfl)) (hw _ (List.mem_of_getElem? (i := 1) rfl)) (hw _ (List.mem_of_getElem? (i := 2) rfl)) (hw _ (List.mem_of_getElem? (i := 3) rfl)) (by decide) (rm_min l Z a0 hw (1 : Int32) (((u0.toUInt32 >>> ((5 : Int32) &&& 31).toUInt32).toInt32) &&& (3 : Int32)) h0 n0 Z0) 0 (by decide) (by decide) (by decide) (by decide) (g := (mkF m 48 #[.val (.int u0), .val (.int u1), .val (.int u2), .val (.int u3), .val (.int (1 : Int32)), .val (.int b5), .val (.int b6), .val (.int tt), .unset, .unset, .unset, .unset, .unset, .unset, .unset, .unset] [(.int (((u0.toUInt32 >>> ((5 : Int32) &&& 31).toUInt32).toInt32) &&& (3 : Int32))), (.int (1 : Int32))])) rfl (by rw [hml]; rfl) [(.int (1 : Int32)), (.int (((u0.toUInt32 >>> ((5 : Int32) &&& 31).toUInt32).toInt32) &&& (3 : Int32)))] [] rfl (lenOf pd_5 rfl) rfl (by show 2 * 0 + _ ≤ _; exact Nat.le_of_eq rfl) (hb hby at_48) ?_
        intro T250 L250 v250 X250 q250
        obtain ⟨rfl, N250, hh250⟩ := q250
        obtain ⟨lc250, X250h, N250h⟩ := own_hide X250 (Fr.app N249j N250)
        show G (T250.setTop (mkF m 51 #[.val (.int u0), .val (.int u1), .val (.int u2), .val (.int u3), .val (.int (1 : Int32)), .val (.int b5), .val (.int b6), .val (.int tt), .unset, .unset, .unset, .unset, .unset, .unset, .unset, .unset] [(.int (if (((u0.toUInt32 >>> ((5 : Int32) &&& 31).toUInt32).toInt32) &&& (3 : Int32)) < (1 : Int32) then (((u0.toUInt32 >>> ((5 : Int32) &&& 31).toUInt32).toInt32) &&& (3 : Int32)) else (1 : Int32)))]))
        refine go _ _ (fun t' k' => XS.istore X250h.here hx rfl (hb hby at_51) rfl (l' := #[.val (.int u0), .val (.int u1), .val (.int u2), .val (.int u3), .val (.int (1 : Int32)), .val (.int b5), .val (.int b6), .val (.int tt), .val (.int (if (((u0.toUInt32 >>> ((5 : Int32) &&& 31).toUInt32).toInt32) &&& (3 : Int32)) < (1 : Int32) then (((u0.toUInt32 >>> ((5 : Int32) &&& 31).toUInt32).toInt32) &&& (3 : Int32)) else (1 : Int32))), .unset, .unset, .unset, .unset, .unset, .unset, .unset]) rfl k') ?_
        show G (T250.setTop (mkF m 53 #[.val (.int u0), .val (.int u1), .val (.int u2), .val (.int u3), .val (.int (1 : Int32)), .val (.int b5), .val (.int b6), .val (.int tt), .val (.int (if (((u0.toUInt32 >>> ((5 : Int32) &&& 31).toUInt32).toInt32) &&& (3 : Int32)) < (1 : Int32) then (((u0.toUInt32 >>> ((5 : Int32) &&& 31).toUInt32).toInt32) &&& (3 : Int32)) else (1 : Int32))), .unset, .unset, .unset, .unset, .unset, .unset, .unset] []))
        obtain ⟨kq, hkq⟩ : ∃ z, z = (if (((u0.toUInt32 >>> ((5 : Int32) &&& 31).toUInt32).toInt32) &&& (3 : Int32)) < (1 : Int32) then (((u0.toUInt32 >>> ((5 : Int32) &&& 31).toUInt32).toInt32) &&& (3 : Int32)) else (1 : Int32)) := ⟨_, rfl⟩
        rw [← hkq]
        show G (T250.setTop (mkF m 53 #[.val (.int u0), .val (.int u1), .val (.int u2), .val (.int u3), .val (.int (1 : Int32)), .val (.int b5), .val (.int b6), .val (.int tt), .val (.int kq), .unset, .unset, .unset, .unset, .unset, .unset, .unset] []))
        obtain ⟨kn, hkn, hkn2⟩ := own_kq hkq (by decide)
        have hkn3 : kn ≤ 1 := by have e : (1 : Int32).toInt = 1 := rfl; omega
        refine go _ _ (fun t' k' => XS.iload X250h.here hx rfl (hb hby at_53) rfl  k') ?_
        show G (T250.setTop (mkF m 55 #[.val (.int u0), .val (.int u1), .val (.int u2), .val (.int u3), .val (.int (1 : Int32)), .val (.int b5), .val (.int b6), .val (.int tt), .val (.int kq), .unset, .unset, .unset, .unset, .unset, .unset, .unset] [(.int b5)]))
        have J63 : ∀ (T : State) (locs : List Loc), Stand p l e room_1 s m #[(.int u0), (.int u1), (.int u2), (.int u3)] below meth c T locs 0 0 → T.heap = h0 → Fr n0 locs → ∀ (l9 : Int32) (w0 : Nat), (l9.toInt = w0) → ((b5 = 0 ∧ w0 = 1) ∨ (¬ b5 = 0 ∧ w0 = 2)) → G (T.setTop (mkF m 63 #[.val (.int u0), .val (.int u1), .val (.int u2), .val (.int u3), .val (.int (1 : Int32)), .val (.int b5), .val (.int b6), .val (.int tt), .val (.int kq), .unset, .unset, .unset, .unset, .unset, .unset, .unset] [(.int l9)])) := by
          intro T251 locs251 X251 e251 N251j l9 w0 hl9 hw0
          show G (T251.setTop (mkF m 63 #[.val (.int u0), .val (.int u1), .val (.int u2), .val (.int u3), .val (.int (1 : Int32)), .val (.int b5), .val (.int b6), .val (.int tt), .val (.int kq), .unset, .unset, .unset, .unset, .unset, .unset, .unset] [(.int l9)]))
          refine go _ _ (fun t' k' => XS.istore X251.here hx rfl (hb hby at_63) rfl (l' := #[.val (.int u0), .val (.int u1), .val (.int u2), .val (.int u3), .val (.int (1 : Int32)), .val (.int b5), .val (.int b6), .val (.int tt), .val (.int kq), .val (.int l9), .unset, .unset, .unset, .unset, .unset, .unset]) rfl k') ?_
          show G (T251.setTop (mkF m 65 #[.val (.int u0), .val (.int u1), .val (.int u2), .val (.int u3), .val (.int (1 : Int32)), .val (.int b5), .val (.int b6), .val (.int tt), .val (.int kq), .val (.int l9), .unset, .unset, .unset, .unset, .unset, .unset] []))
          refine go _ _ (fun t' k' => XS.iload X251.here hx rfl (hb hby at_65) rfl  k') ?_
          show G (T251.setTop (mkF m 67 #[.val (.int u0), .val (.int u1), .val (.int u2), .val (.int u3), .val (.int (1 : Int32)), .val (.int b5), .val (.int b6), .val (.int tt), .val (.int kq), .val (.int l9), .unset, .unset, .unset, .unset, .unset, .unset] [(.int b6)]))
          have J75 : ∀ (T : State) (locs : List Loc), Stand p l e room_1 s m #[(.int u0), (.int u1), (.int u2), (.int u3)] below meth c T locs 0 0 → T.heap = h0 → Fr n0 locs → ∀ (l10 : Int32) (w1 : Nat), (l10.toInt = w1) → ((b6 = 0 ∧ w1 = 1) ∨ (¬ b6 = 0 ∧ w1 = 2)) → G (T.setTop (mkF m 75 #[.val (.int u0), .val (.int u1), .val (.int u2), .val (.int u3), .val (.int (1 : Int32)), .val (.int b5), .val (.int b6), .val (.int tt), .val (.int kq), .val (.int l9), .unset, .unset, .unset, .unset, .unset, .unset] [(.int l10)])) := by
            intro T252 locs252 X252 e252 N252j l10 w1 hl10 hw1
            show G (T252.setTop (mkF m 75 #[.val (.int u0), .val (.int u1), .val (.int u2), .val (.int u3), .val (.int (1 : Int32)), .val (.int b5), .val (.int b6), .val (.int tt), .val (.int kq), .val (.int l9), .unset, .unset, .unset, .unset, .unset, .unset] [(.int l10)]))
            refine go _ _ (fun t' k' => XS.istore X252.here hx rfl (hb hby at_75) rfl (l' := #[.val (.int u0), .val (.int u1), .val (.int u2), .val (.int u3), .val (.int (1 : Int32)), .val (.int b5), .val (.int b6), .val (.int tt), .val (.int kq), .val (.int l9), .val (.int l10), .unset, .unset, .unset, .unset, .unset]) rfl k') ?_
            show G (T252.setTop (mkF m 77 #[.val (.int u0), .val (.int u1), .val (.int u2), .val (.int u3), .val (.int (1 : Int32)), .val (.int b5), .val (.int b6), .val (.int tt), .val (.int kq), .val (.int l9), .val (.int l10), .unset, .unset, .unset, .unset, .unset] []))
            refine go _ _ (fun t' k' => XS.iload X252.here hx rfl (hb hby at_77) rfl  k') ?_
            show G (T252.setTop (mkF m 79 #[.val (.int u0), .val (.int u1), .val (.int u2), .val (.int u3), .val (.int (1 : Int32)), .val (.int b5), .val (.int b6), .val (.int tt), .val (.int kq), .val (.int l9), .val (.int l10), .unset, .unset, .unset, .unset, .unset] [(.int (1 : Int32))]))
            refine go _ _ (fun t' k' => XS.iconst X252.here hx rfl (hb hby at_79) k') ?_
            show G (T252.setTop (mkF m 80 #[.val (.int u0), .val (.int u1), .val (.int u2), .val (.int u3), .val (.int (1 : Int32)), .val (.int b5), .val (.int b6), .val (.int tt), .val (.int kq), .val (.int l9), .val (.int l10), .unset, .unset, .unset, .unset, .unset] [(.int (1 : Int32)), (.int (1 : Int32))]))
            refine go _ _ (fun t' k' => XS.icmpNo X252.here hx rfl (hb hby at_80) rfl (Free.XT.ii_lt_f (by decide)) k') ?_
            show G (T252.setTop (mkF m 83 #[.val (.int u0), .val (.int u1), .val (.int u2), .val (.int u3), .val (.int (1 : Int32)), .val (.int b5), .val (.int b6), .val (.int tt), .val (.int kq), .val (.int l9), .val (.int l10), .unset, .unset, .unset, .unset, .unset] []))
            refine go _ _ (fun t' k' => XS.iload X252.here hx rfl (hb hby at_83) rfl  k') ?_
            show G (T252.setTop (mkF m 85 #[.val (.int u0), .val (.int u1), .val (.int u2), .val (.int u3), .val (.int (1 : Int32)), .val (.int b5), .val (.int b6), .val (.int tt), .val (.int kq), .val (.int l9), .val (.int l10), .unset, .unset, .unset, .unset, .unset] [(.int l9)]))
            refine go _ _ (fun t' k' => XS.goto X252.here hx rfl (pc0 := 85) (pc' := 89) rfl (hb hby at_85) (by decide) (by decide) k') ?_
            show G (T252.setTop (mkF m 89 #[.val (.int u0), .val (.int u1), .val (.int u2), .val (.int u3), .val (.int (1 : Int32)), .val (.int b5), .val (.int b6), .val (.int tt), .val (.int kq), .val (.int l9), .val (.int l10), .unset, .unset, .unset, .unset, .unset] [(.int l9)]))
            refine go _ _ (fun t' k' => XS.iload X252.here hx rfl (hb hby at_89) rfl  k') ?_
            show G (T252.setTop (mkF m 91 #[.val (.int u0), .val (.int u1), .val (.int u2), .val (.int u3), .val (.int (1 : Int32)), .val (.int b5), .val (.int b6), .val (.int tt), .val (.int kq), .val (.int l9), .val (.int l10), .unset, .unset, .unset, .unset, .unset] [(.int (1 : Int32)), (.int l9)]))
            refine go _ _ (fun t' k' => XS.iconst X252.here hx rfl (hb hby at_91) k') ?_
            show G (T252.setTop (mkF m 92 #[.val (.int u0), .val (.int u1), .val (.int u2), .val (.int u3), .val (.int (1 : Int32)), .val (.int b5), .val (.int b6), .val (.int tt), .val (.int kq), .val (.int l9), .val (.int l10), .unset, .unset, .unset, .unset, .unset] [(.int (2 : Int32)), (.int (1 : Int32)), (.int l9)]))
            refine go _ _ (fun t' k' => XS.icmpYes X252.here hx rfl (pc0 := 92) (pc' := 100) rfl (hb hby at_92) rfl (Free.XT.ii_lt_t (by decide)) (by decide) (by decide) k') ?_
            show G (T252.setTop (mkF m 100 #[.val (.int u0), .val (.int u1), .val (.int u2), .val (.int u3), .val (.int (1 : Int32)), .val (.int b5), .val (.int b6), .val (.int tt), .val (.int kq), .val (.int l9), .val (.int l10), .unset, .unset, .unset, .unset, .unset] [(.int l9)]))
            refine go _ _ (fun t' k' => XS.iconst X252.here hx rfl (hb hby at_100) k') ?_
            show G (T252.setTop (mkF m 101 #[.val (.int u0), .val (.int u1), .val (.int u2), .val (.int u3), .val (.int (1 : Int32)), .val (.int b5), .val (.int b6), .val (.int tt), .val (.int kq), .val (.int l9), .val (.int l10), .unset, .unset, .unset, .unset, .unset] [(.int (0 : Int32)), (.int l9)]))
            refine go _ _ (fun t' k' => XS.iadd X252.here hx rfl (hb hby at_101) rfl k') ?_
            show G (T252.setTop (mkF m 102 #[.val (.int u0), .val (.int u1), .val (.int u2), .val (.int u3), .val (.int (1 : Int32)), .val (.int b5), .val (.int b6), .val (.int tt), .val (.int kq), .val (.int l9), .val (.int l10), .unset, .unset, .unset, .unset, .unset] [(.int (l9 + (0 : Int32)))]))
            refine go _ _ (fun t' k' => XS.iload X252.here hx rfl (hb hby at_102) rfl  k') ?_
            show G (T252.setTop (mkF m 104 #[.val (.int u0), .val (.int u1), .val (.int u2), .val (.int u3), .val (.int (1 : Int32)), .val (.int b5), .val (.int b6), .val (.int tt), .val (.int kq), .val (.int l9), .val (.int l10), .unset, .unset, .unset, .unset, .unset] [(.int tt), (.int (l9 + (0 : Int32)))]))
            refine go _ _ (fun t' k' => XS.iadd X252.here hx rfl (hb hby at_104) rfl k') ?_
            show G (T252.setTop (mkF m 105 #[.val (.int u0), .val (.int u1), .val (.int u2), .val (.int u3), .val (.int (1 : Int32)), .val (.int b5), .val (.int b6), .val (.int tt), .val (.int kq), .val (.int l9), .val (.int l10), .unset, .unset, .unset, .unset, .unset] [(.int ((l9 + (0 : Int32)) + tt))]))
            refine go _ _ (fun t' k' => XS.istore X252.here hx rfl (hb hby at_105) rfl (l' := #[.val (.int u0), .val (.int u1), .val (.int u2), .val (.int u3), .val (.int (1 : Int32)), .val (.int b5), .val (.int b6), .val (.int tt), .val (.int kq), .val (.int l9), .val (.int l10), .val (.int ((l9 + (0 : Int32)) + tt)), .unset, .unset, .unset, .unset]) rfl k') ?_
            show G (T252.setTop (mkF m 107 #[.val (.int u0), .val (.int u1), .val (.int u2), .val (.int u3), .val (.int (1 : Int32)), .val (.int b5), .val (.int b6), .val (.int tt), .val (.int kq), .val (.int l9), .val (.int l10), .val (.int ((l9 + (0 : Int32)) + tt)), .unset, .unset, .unset, .unset] []))
            obtain ⟨len, hlen⟩ : ∃ z, z = ((l9 + (0 : Int32)) + tt) := ⟨_, rfl⟩
            rw [← hlen]
            show G (T252.setTop (mkF m 107 #[.val (.int u0), .val (.int u1), .val (.int u2), .val (.int u3), .val (.int (1 : Int32)), .val (.int b5), .val (.int b6), .val (.int tt), .val (.int kq), .val (.int l9), .val (.int l10), .val (.int len), .unset, .unset, .unset, .unset] []))
            have hwb0 : w0 = 1 ∨ w0 = 2 := hw0.elim (fun z => Or.inl z.2) (fun z => Or.inr z.2)
            have hwb1 : w1 = 1 ∨ w1 = 2 := hw1.elim (fun z => Or.inl z.2) (fun z => Or.inr z.2)
            obtain ⟨ln, hlnE⟩ : ∃ ln : Nat, ln = w0 + 0 + tn := ⟨_, rfl⟩
            have hln : len.toInt = ln := by rw [hlen, hlnE]; exact own_add (own_add hl9 rfl (by omega)) htn (by omega)
            refine go _ _ (fun t' k' => XS.iload X252.here hx rfl (hb hby at_107) rfl  k') ?_
            show G (T252.setTop (mkF m 109 #[.val (.int u0), .val (.int u1), .val (.int u2), .val (.int u3), .val (.int (1 : Int32)), .val (.int b5), .val (.int b6), .val (.int tt), .val (.int kq), .val (.int l9), .val (.int l10), .val (.int len), .unset, .unset, .unset, .unset] [(.int len)]))
            refine own_static go X252 hx hZ e252 hown (hw _ (List.mem_of_getElem? (i := 4) rfl)) (hw _ (List.mem_of_getElem? (i := 5) rfl)) (hw _ (List.mem_of_getElem? (i := 6) rfl)) (hw _ (List.mem_of_getElem? (i := 7) rfl)) (by decide) (rm_al l Z a0 hw len ln h0 n0 Z0 hln (by omega)) 0 (by decide) (by decide) (by decide) (by decide) (g := (mkF m 109 #[.val (.int u0), .val (.int u1), .val (.int u2), .val (.int u3), .val (.int (1 : Int32)), .val (.int b5), .val (.int b6), .val (.int tt), .val (.int kq), .val (.int l9), .val (.int l10), .val (.int len), .unset, .unset, .unset, .unset] [(.int len)])) rfl (by rw [hml]; rfl) [(.int len)] [] rfl (lenOf pd_6 rfl) rfl (by show 2 * 0 + _ ≤ _; exact Nat.le_of_eq rfl) (hb hby at_109) ?_
            intro T253 L253 v253 X253 q253
            obtain ⟨a253, rfl, N253, K253, A253, g_a253, ga253⟩ := q253
            have ns254 : ∀ w ∈ [], ∃ c : Cell, h0[w]? = some c ∧ c.vm.isStatics = false := all0
            obtain ⟨lc253, X253h, N253h⟩ := own_hide X253 (Fr.app N252j N253)
            have K255 : Keep h0 T253.heap [] := (Keep.refl h0 []).trans K253 all0
            have Z256 : n0 ≤ T253.heap.size := Nat.le_trans Z0 K253.1
            have sz_a253 : h0.size ≤ a253 := Nat.le_trans (Keep.refl h0 []).1 (Nat.le_of_eq ga253.symm)
            obtain ⟨g0, Ag0⟩ := A253.ints (by simp)
            show G (T253.setTop (mkF m 112 #[.val (.int u0), .val (.int u1), .val (.int u2), .val (.int u3), .val (.int (1 : Int32)), .val (.int b5), .val (.int b6), .val (.int tt), .val (.int kq), .val (.int l9), .val (.int l10), .val (.int len), .unset, .unset, .unset, .unset] [(.ref a253)]))
            refine go _ _ (fun t' k' => XS.astore X253h.here hx rfl (hb hby at_112) rfl rfl (l' := #[.val (.int u0), .val (.int u1), .val (.int u2), .val (.int u3), .val (.int (1 : Int32)), .val (.int b5), .val (.int b6), .val (.int tt), .val (.int kq), .val (.int l9), .val (.int l10), .val (.int len), .val (.ref a253), .unset, .unset, .unset]) rfl k') ?_
            show G (T253.setTop (mkF m 114 #[.val (.int u0), .val (.int u1), .val (.int u2), .val (.int u3), .val (.int (1 : Int32)), .val (.int b5), .val (.int b6), .val (.int tt), .val (.int kq), .val (.int l9), .val (.int l10), .val (.int len), .val (.ref a253), .unset, .unset, .unset] []))
            refine go _ _ (fun t' k' => XS.iconst X253h.here hx rfl (hb hby at_114) k') ?_
            show G (T253.setTop (mkF m 115 #[.val (.int u0), .val (.int u1), .val (.int u2), .val (.int u3), .val (.int (1 : Int32)), .val (.int b5), .val (.int b6), .val (.int tt), .val (.int kq), .val (.int l9), .val (.int l10), .val (.int len), .val (.ref a253), .unset, .unset, .unset] [(.int (0 : Int32))]))
            refine go _ _ (fun t' k' => XS.istore X253h.here hx rfl (hb hby at_115) rfl (l' := #[.val (.int u0), .val (.int u1), .val (.int u2), .val (.int u3), .val (.int (1 : Int32)), .val (.int b5), .val (.int b6), .val (.int tt), .val (.int kq), .val (.int l9), .val (.int l10), .val (.int len), .val (.ref a253), .val (.int (0 : Int32)), .unset, .unset]) rfl k') ?_
            show G (T253.setTop (mkF m 117 #[.val (.int u0), .val (.int u1), .val (.int u2), .val (.int u3), .val (.int (1 : Int32)), .val (.int b5), .val (.int b6), .val (.int tt), .val (.int kq), .val (.int l9), .val (.int l10), .val (.int len), .val (.ref a253), .val (.int (0 : Int32)), .unset, .unset] []))
            refine go _ _ (fun t' k' => XS.iload X253h.here hx rfl (hb hby at_117) rfl  k') ?_
            show G (T253.setTop (mkF m 119 #[.val (.int u0), .val (.int u1), .val (.int u2), .val (.int u3), .val (.int (1 : Int32)), .val (.int b5), .val (.int b6), .val (.int tt), .val (.int kq), .val (.int l9), .val (.int l10), .val (.int len), .val (.ref a253), .val (.int (0 : Int32)), .unset, .unset] [(.int (1 : Int32))]))
            refine go _ _ (fun t' k' => XS.iconst X253h.here hx rfl (hb hby at_119) k') ?_
            show G (T253.setTop (mkF m 120 #[.val (.int u0), .val (.int u1), .val (.int u2), .val (.int u3), .val (.int (1 : Int32)), .val (.int b5), .val (.int b6), .val (.int tt), .val (.int kq), .val (.int l9), .val (.int l10), .val (.int len), .val (.ref a253), .val (.int (0 : Int32)), .unset, .unset] [(.int (1 : Int32)), (.int (1 : Int32))]))
            refine go _ _ (fun t' k' => XS.icmpNo X253h.here hx rfl (hb hby at_120) rfl (Free.XT.ii_lt_f (by decide)) k') ?_
            show G (T253.setTop (mkF m 123 #[.val (.int u0), .val (.int u1), .val (.int u2), .val (.int u3), .val (.int (1 : Int32)), .val (.int b5), .val (.int b6), .val (.int tt), .val (.int kq), .val (.int l9), .val (.int l10), .val (.int len), .val (.ref a253), .val (.int (0 : Int32)), .unset, .unset] []))
            refine go _ _ (fun t' k' => XS.aload X253h.here hx rfl (hb hby at_123) rfl rfl  k') ?_
            show G (T253.setTop (mkF m 125 #[.val (.int u0), .val (.int u1), .val (.int u2), .val (.int u3), .val (.int (1 : Int32)), .val (.int b5), .val (.int b6), .val (.int tt), .val (.int kq), .val (.int l9), .val (.int l10), .val (.int len), .val (.ref a253), .val (.int (0 : Int32)), .unset, .unset] [(.ref a253)]))
            refine go _ _ (fun t' k' => XS.iload X253h.here hx rfl (hb hby at_125) rfl  k') ?_
            show G (T253.setTop (mkF m 127 #[.val (.int u0), .val (.int u1), .val (.int u2), .val (.int u3), .val (.int (1 : Int32)), .val (.int b5), .val (.int b6), .val (.int tt), .val (.int kq), .val (.int l9), .val (.int l10), .val (.int len), .val (.ref a253), .val (.int (0 : Int32)), .unset, .unset] [(.int (0 : Int32)), (.ref a253)]))
            refine go _ _ (fun t' k' => XS.iload X253h.here hx rfl (hb hby at_127) rfl  k') ?_
            show G (T253.setTop (mkF m 129 #[.val (.int u0), .val (.int u1), .val (.int u2), .val (.int u3), .val (.int (1 : Int32)), .val (.int b5), .val (.int b6), .val (.int tt), .val (.int kq), .val (.int l9), .val (.int l10), .val (.int len), .val (.ref a253), .val (.int (0 : Int32)), .unset, .unset] [(.int b5), (.int (0 : Int32)), (.ref a253)]))
            refine go _ _ (fun t' k' => XS.iloadN X253h.here hx rfl (hb hby at_129) rfl  k') ?_
            show G (T253.setTop (mkF m 130 #[.val (.int u0), .val (.int u1), .val (.int u2), .val (.int u3), .val (.int (1 : Int32)), .val (.int b5), .val (.int b6), .val (.int tt), .val (.int kq), .val (.int l9), .val (.int l10), .val (.int len), .val (.ref a253), .val (.int (0 : Int32)), .unset, .unset] [(.int u1), (.int b5), (.int (0 : Int32)), (.ref a253)]))
            refine own_static go X253h hx hZ rfl hown (hw _ (List.mem_of_getElem? (i := 30) rfl)) (hw _ (List.mem_of_getElem? (i := 31) rfl)) (hw _ (List.mem_of_getElem? (i := 6) rfl)) (hw _ (List.mem_of_getElem? (i := 32) rfl)) (by decide) (rm_pu l Z a0 hw a253 (0 : Int32) b5 u1 0 ln w0 g0 T253.heap n0 Z256 g_a253 Ag0 rfl (by omega) hw0 (by omega)) 0 (by decide) (by decide) (by decide) (by decide) (g := (mkF m 130 #[.val (.int u0), .val (.int u1), .val (.int u2), .val (.int u3), .val (.int (1 : Int32)), .val (.int b5), .val (.int b6), .val (.int tt), .val (.int kq), .val (.int l9), .val (.int l10), .val (.int len), .val (.ref a253), .val (.int (0 : Int32)), .unset, .unset] [(.int u1), (.int b5), (.int (0 : Int32)), (.ref a253)])) rfl (by rw [hml]; rfl) [(.ref a253), (.int (0 : Int32)), (.int b5), (.int u1)] [] rfl (lenOf pd_8 rfl) rfl (by show 2 * 0 + _ ≤ _; exact Nat.le_of_eq rfl) (hb hby at_130) ?_
            intro T257 L257 v257 X257 q257
            obtain ⟨⟨y257, rfl, hy257⟩, N257, K257, g257, A257, H257, U257⟩ := q257
            have ns258 : ∀ w ∈ [a253], ∃ c : Cell, T253.heap[w]? = some c ∧ c.vm.isStatics = false := (allS (own_ary_ns Ag0) all0)
            obtain ⟨lc257, X257h, N257h⟩ := own_hide X257 (Fr.app N253h N257)
            have K259 : Keep h0 T257.heap [] := K255.trans K257 (allS (Or.inr sz_a253) all0)
            have Z260 : n0 ≤ T257.heap.size := Nat.le_trans Z256 K257.1
            show G (T257.setTop (mkF m 133 #[.val (.int u0), .val (.int u1), .val (.int u2), .val (.int u3), .val (.int (1 : Int32)), .val (.int b5), .val (.int b6), .val (.int tt), .val (.int kq), .val (.int l9), .val (.int l10), .val (.int len), .val (.ref a253), .val (.int (0 : Int32)), .unset, .unset] [(.int y257)]))
            refine go _ _ (fun t' k' => XS.istore X257h.here hx rfl (hb hby at_133) rfl (l' := #[.val (.int u0), .val (.int u1), .val (.int u2), .val (.int u3), .val (.int (1 : Int32)), .val (.int b5), .val (.int b6), .val (.int tt), .val (.int kq), .val (.int l9), .val (.int l10), .val (.int len), .val (.ref a253), .val (.int y257), .unset, .unset]) rfl k') ?_
            show G (T257.setTop (mkF m 135 #[.val (.int u0), .val (.int u1), .val (.int u2), .val (.int u3), .val (.int (1 : Int32)), .val (.int b5), .val (.int b6), .val (.int tt), .val (.int kq), .val (.int l9), .val (.int l10), .val (.int len), .val (.ref a253), .val (.int y257), .unset, .unset] []))
            refine go _ _ (fun t' k' => XS.iload X257h.here hx rfl (hb hby at_135) rfl  k') ?_
            show G (T257.setTop (mkF m 137 #[.val (.int u0), .val (.int u1), .val (.int u2), .val (.int u3), .val (.int (1 : Int32)), .val (.int b5), .val (.int b6), .val (.int tt), .val (.int kq), .val (.int l9), .val (.int l10), .val (.int len), .val (.ref a253), .val (.int y257), .unset, .unset] [(.int (1 : Int32))]))
            refine go _ _ (fun t' k' => XS.iconst X257h.here hx rfl (hb hby at_137) k') ?_
            show G (T257.setTop (mkF m 138 #[.val (.int u0), .val (.int u1), .val (.int u2), .val (.int u3), .val (.int (1 : Int32)), .val (.int b5), .val (.int b6), .val (.int tt), .val (.int kq), .val (.int l9), .val (.int l10), .val (.int len), .val (.ref a253), .val (.int y257), .unset, .unset] [(.int (2 : Int32)), (.int (1 : Int32))]))
            refine go _ _ (fun t' k' => XS.icmpYes X257h.here hx rfl (pc0 := 138) (pc' := 153) rfl (hb hby at_138) rfl (Free.XT.ii_lt_t (by decide)) (by decide) (by decide) k') ?_
            show G (T257.setTop (mkF m 153 #[.val (.int u0), .val (.int u1), .val (.int u2), .val (.int u3), .val (.int (1 : Int32)), .val (.int b5), .val (.int b6), .val (.int tt), .val (.int kq), .val (.int l9), .val (.int l10), .val (.int len), .val (.ref a253), .val (.int y257), .unset, .unset] []))
            refine go _ _ (fun t' k' => XS.iload X257h.here hx rfl (hb hby at_153) rfl  k') ?_
            show G (T257.setTop (mkF m 155 #[.val (.int u0), .val (.int u1), .val (.int u2), .val (.int u3), .val (.int (1 : Int32)), .val (.int b5), .val (.int b6), .val (.int tt), .val (.int kq), .val (.int l9), .val (.int l10), .val (.int len), .val (.ref a253), .val (.int y257), .unset, .unset] [(.int tt)]))
            refine go _ _ (fun t' k' => XS.iconst X257h.here hx rfl (hb hby at_155) k') ?_
            show G (T257.setTop (mkF m 156 #[.val (.int u0), .val (.int u1), .val (.int u2), .val (.int u3), .val (.int (1 : Int32)), .val (.int b5), .val (.int b6), .val (.int tt), .val (.int kq), .val (.int l9), .val (.int l10), .val (.int len), .val (.ref a253), .val (.int y257), .unset, .unset] [(.int (1 : Int32)), (.int tt)]))
            by_cases c261 : tt = (1 : Int32)
            · have htn0 : tn = 1 := (own_lit 1 (kk := 1) rfl htn).mp c261
              have z262 : ¬ tt = (0 : Int32) := (not_congr (own_lit 0 (kk := 0) rfl htn)).mpr (by omega)
              show G (T257.setTop (mkF m 156 #[.val (.int u0), .val (.int u1), .val (.int u2), .val (.int u3), .val (.int (1 : Int32)), .val (.int b5), .val (.int b6), .val (.int tt), .val (.int kq), .val (.int l9), .val (.int l10), .val (.int len), .val (.ref a253), .val (.int y257), .unset, .unset] [(.int (1 : Int32)), (.int tt)]))
              refine go _ _ (fun t' k' => XS.icmpNo X257h.here hx rfl (hb hby at_156) rfl (Free.XT.ii_ne_f c261) k') ?_
              show G (T257.setTop (mkF m 159 #[.val (.int u0), .val (.int u1), .val (.int u2), .val (.int u3), .val (.int (1 : Int32)), .val (.int b5), .val (.int b6), .val (.int tt), .val (.int kq), .val (.int l9), .val (.int l10), .val (.int len), .val (.ref a253), .val (.int y257), .unset, .unset] []))
              refine go _ _ (fun t' k' => XS.aload X257h.here hx rfl (hb hby at_159) rfl rfl  k') ?_
              show G (T257.setTop (mkF m 161 #[.val (.int u0), .val (.int u1), .val (.int u2), .val (.int u3), .val (.int (1 : Int32)), .val (.int b5), .val (.int b6), .val (.int tt), .val (.int kq), .val (.int l9), .val (.int l10), .val (.int len), .val (.ref a253), .val (.int y257), .unset, .unset] [(.ref a253)]))
              refine go _ _ (fun t' k' => XS.iload X257h.here hx rfl (hb hby at_161) rfl  k') ?_
              show G (T257.setTop (mkF m 163 #[.val (.int u0), .val (.int u1), .val (.int u2), .val (.int u3), .val (.int (1 : Int32)), .val (.int b5), .val (.int b6), .val (.int tt), .val (.int kq), .val (.int l9), .val (.int l10), .val (.int len), .val (.ref a253), .val (.int y257), .unset, .unset] [(.int y257), (.ref a253)]))
              refine go _ _ (fun t' k' => XS.iloadN X257h.here hx rfl (hb hby at_163) rfl  k') ?_
              show G (T257.setTop (mkF m 164 #[.val (.int u0), .val (.int u1), .val (.int u2), .val (.int u3), .val (.int (1 : Int32)), .val (.int b5), .val (.int b6), .val (.int tt), .val (.int kq), .val (.int l9), .val (.int l10), .val (.int len), .val (.ref a253), .val (.int y257), .unset, .unset] [(.int u3), (.int y257), (.ref a253)]))
              refine go _ _ (fun t' k' => XS.i2b X257h.here hx rfl (hb hby at_164) rfl k') ?_
              show G (T257.setTop (mkF m 165 #[.val (.int u0), .val (.int u1), .val (.int u2), .val (.int u3), .val (.int (1 : Int32)), .val (.int b5), .val (.int b6), .val (.int tt), .val (.int kq), .val (.int l9), .val (.int l10), .val (.int len), .val (.ref a253), .val (.int y257), .unset, .unset] [(.int (u3.toInt8.toInt32)), (.int y257), (.ref a253)]))
              refine own_bastore go X257h hx hZ rfl (0 + w0) hy257 (by omega) (g := (mkF m 165 #[.val (.int u0), .val (.int u1), .val (.int u2), .val (.int u3), .val (.int (1 : Int32)), .val (.int b5), .val (.int b6), .val (.int tt), .val (.int kq), .val (.int l9), .val (.int l10), .val (.int len), .val (.ref a253), .val (.int y257), .unset, .unset] [(.int (u3.toInt8.toInt32)), (.int y257), (.ref a253)])) rfl A257 rfl (hb hby at_165) ?_
              intro T263 h263 X263 e263 W263 A263
              have K264 : Keep h0 h263 [] := K259.wr W263 (Or.inr sz_a253)
              obtain ⟨lc263, X263h, N263h⟩ := own_hide X263 (Fr.snoc X263 N257h g_a253)
              have Z265 : n0 ≤ h263.size := Nat.le_trans Z260 (Nat.le_of_eq W263.size.symm)
              have A263c := A263.cong (g := (fun i => .int ((upd g257 (0 + w0) (u3.toInt8.toInt32)) i))) (own_upd (own_nb _))
              show G (T263.setTop (mkF m 166 #[.val (.int u0), .val (.int u1), .val (.int u2), .val (.int u3), .val (.int (1 : Int32)), .val (.int b5), .val (.int b6), .val (.int tt), .val (.int kq), .val (.int l9), .val (.int l10), .val (.int len), .val (.ref a253), .val (.int y257), .unset, .unset] []))
              obtain ⟨T266, h266, X266, e266, E266, A266, D266, -, st266⟩ := newO X263h hx hZ hown (hw _ (List.mem_of_getElem? (i := 9) rfl)) (hw _ (List.mem_of_getElem? (i := 10) rfl)) (hw _ (List.mem_of_getElem? (i := 11) rfl)) e263 (g := (mkF m 166 #[.val (.int u0), .val (.int u1), .val (.int u2), .val (.int u3), .val (.int (1 : Int32)), .val (.int b5), .val (.int b6), .val (.int tt), .val (.int kq), .val (.int l9), .val (.int l10), .val (.int len), .val (.ref a253), .val (.int y257), .unset, .unset] [])) rfl (hb hby at_166) (by decide) (by decide)
              obtain ⟨b266, g266⟩ : ∃ z, z = h263.size := ⟨_, rfl⟩
              rw [← g266] at A266 D266 st266
              have ne267 : a253 ≠ b266 := Nat.ne_of_lt (by rw [g266]; exact A263c.lt)
              have g_b266 : n0 ≤ b266 := Nat.le_trans Z265 (Nat.le_of_eq g266.symm)
              have sz_b266 : h0.size ≤ b266 := Nat.le_trans K264.1 (Nat.le_of_eq g266.symm)
              have Z268 : n0 ≤ h266.size := Nat.le_trans Z265 E266.1
              have K269 : Keep h0 h266 [] := K264.ext E266
              have F270 : Fld Z h266 b266 "com/example/brevidns/brevidns/CborReader" "itemsLeft" "[I" .null := D266 (Or.inl (hw _ (List.mem_of_getElem? (i := 20) rfl))) (ty := (.array .int)) (by decide)
              have F271 : Fld Z h266 b266 "com/example/brevidns/brevidns/CborReader" "input" "[B" .null := D266 (Or.inr (hw _ (List.mem_of_getElem? (i := 22) rfl))) (ty := (.array .byte)) (by decide)
              have F272 : Fld Z h266 b266 "com/example/brevidns/brevidns/CborReader" "position" "I" (.int (0 : Int32)) := D266 (Or.inl (hw _ (List.mem_of_getElem? (i := 29) rfl))) (ty := .int) (by decide)
              have F273 : Fld Z h266 b266 "com/example/brevidns/brevidns/CborReader" "depth" "I" (.int (0 : Int32)) := D266 (Or.inl (hw _ (List.mem_of_getElem? (i := 56) rfl))) (ty := .int) (by decide)
              refine go _ _ st266 ?_
              show G (T266.setTop (mkF m 169 #[.val (.int u0), .val (.int u1), .val (.int u2), .val (.int u3), .val (.int (1 : Int32)), .val (.int b5), .val (.int b6), .val (.int tt), .val (.int kq), .val (.int l9), .val (.int l10), .val (.int len), .val (.ref a253), .val (.int y257), .unset, .unset] [(.ref b266)]))
              refine go _ _ (fun t' k' => XS.dup X266.here hx rfl (hb hby at_169) rfl rfl k') ?_
              show G (T266.setTop (mkF m 170 #[.val (.int u0), .val (.int u1), .val (.int u2), .val (.int u3), .val (.int (1 : Int32)), .val (.int b5), .val (.int b6), .val (.int tt), .val (.int kq), .val (.int l9), .val (.int l10), .val (.int len), .val (.ref a253), .val (.int y257), .unset, .unset] [(.ref b266), (.ref b266)]))
              refine go _ _ (fun t' k' => XS.aload X266.here hx rfl (hb hby at_170) rfl rfl  k') ?_
              show G (T266.setTop (mkF m 172 #[.val (.int u0), .val (.int u1), .val (.int u2), .val (.int u3), .val (.int (1 : Int32)), .val (.int b5), .val (.int b6), .val (.int tt), .val (.int kq), .val (.int l9), .val (.int l10), .val (.int len), .val (.ref a253), .val (.int y257), .unset, .unset] [(.ref a253), (.ref b266), (.ref b266)]))
              refine own_init go X266 hx hZ e266 rfl hown (hw _ (List.mem_of_getElem? (i := 12) rfl)) (hw _ (List.mem_of_getElem? (i := 13) rfl)) (hw _ (List.mem_of_getElem? (i := 11) rfl)) (hw _ (List.mem_of_getElem? (i := 14) rfl)) (by decide) (rm_in l Z a0 hw b266 a253 h266 n0 Z268 g_b266 A266 F271 F272 F270 F273) 1 (by decide) (by decide) (by decide) (by decide) (g := (mkF m 172 #[.val (.int u0), .val (.int u1), .val (.int u2), .val (.int u3), .val (.int (1 : Int32)), .val (.int b5), .val (.int b6), .val (.int tt), .val (.int kq), .val (.int l9), .val (.int l10), .val (.int len), .val (.ref a253), .val (.int y257), .unset, .unset] [(.ref a253), (.ref b266), (.ref b266)])) rfl (by rw [hml]; rfl) b266 [(.ref a253)] [(.ref b266)] rfl (lenOf pd_7 rfl) rfl (by show 2 * 0 + _ ≤ _; exact Nat.le_of_eq rfl) (hb hby at_172) ?_
              intro T274 L274 v274 X274 q274
              obtain ⟨rfl, N274, K274, il, Cr274⟩ := q274
              have ns275 : ∀ w ∈ [b266], ∃ c : Cell, h266[w]? = some c ∧ c.vm.isStatics = false := (allS (own_exa_ns A266) all0)
              obtain ⟨lc274, X274h, N274h⟩ := own_hide X274 (Fr.app N263h N274)
              have K276 : Keep h0 T274.heap [] := K269.trans K274 (allS (Or.inr sz_b266) all0)
              have Z277 : n0 ≤ T274.heap.size := Nat.le_trans Z268 K274.1
              obtain ⟨B278E, B278i, B278p, B278l, B278d⟩ := Cr274
              show G (T274.setTop (mkF m 175 #[.val (.int u0), .val (.int u1), .val (.int u2), .val (.int u3), .val (.int (1 : Int32)), .val (.int b5), .val (.int b6), .val (.int tt), .val (.int kq), .val (.int l9), .val (.int l10), .val (.int len), .val (.ref a253), .val (.int y257), .unset, .unset] [(.ref b266)]))
              refine go _ _ (fun t' k' => XS.astore X274h.here hx rfl (hb hby at_175) rfl rfl (l' := #[.val (.int u0), .val (.int u1), .val (.int u2), .val (.int u3), .val (.int (1 : Int32)), .val (.int b5), .val (.int b6), .val (.int tt), .val (.int kq), .val (.int l9), .val (.int l10), .val (.int len), .val (.ref a253), .val (.int y257), .val (.ref b266), .unset]) rfl k') ?_
              show G (T274.setTop (mkF m 177 #[.val (.int u0), .val (.int u1), .val (.int u2), .val (.int u3), .val (.int (1 : Int32)), .val (.int b5), .val (.int b6), .val (.int tt), .val (.int kq), .val (.int l9), .val (.int l10), .val (.int len), .val (.ref a253), .val (.int y257), .val (.ref b266), .unset] []))
              refine go _ _ (fun t' k' => XS.aload X274h.here hx rfl (hb hby at_177) rfl rfl  k') ?_
              show G (T274.setTop (mkF m 179 #[.val (.int u0), .val (.int u1), .val (.int u2), .val (.int u3), .val (.int (1 : Int32)), .val (.int b5), .val (.int b6), .val (.int tt), .val (.int kq), .val (.int l9), .val (.int l10), .val (.int len), .val (.ref a253), .val (.int y257), .val (.ref b266), .unset] [(.ref b266)]))
              have f279 := ((A263c.ext E266).keep K274 (ninS ne267 nin0))
              refine own_virtual go X274h hx hZ rfl hown (hw _ (List.mem_of_getElem? (i := 23) rfl)) (hw _ (List.mem_of_getElem? (i := 24) rfl)) (notFace_of_selects (args := #[]) (mvT hZ (hw _ (List.mem_of_getElem? (i := 26) rfl)))) (hw _ (List.mem_of_getElem? (i := 26) rfl)) (hw _ (List.mem_of_getElem? (i := 25) rfl)) (hw _ (List.mem_of_getElem? (i := 11) rfl)) (hw _ (List.mem_of_getElem? (i := 27) rfl)) (by decide) (rm_ae l Z a0 hw b266 a253 (0 : Int32) 0 0 ln _ T274.heap n0 Z277 B278i B278p f279 rfl (by omega) (Or.inr ⟨rfl, by omega⟩)) 0 (by decide) (by decide) (by decide) (by decide) B278E (g := (mkF m 179 #[.val (.int u0), .val (.int u1), .val (.int u2), .val (.int u3), .val (.int (1 : Int32)), .val (.int b5), .val (.int b6), .val (.int tt), .val (.int kq), .val (.int l9), .val (.int l10), .val (.int len), .val (.ref a253), .val (.int y257), .val (.ref b266), .unset] [(.ref b266)])) rfl (by rw [hml]; rfl) [] [] rfl (lenOf pd_1 rfl) rfl (by show 2 * 0 + _ ≤ _; exact Nat.le_of_eq rfl) (hb hby at_179) ?_
              intro T280 L280 v280 X280 q280
              obtain ⟨rfl, N280, hh280⟩ := q280
              obtain ⟨lc280, X280h, N280h⟩ := own_hide X280 (Fr.app N274h N280)
              show G (T280.setTop (mkF m 182 #[.val (.int u0), .val (.int u1), .val (.int u2), .val (.int u3), .val (.int (1 : Int32)), .val (.int b5), .val (.int b6), .val (.int tt), .val (.int kq), .val (.int l9), .val (.int l10), .val (.int len), .val (.ref a253), .val (.int y257), .val (.ref b266), .unset] [(.int (0 : Int32))]))
              refine go _ _ (fun t' k' => XS.iload X280h.here hx rfl (hb hby at_182) rfl  k') ?_
              show G (T280.setTop (mkF m 184 #[.val (.int u0), .val (.int u1), .val (.int u2), .val (.int u3), .val (.int (1 : Int32)), .val (.int b5), .val (.int b6), .val (.int tt), .val (.int kq), .val (.int l9), .val (.int l10), .val (.int len), .val (.ref a253), .val (.int y257), .val (.ref b266), .unset] [(.int len), (.int (0 : Int32))]))
              refine go _ _ (fun t' k' => XS.ifYes X280h.here hx rfl (pc0 := 184) (pc' := 191) rfl (hb hby at_184) rfl (Free.XT.i0_ne_t ((not_congr (own_lit 0 (kk := 0) rfl hln)).mpr (by omega))) (by decide) (by decide) k') ?_
              show G (T280.setTop (mkF m 191 #[.val (.int u0), .val (.int u1), .val (.int u2), .val (.int u3), .val (.int (1 : Int32)), .val (.int b5), .val (.int b6), .val (.int tt), .val (.int kq), .val (.int l9), .val (.int l10), .val (.int len), .val (.ref a253), .val (.int y257), .val (.ref b266), .unset] [(.int (0 : Int32))]))
              refine go _ _ (fun t' k' => XS.iconst X280h.here hx rfl (hb hby at_191) k') ?_
              show G (T280.setTop (mkF m 192 #[.val (.int u0), .val (.int u1), .val (.int u2), .val (.int u3), .val (.int (1 : Int32)), .val (.int b5), .val (.int b6), .val (.int tt), .val (.int kq), .val (.int l9), .val (.int l10), .val (.int len), .val (.ref a253), .val (.int y257), .val (.ref b266), .unset] [(.int (0 : Int32)), (.int (0 : Int32))]))
              refine go _ _ (fun t' k' => XS.icmpNo X280h.here hx rfl (hb hby at_192) rfl (Free.XT.ii_ne_f (by decide)) k') ?_
              show G (T280.setTop (mkF m 195 #[.val (.int u0), .val (.int u1), .val (.int u2), .val (.int u3), .val (.int (1 : Int32)), .val (.int b5), .val (.int b6), .val (.int tt), .val (.int kq), .val (.int l9), .val (.int l10), .val (.int len), .val (.ref a253), .val (.int y257), .val (.ref b266), .unset] []))
              refine go _ _ (fun t' k' => XS.iconst X280h.here hx rfl (hb hby at_195) k') ?_
              show G (T280.setTop (mkF m 196 #[.val (.int u0), .val (.int u1), .val (.int u2), .val (.int u3), .val (.int (1 : Int32)), .val (.int b5), .val (.int b6), .val (.int tt), .val (.int kq), .val (.int l9), .val (.int l10), .val (.int len), .val (.ref a253), .val (.int y257), .val (.ref b266), .unset] [(.int (1 : Int32))]))
              refine go _ _ (fun t' k' => XS.goto X280h.here hx rfl (pc0 := 196) (pc' := 200) rfl (hb hby at_196) (by decide) (by decide) k') ?_
              show G (T280.setTop (mkF m 200 #[.val (.int u0), .val (.int u1), .val (.int u2), .val (.int u3), .val (.int (1 : Int32)), .val (.int b5), .val (.int b6), .val (.int tt), .val (.int kq), .val (.int l9), .val (.int l10), .val (.int len), .val (.ref a253), .val (.int y257), .val (.ref b266), .unset] [(.int (1 : Int32))]))
              refine go _ _ (fun t' k' => XS.istore X280h.here hx rfl (hb hby at_200) rfl (l' := #[.val (.int u0), .val (.int u1), .val (.int u2), .val (.int u3), .val (.int (1 : Int32)), .val (.int b5), .val (.int b6), .val (.int tt), .val (.int kq), .val (.int l9), .val (.int l10), .val (.int len), .val (.ref a253), .val (.int y257), .val (.ref b266), .val (.int (1 : Int32))]) rfl k') ?_
              show G (T280.setTop (mkF m 202 #[.val (.int u0), .val (.int u1), .val (.int u2), .val (.int u3), .val (.int (1 : Int32)), .val (.int b5), .val (.int b6), .val (.int tt), .val (.int kq), .val (.int l9), .val (.int l10), .val (.int len), .val (.ref a253), .val (.int y257), .val (.ref b266), .val (.int (1 : Int32))] []))
              refine go _ _ (fun t' k' => XS.iload X280h.here hx rfl (hb hby at_202) rfl  k') ?_
              show G (T280.setTop (mkF m 204 #[.val (.int u0), .val (.int u1), .val (.int u2), .val (.int u3), .val (.int (1 : Int32)), .val (.int b5), .val (.int b6), .val (.int tt), .val (.int kq), .val (.int l9), .val (.int l10), .val (.int len), .val (.ref a253), .val (.int y257), .val (.ref b266), .val (.int (1 : Int32))] [(.int kq)]))
              refine go _ _ (fun t' k' => XS.iconst X280h.here hx rfl (hb hby at_204) k') ?_
              show G (T280.setTop (mkF m 205 #[.val (.int u0), .val (.int u1), .val (.int u2), .val (.int u3), .val (.int (1 : Int32)), .val (.int b5), .val (.int b6), .val (.int tt), .val (.int kq), .val (.int l9), .val (.int l10), .val (.int len), .val (.ref a253), .val (.int y257), .val (.ref b266), .val (.int (1 : Int32))] [(.int (1 : Int32)), (.int kq)]))
              by_cases c281 : kq < (1 : Int32)
              · refine go _ _ (fun t' k' => XS.icmpYes X280h.here hx rfl (pc0 := 205) (pc' := 250) rfl (hb hby at_205) rfl (Free.XT.ii_lt_t c281) (by decide) (by decide) k') ?_
                show G (T280.setTop (mkF m 250 #[.val (.int u0), .val (.int u1), .val (.int u2), .val (.int u3), .val (.int (1 : Int32)), .val (.int b5), .val (.int b6), .val (.int tt), .val (.int kq), .val (.int l9), .val (.int l10), .val (.int len), .val (.ref a253), .val (.int y257), .val (.ref b266), .val (.int (1 : Int32))] []))
                refine go _ _ (fun t' k' => XS.iload X280h.here hx rfl (hb hby at_250) rfl  k') ?_
                show G (T280.setTop (mkF m 252 #[.val (.int u0), .val (.int u1), .val (.int u2), .val (.int u3), .val (.int (1 : Int32)), .val (.int b5), .val (.int b6), .val (.int tt), .val (.int kq), .val (.int l9), .val (.int l10), .val (.int len), .val (.ref a253), .val (.int y257), .val (.ref b266), .val (.int (1 : Int32))] [(.int kq)]))
                refine go _ _ (fun t' k' => XS.iconst X280h.here hx rfl (hb hby at_252) k') ?_
                show G (T280.setTop (mkF m 253 #[.val (.int u0), .val (.int u1), .val (.int u2), .val (.int u3), .val (.int (1 : Int32)), .val (.int b5), .val (.int b6), .val (.int tt), .val (.int kq), .val (.int l9), .val (.int l10), .val (.int len), .val (.ref a253), .val (.int y257), .val (.ref b266), .val (.int (1 : Int32))] [(.int (2 : Int32)), (.int kq)]))
                refine go _ _ (fun t' k' => XS.icmpYes X280h.here hx rfl (pc0 := 253) (pc' := 292) rfl (hb hby at_253) rfl (Free.XT.ii_lt_t ((own_lt hkn (j := 2) rfl).mpr (by omega))) (by decide) (by decide) k') ?_
                show G (T280.setTop (mkF m 292 #[.val (.int u0), .val (.int u1), .val (.int u2), .val (.int u3), .val (.int (1 : Int32)), .val (.int b5), .val (.int b6), .val (.int tt), .val (.int kq), .val (.int l9), .val (.int l10), .val (.int len), .val (.ref a253), .val (.int y257), .val (.ref b266), .val (.int (1 : Int32))] []))
                refine go _ _ (fun t' k' => XS.iload X280h.here hx rfl (hb hby at_292) rfl  k') ?_
                show G (T280.setTop (mkF m 294 #[.val (.int u0), .val (.int u1), .val (.int u2), .val (.int u3), .val (.int (1 : Int32)), .val (.int b5), .val (.int b6), .val (.int tt), .val (.int kq), .val (.int l9), .val (.int l10), .val (.int len), .val (.ref a253), .val (.int y257), .val (.ref b266), .val (.int (1 : Int32))] [(.int (1 : Int32))]))
                refine own_retZ rt X280h hx (t := .boolean) hret (by simp) (hb hby at_294) (by decide) (by decide) ?_
                exact ⟨rfl, N280h⟩
              · refine go _ _ (fun t' k' => XS.icmpNo X280h.here hx rfl (hb hby at_205) rfl (Free.XT.ii_lt_f c281) k') ?_
                show G (T280.setTop (mkF m 208 #[.val (.int u0), .val (.int u1), .val (.int u2), .val (.int u3), .val (.int (1 : Int32)), .val (.int b5), .val (.int b6), .val (.int tt), .val (.int kq), .val (.int l9), .val (.int l10), .val (.int len), .val (.ref a253), .val (.int y257), .val (.ref b266), .val (.int (1 : Int32))] []))
                refine go _ _ (fun t' k' => XS.aload X280h.here hx rfl (hb hby at_208) rfl rfl  k') ?_
                show G (T280.setTop (mkF m 210 #[.val (.int u0), .val (.int u1), .val (.int u2), .val (.int u3), .val (.int (1 : Int32)), .val (.int b5), .val (.int b6), .val (.int tt), .val (.int kq), .val (.int l9), .val (.int l10), .val (.int len), .val (.ref a253), .val (.int y257), .val (.ref b266), .val (.int (1 : Int32))] [(.ref b266)]))
                have f282 := (own_sta_keep (((own_sta_keep (own_sta_keep Su K253 ns254) K257 ns258).wr W263).ext E266) K274 ns275)
                refine own_virtual go X280h hx hZ hh280 hown (hw _ (List.mem_of_getElem? (i := 34) rfl)) (hw _ (List.mem_of_getElem? (i := 35) rfl)) (notFace_of_selects (args := #[]) (mvT hZ (hw _ (List.mem_of_getElem? (i := 37) rfl)))) (hw _ (List.mem_of_getElem? (i := 37) rfl)) (hw _ (List.mem_of_getElem? (i := 36) rfl)) (hw _ (List.mem_of_getElem? (i := 11) rfl)) (hw _ (List.mem_of_getElem? (i := 38) rfl)) (by decide) (rm_ru l Z a0 hw b266 a253 il ru (0 : Int32) 0 ln w0 (upd g257 (0 + w0) (u3.toInt8.toInt32)) T274.heap n0 Z277 g_b266 ⟨B278E, B278i, B278p, B278l, B278d⟩ f279 ne267 rfl (by omega) (Head.upd H257 (by omega)) (by omega) f282) 0 (by decide) (by decide) (by decide) (by decide) B278E (g := (mkF m 210 #[.val (.int u0), .val (.int u1), .val (.int u2), .val (.int u3), .val (.int (1 : Int32)), .val (.int b5), .val (.int b6), .val (.int tt), .val (.int kq), .val (.int l9), .val (.int l10), .val (.int len), .val (.ref a253), .val (.int y257), .val (.ref b266), .val (.int (1 : Int32))] [(.ref b266)])) rfl (by rw [hml]; rfl) [] [] rfl (lenOf pd_9 rfl) rfl (by show 2 * 0 + _ ≤ _; exact Nat.le_of_eq rfl) (hb hby at_210) ?_
                intro T283 L283 v283 X283 q283
                obtain ⟨⟨y283, rfl⟩, N283, K283, ps283, Cr283, hp283⟩ := q283
                have ns284 : ∀ w ∈ [b266], ∃ c : Cell, T274.heap[w]? = some c ∧ c.vm.isStatics = false := (allS (own_exa_ns B278E) all0)
                obtain ⟨lc283, X283h, N283h⟩ := own_hide X283 (Fr.app N280h N283)
                have K285 : Keep h0 T283.heap [] := K276.trans K283 (allS (Or.inr sz_b266) all0)
                have Z286 : n0 ≤ T283.heap.size := Nat.le_trans Z277 K283.1
                obtain ⟨B287E, B287i, B287p, B287l, B287d⟩ := Cr283
                show G (T283.setTop (mkF m 213 #[.val (.int u0), .val (.int u1), .val (.int u2), .val (.int u3), .val (.int (1 : Int32)), .val (.int b5), .val (.int b6), .val (.int tt), .val (.int kq), .val (.int l9), .val (.int l10), .val (.int len), .val (.ref a253), .val (.int y257), .val (.ref b266), .val (.int (1 : Int32))] [(.long y283)]))
                refine go _ _ (fun t' k' => own_pop2L X283h.here hx rfl (hb hby at_213) rfl k') ?_
                show G (T283.setTop (mkF m 214 #[.val (.int u0), .val (.int u1), .val (.int u2), .val (.int u3), .val (.int (1 : Int32)), .val (.int b5), .val (.int b6), .val (.int tt), .val (.int kq), .val (.int l9), .val (.int l10), .val (.int len), .val (.ref a253), .val (.int y257), .val (.ref b266), .val (.int (1 : Int32))] []))
                refine go _ _ (fun t' k' => XS.iload X283h.here hx rfl (hb hby at_214) rfl  k') ?_
                show G (T283.setTop (mkF m 216 #[.val (.int u0), .val (.int u1), .val (.int u2), .val (.int u3), .val (.int (1 : Int32)), .val (.int b5), .val (.int b6), .val (.int tt), .val (.int kq), .val (.int l9), .val (.int l10), .val (.int len), .val (.ref a253), .val (.int y257), .val (.ref b266), .val (.int (1 : Int32))] [(.int (1 : Int32))]))
                refine go _ _ (fun t' k' => XS.ifNo X283h.here hx rfl (hb hby at_216) rfl (Free.XT.i0_eq_f (by decide)) k') ?_
                show G (T283.setTop (mkF m 219 #[.val (.int u0), .val (.int u1), .val (.int u2), .val (.int u3), .val (.int (1 : Int32)), .val (.int b5), .val (.int b6), .val (.int tt), .val (.int kq), .val (.int l9), .val (.int l10), .val (.int len), .val (.ref a253), .val (.int y257), .val (.ref b266), .val (.int (1 : Int32))] []))
                refine go _ _ (fun t' k' => XS.aload X283h.here hx rfl (hb hby at_219) rfl rfl  k') ?_
                show G (T283.setTop (mkF m 221 #[.val (.int u0), .val (.int u1), .val (.int u2), .val (.int u3), .val (.int (1 : Int32)), .val (.int b5), .val (.int b6), .val (.int tt), .val (.int kq), .val (.int l9), .val (.int l10), .val (.int len), .val (.ref a253), .val (.int y257), .val (.ref b266), .val (.int (1 : Int32))] [(.ref b266)]))
                have f288 := (f279.keep K283 (ninS ne267 nin0))
                refine own_virtual go X283h hx hZ rfl hown (hw _ (List.mem_of_getElem? (i := 23) rfl)) (hw _ (List.mem_of_getElem? (i := 24) rfl)) (notFace_of_selects (args := #[]) (mvT hZ (hw _ (List.mem_of_getElem? (i := 26) rfl)))) (hw _ (List.mem_of_getElem? (i := 26) rfl)) (hw _ (List.mem_of_getElem? (i := 25) rfl)) (hw _ (List.mem_of_getElem? (i := 11) rfl)) (hw _ (List.mem_of_getElem? (i := 27) rfl)) (by decide) (rm_ae l Z a0 hw b266 a253 ps283 0 (0 + w0) ln _ T283.heap n0 Z286 B287i B287p f288 hp283 (by omega) (Or.inr ⟨rfl, by omega⟩)) 0 (by decide) (by decide) (by decide) (by decide) B287E (g := (mkF m 221 #[.val (.int u0), .val (.int u1), .val (.int u2), .val (.int u3), .val (.int (1 : Int32)), .val (.int b5), .val (.int b6), .val (.int tt), .val (.int kq), .val (.int l9), .val (.int l10), .val (.int len), .val (.ref a253), .val (.int y257), .val (.ref b266), .val (.int (1 : Int32))] [(.ref b266)])) rfl (by rw [hml]; rfl) [] [] rfl (lenOf pd_1 rfl) rfl (by show 2 * 0 + _ ≤ _; exact Nat.le_of_eq rfl) (hb hby at_221) ?_
                intro T289 L289 v289 X289 q289
                obtain ⟨rfl, N289, hh289⟩ := q289
                obtain ⟨lc289, X289h, N289h⟩ := own_hide X289 (Fr.app N283h N289)
                show G (T289.setTop (mkF m 224 #[.val (.int u0), .val (.int u1), .val (.int u2), .val (.int u3), .val (.int (1 : Int32)), .val (.int b5), .val (.int b6), .val (.int tt), .val (.int kq), .val (.int l9), .val (.int l10), .val (.int len), .val (.ref a253), .val (.int y257), .val (.ref b266), .val (.int (1 : Int32))] [(.int (0 : Int32))]))
                refine go _ _ (fun t' k' => XS.iload X289h.here hx rfl (hb hby at_224) rfl  k') ?_
                show G (T289.setTop (mkF m 226 #[.val (.int u0), .val (.int u1), .val (.int u2), .val (.int u3), .val (.int (1 : Int32)), .val (.int b5), .val (.int b6), .val (.int tt), .val (.int kq), .val (.int l9), .val (.int l10), .val (.int len), .val (.ref a253), .val (.int y257), .val (.ref b266), .val (.int (1 : Int32))] [(.int (1 : Int32)), (.int (0 : Int32))]))
                refine go _ _ (fun t' k' => XS.iconst X289h.here hx rfl (hb hby at_226) k') ?_
                show G (T289.setTop (mkF m 227 #[.val (.int u0), .val (.int u1), .val (.int u2), .val (.int u3), .val (.int (1 : Int32)), .val (.int b5), .val (.int b6), .val (.int tt), .val (.int kq), .val (.int l9), .val (.int l10), .val (.int len), .val (.ref a253), .val (.int y257), .val (.ref b266), .val (.int (1 : Int32))] [(.int (1 : Int32)), (.int (1 : Int32)), (.int (0 : Int32))]))
                refine go _ _ (fun t' k' => XS.icmpNo X289h.here hx rfl (hb hby at_227) rfl (Free.XT.ii_ne_f (by decide)) k') ?_
                show G (T289.setTop (mkF m 230 #[.val (.int u0), .val (.int u1), .val (.int u2), .val (.int u3), .val (.int (1 : Int32)), .val (.int b5), .val (.int b6), .val (.int tt), .val (.int kq), .val (.int l9), .val (.int l10), .val (.int len), .val (.ref a253), .val (.int y257), .val (.ref b266), .val (.int (1 : Int32))] [(.int (0 : Int32))]))
                refine go _ _ (fun t' k' => XS.iload X289h.here hx rfl (hb hby at_230) rfl  k') ?_
                show G (T289.setTop (mkF m 232 #[.val (.int u0), .val (.int u1), .val (.int u2), .val (.int u3), .val (.int (1 : Int32)), .val (.int b5), .val (.int b6), .val (.int tt), .val (.int kq), .val (.int l9), .val (.int l10), .val (.int len), .val (.ref a253), .val (.int y257), .val (.ref b266), .val (.int (1 : Int32))] [(.int tt), (.int (0 : Int32))]))
                refine go _ _ (fun t' k' => XS.ifYes X289h.here hx rfl (pc0 := 232) (pc' := 239) rfl (hb hby at_232) rfl (Free.XT.i0_ne_t z262) (by decide) (by decide) k') ?_
                show G (T289.setTop (mkF m 239 #[.val (.int u0), .val (.int u1), .val (.int u2), .val (.int u3), .val (.int (1 : Int32)), .val (.int b5), .val (.int b6), .val (.int tt), .val (.int kq), .val (.int l9), .val (.int l10), .val (.int len), .val (.ref a253), .val (.int y257), .val (.ref b266), .val (.int (1 : Int32))] [(.int (0 : Int32))]))
                refine go _ _ (fun t' k' => XS.iconst X289h.here hx rfl (hb hby at_239) k') ?_
                show G (T289.setTop (mkF m 240 #[.val (.int u0), .val (.int u1), .val (.int u2), .val (.int u3), .val (.int (1 : Int32)), .val (.int b5), .val (.int b6), .val (.int tt), .val (.int kq), .val (.int l9), .val (.int l10), .val (.int len), .val (.ref a253), .val (.int y257), .val (.ref b266), .val (.int (1 : Int32))] [(.int (0 : Int32)), (.int (0 : Int32))]))
                refine go _ _ (fun t' k' => XS.icmpNo X289h.here hx rfl (hb hby at_240) rfl (Free.XT.ii_ne_f (by decide)) k') ?_
                show G (T289.setTop (mkF m 243 #[.val (.int u0), .val (.int u1), .val (.int u2), .val (.int u3), .val (.int (1 : Int32)), .val (.int b5), .val (.int b6), .val (.int tt), .val (.int kq), .val (.int l9), .val (.int l10), .val (.int len), .val (.ref a253), .val (.int y257), .val (.ref b266), .val (.int (1 : Int32))] []))
                refine go _ _ (fun t' k' => XS.iconst X289h.here hx rfl (hb hby at_243) k') ?_
                show G (T289.setTop (mkF m 244 #[.val (.int u0), .val (.int u1), .val (.int u2), .val (.int u3), .val (.int (1 : Int32)), .val (.int b5), .val (.int b6), .val (.int tt), .val (.int kq), .val (.int l9), .val (.int l10), .val (.int len), .val (.ref a253), .val (.int y257), .val (.ref b266), .val (.int (1 : Int32))] [(.int (1 : Int32))]))
                refine go _ _ (fun t' k' => XS.goto X289h.here hx rfl (pc0 := 244) (pc' := 248) rfl (hb hby at_244) (by decide) (by decide) k') ?_
                show G (T289.setTop (mkF m 248 #[.val (.int u0), .val (.int u1), .val (.int u2), .val (.int u3), .val (.int (1 : Int32)), .val (.int b5), .val (.int b6), .val (.int tt), .val (.int kq), .val (.int l9), .val (.int l10), .val (.int len), .val (.ref a253), .val (.int y257), .val (.ref b266), .val (.int (1 : Int32))] [(.int (1 : Int32))]))
                refine go _ _ (fun t' k' => XS.istore X289h.here hx rfl (hb hby at_248) rfl (l' := #[.val (.int u0), .val (.int u1), .val (.int u2), .val (.int u3), .val (.int (1 : Int32)), .val (.int b5), .val (.int b6), .val (.int tt), .val (.int kq), .val (.int l9), .val (.int l10), .val (.int len), .val (.ref a253), .val (.int y257), .val (.ref b266), .val (.int (1 : Int32))]) rfl k') ?_
                show G (T289.setTop (mkF m 250 #[.val (.int u0), .val (.int u1), .val (.int u2), .val (.int u3), .val (.int (1 : Int32)), .val (.int b5), .val (.int b6), .val (.int tt), .val (.int kq), .val (.int l9), .val (.int l10), .val (.int len), .val (.ref a253), .val (.int y257), .val (.ref b266), .val (.int (1 : Int32))] []))
                refine go _ _ (fun t' k' => XS.iload X289h.here hx rfl (hb hby at_250) rfl  k') ?_
                show G (T289.setTop (mkF m 252 #[.val (.int u0), .val (.int u1), .val (.int u2), .val (.int u3), .val (.int (1 : Int32)), .val (.int b5), .val (.int b6), .val (.int tt), .val (.int kq), .val (.int l9), .val (.int l10), .val (.int len), .val (.ref a253), .val (.int y257), .val (.ref b266), .val (.int (1 : Int32))] [(.int kq)]))
                refine go _ _ (fun t' k' => XS.iconst X289h.here hx rfl (hb hby at_252) k') ?_
                show G (T289.setTop (mkF m 253 #[.val (.int u0), .val (.int u1), .val (.int u2), .val (.int u3), .val (.int (1 : Int32)), .val (.int b5), .val (.int b6), .val (.int tt), .val (.int kq), .val (.int l9), .val (.int l10), .val (.int len), .val (.ref a253), .val (.int y257), .val (.ref b266), .val (.int (1 : Int32))] [(.int (2 : Int32)), (.int kq)]))
                refine go _ _ (fun t' k' => XS.icmpYes X289h.here hx rfl (pc0 := 253) (pc' := 292) rfl (hb hby at_253) rfl (Free.XT.ii_lt_t ((own_lt hkn (j := 2) rfl).mpr (by omega))) (by decide) (by decide) k') ?_
                show G (T289.setTop (mkF m 292 #[.val (.int u0), .val (.int u1), .val (.int u2), .val (.int u3), .val (.int (1 : Int32)), .val (.int b5), .val (.int b6), .val (.int tt), .val (.int kq), .val (.int l9), .val (.int l10), .val (.int len), .val (.ref a253), .val (.int y257), .val (.ref b266), .val (.int (1 : Int32))] []))
                refine go _ _ (fun t' k' => XS.iload X289h.here hx rfl (hb hby at_292) rfl  k') ?_
                show G (T289.setTop (mkF m 294 #[.val (.int u0), .val (.int u1), .val (.int u2), .val (.int u3), .val (.int (1 : Int32)), .val (.int b5), .val (.int b6), .val (.int tt), .val (.int kq), .val (.int l9), .val (.int l10), .val (.int len), .val (.ref a253), .val (.int y257), .val (.ref b266), .val (.int (1 : Int32))] [(.int (1 : Int32))]))
                refine own_retZ rt X289h hx (t := .boolean) hret (by simp) (hb hby at_294) (by decide) (by decide) ?_
                exact ⟨rfl, N289h⟩
            · have htn0 : tn = 0 := by have z := (not_congr (own_lit 1 (kk := 1) rfl htn)).mp c261; omega
              have z290 : tt = (0 : Int32) := (own_lit 0 (kk := 0) rfl htn).mpr (by omega)
              show G (T257.setTop (mkF m 156 #[.val (.int u0), .val (.int u1), .val (.int u2), .val (.int u3), .val (.int (1 : Int32)), .val (.int b5), .val (.int b6), .val (.int tt), .val (.int kq), .val (.int l9), .val (.int l10), .val (.int len), .val (.ref a253), .val (.int y257), .unset, .unset] [(.int (1 : Int32)), (.int tt)]))
              refine go _ _ (fun t' k' => XS.icmpYes X257h.here hx rfl (pc0 := 156) (pc' := 166) rfl (hb hby at_156) rfl (Free.XT.ii_ne_t c261) (by decide) (by decide) k') ?_
              show G (T257.setTop (mkF m 166 #[.val (.int u0), .val (.int u1), .val (.int u2), .val (.int u3), .val (.int (1 : Int32)), .val (.int b5), .val (.int b6), .val (.int tt), .val (.int kq), .val (.int l9), .val (.int l10), .val (.int len), .val (.ref a253), .val (.int y257), .unset, .unset] []))
              obtain ⟨T291, h291, X291, e291, E291, A291, D291, -, st291⟩ := newO X257h hx hZ hown (hw _ (List.mem_of_getElem? (i := 9) rfl)) (hw _ (List.mem_of_getElem? (i := 10) rfl)) (hw _ (List.mem_of_getElem? (i := 11) rfl)) rfl (g := (mkF m 166 #[.val (.int u0), .val (.int u1), .val (.int u2), .val (.int u3), .val (.int (1 : Int32)), .val (.int b5), .val (.int b6), .val (.int tt), .val (.int kq), .val (.int l9), .val (.int l10), .val (.int len), .val (.ref a253), .val (.int y257), .unset, .unset] [])) rfl (hb hby at_166) (by decide) (by decide)
              obtain ⟨b291, g291⟩ : ∃ z, z = T257.heap.size := ⟨_, rfl⟩
              rw [← g291] at A291 D291 st291
              have ne292 : a253 ≠ b291 := Nat.ne_of_lt (by rw [g291]; exact A257.lt)
              have g_b291 : n0 ≤ b291 := Nat.le_trans Z260 (Nat.le_of_eq g291.symm)
              have sz_b291 : h0.size ≤ b291 := Nat.le_trans K259.1 (Nat.le_of_eq g291.symm)
              have Z293 : n0 ≤ h291.size := Nat.le_trans Z260 E291.1
              have K294 : Keep h0 h291 [] := K259.ext E291
              have F295 : Fld Z h291 b291 "com/example/brevidns/brevidns/CborReader" "itemsLeft" "[I" .null := D291 (Or.inl (hw _ (List.mem_of_getElem? (i := 20) rfl))) (ty := (.array .int)) (by decide)
              have F296 : Fld Z h291 b291 "com/example/brevidns/brevidns/CborReader" "input" "[B" .null := D291 (Or.inr (hw _ (List.mem_of_getElem? (i := 22) rfl))) (ty := (.array .byte)) (by decide)
              have F297 : Fld Z h291 b291 "com/example/brevidns/brevidns/CborReader" "position" "I" (.int (0 : Int32)) := D291 (Or.inl (hw _ (List.mem_of_getElem? (i := 29) rfl))) (ty := .int) (by decide)
              have F298 : Fld Z h291 b291 "com/example/brevidns/brevidns/CborReader" "depth" "I" (.int (0 : Int32)) := D291 (Or.inl (hw _ (List.mem_of_getElem? (i := 56) rfl))) (ty := .int) (by decide)
              refine go _ _ st291 ?_
              show G (T291.setTop (mkF m 169 #[.val (.int u0), .val (.int u1), .val (.int u2), .val (.int u3), .val (.int (1 : Int32)), .val (.int b5), .val (.int b6), .val (.int tt), .val (.int kq), .val (.int l9), .val (.int l10), .val (.int len), .val (.ref a253), .val (.int y257), .unset, .unset] [(.ref b291)]))
              refine go _ _ (fun t' k' => XS.dup X291.here hx rfl (hb hby at_169) rfl rfl k') ?_
              show G (T291.setTop (mkF m 170 #[.val (.int u0), .val (.int u1), .val (.int u2), .val (.int u3), .val (.int (1 : Int32)), .val (.int b5), .val (.int b6), .val (.int tt), .val (.int kq), .val (.int l9), .val (.int l10), .val (.int len), .val (.ref a253), .val (.int y257), .unset, .unset] [(.ref b291), (.ref b291)]))
              refine go _ _ (fun t' k' => XS.aload X291.here hx rfl (hb hby at_170) rfl rfl  k') ?_
              show G (T291.setTop (mkF m 172 #[.val (.int u0), .val (.int u1), .val (.int u2), .val (.int u3), .val (.int (1 : Int32)), .val (.int b5), .val (.int b6), .val (.int tt), .val (.int kq), .val (.int l9), .val (.int l10), .val (.int len), .val (.ref a253), .val (.int y257), .unset, .unset] [(.ref a253), (.ref b291), (.ref b291)]))
              refine own_init go X291 hx hZ e291 rfl hown (hw _ (List.mem_of_getElem? (i := 12) rfl)) (hw _ (List.mem_of_getElem? (i := 13) rfl)) (hw _ (List.mem_of_getElem? (i := 11) rfl)) (hw _ (List.mem_of_getElem? (i := 14) rfl)) (by decide) (rm_in l Z a0 hw b291 a253 h291 n0 Z293 g_b291 A291 F296 F297 F295 F298) 1 (by decide) (by decide) (by decide) (by decide) (g := (mkF m 172 #[.val (.int u0), .val (.int u1), .val (.int u2), .val (.int u3), .val (.int (1 : Int32)), .val (.int b5), .val (.int b6), .val (.int tt), .val (.int kq), .val (.int l9), .val (.int l10), .val (.int len), .val (.ref a253), .val (.int y257), .unset, .unset] [(.ref a253), (.ref b291), (.ref b291)])) rfl (by rw [hml]; rfl) b291 [(.ref a253)] [(.ref b291)] rfl (lenOf pd_7 rfl) rfl (by show 2 * 0 + _ ≤ _; exact Nat.le_of_eq rfl) (hb hby at_172) ?_
              intro T299 L299 v299 X299 q299
              obtain ⟨rfl, N299, K299, il, Cr299⟩ := q299
              have ns300 : ∀ w ∈ [b291], ∃ c : Cell, h291[w]? = some c ∧ c.vm.isStatics = false := (allS (own_exa_ns A291) all0)
              obtain ⟨lc299, X299h, N299h⟩ := own_hide X299 (Fr.app N257h N299)
              have K301 : Keep h0 T299.heap [] := K294.trans K299 (allS (Or.inr sz_b291) all0)
              have Z302 : n0 ≤ T299.heap.size := Nat.le_trans Z293 K299.1
              obtain ⟨B303E, B303i, B303p, B303l, B303d⟩ := Cr299
              show G (T299.setTop (mkF m 175 #[.val (.int u0), .val (.int u1), .val (.int u2), .val (.int u3), .val (.int (1 : Int32)), .val (.int b5), .val (.int b6), .val (.int tt), .val (.int kq), .val (.int l9), .val (.int l10), .val (.int len), .val (.ref a253), .val (.int y257), .unset, .unset] [(.ref b291)]))
              refine go _ _ (fun t' k' => XS.astore X299h.here hx rfl (hb hby at_175) rfl rfl (l' := #[.val (.int u0), .val (.int u1), .val (.int u2), .val (.int u3), .val (.int (1 : Int32)), .val (.int b5), .val (.int b6), .val (.int tt), .val (.int kq), .val (.int l9), .val (.int l10), .val (.int len), .val (.ref a253), .val (.int y257), .val (.ref b291), .unset]) rfl k') ?_
              show G (T299.setTop (mkF m 177 #[.val (.int u0), .val (.int u1), .val (.int u2), .val (.int u3), .val (.int (1 : Int32)), .val (.int b5), .val (.int b6), .val (.int tt), .val (.int kq), .val (.int l9), .val (.int l10), .val (.int len), .val (.ref a253), .val (.int y257), .val (.ref b291), .unset] []))
              refine go _ _ (fun t' k' => XS.aload X299h.here hx rfl (hb hby at_177) rfl rfl  k') ?_
              show G (T299.setTop (mkF m 179 #[.val (.int u0), .val (.int u1), .val (.int u2), .val (.int u3), .val (.int (1 : Int32)), .val (.int b5), .val (.int b6), .val (.int tt), .val (.int kq), .val (.int l9), .val (.int l10), .val (.int len), .val (.ref a253), .val (.int y257), .val (.ref b291), .unset] [(.ref b291)]))
              have f304 := ((A257.ext E291).keep K299 (ninS ne292 nin0))
              refine own_virtual go X299h hx hZ rfl hown (hw _ (List.mem_of_getElem? (i := 23) rfl)) (hw _ (List.mem_of_getElem? (i := 24) rfl)) (notFace_of_selects (args := #[]) (mvT hZ (hw _ (List.mem_of_getElem? (i := 26) rfl)))) (hw _ (List.mem_of_getElem? (i := 26) rfl)) (hw _ (List.mem_of_getElem? (i := 25) rfl)) (hw _ (List.mem_of_getElem? (i := 11) rfl)) (hw _ (List.mem_of_getElem? (i := 27) rfl)) (by decide) (rm_ae l Z a0 hw b291 a253 (0 : Int32) 0 0 ln _ T299.heap n0 Z302 B303i B303p f304 rfl (by omega) (Or.inr ⟨rfl, by omega⟩)) 0 (by decide) (by decide) (by decide) (by decide) B303E (g := (mkF m 179 #[.val (.int u0), .val (.int u1), .val (.int u2), .val (.int u3), .val (.int (1 : Int32)), .val (.int b5), .val (.int b6), .val (.int tt), .val (.int kq), .val (.int l9), .val (.int l10), .val (.int len), .val (.ref a253), .val (.int y257), .val (.ref b291), .unset] [(.ref b291)])) rfl (by rw [hml]; rfl) [] [] rfl (lenOf pd_1 rfl) rfl (by show 2 * 0 + _ ≤ _; exact Nat.le_of_eq rfl) (hb hby at_179) ?_
              intro T305 L305 v305 X305 q305
              obtain ⟨rfl, N305, hh305⟩ := q305
              obtain ⟨lc305, X305h, N305h⟩ := own_hide X305 (Fr.app N299h N305)
              show G (T305.setTop (mkF m 182 #[.val (.int u0), .val (.int u1), .val (.int u2), .val (.int u3), .val (.int (1 : Int32)), .val (.int b5), .val (.int b6), .val (.int tt), .val (.int kq), .val (.int l9), .val (.int l10), .val (.int len), .val (.ref a253), .val (.int y257), .val (.ref b291), .unset] [(.int (0 : Int32))]))
              refine go _ _ (fun t' k' => XS.iload X305h.here hx rfl (hb hby at_182) rfl  k') ?_
              show G (T305.setTop (mkF m 184 #[.val (.int u0), .val (.int u1), .val (.int u2), .val (.int u3), .val (.int (1 : Int32)), .val (.int b5), .val (.int b6), .val (.int tt), .val (.int kq), .val (.int l9), .val (.int l10), .val (.int len), .val (.ref a253), .val (.int y257), .val (.ref b291), .unset] [(.int len), (.int (0 : Int32))]))
              refine go _ _ (fun t' k' => XS.ifYes X305h.here hx rfl (pc0 := 184) (pc' := 191) rfl (hb hby at_184) rfl (Free.XT.i0_ne_t ((not_congr (own_lit 0 (kk := 0) rfl hln)).mpr (by omega))) (by decide) (by decide) k') ?_
              show G (T305.setTop (mkF m 191 #[.val (.int u0), .val (.int u1), .val (.int u2), .val (.int u3), .val (.int (1 : Int32)), .val (.int b5), .val (.int b6), .val (.int tt), .val (.int kq), .val (.int l9), .val (.int l10), .val (.int len), .val (.ref a253), .val (.int y257), .val (.ref b291), .unset] [(.int (0 : Int32))]))
              refine go _ _ (fun t' k' => XS.iconst X305h.here hx rfl (hb hby at_191) k') ?_
              show G (T305.setTop (mkF m 192 #[.val (.int u0), .val (.int u1), .val (.int u2), .val (.int u3), .val (.int (1 : Int32)), .val (.int b5), .val (.int b6), .val (.int tt), .val (.int kq), .val (.int l9), .val (.int l10), .val (.int len), .val (.ref a253), .val (.int y257), .val (.ref b291), .unset] [(.int (0 : Int32)), (.int (0 : Int32))]))
              refine go _ _ (fun t' k' => XS.icmpNo X305h.here hx rfl (hb hby at_192) rfl (Free.XT.ii_ne_f (by decide)) k') ?_
              show G (T305.setTop (mkF m 195 #[.val (.int u0), .val (.int u1), .val (.int u2), .val (.int u3), .val (.int (1 : Int32)), .val (.int b5), .val (.int b6), .val (.int tt), .val (.int kq), .val (.int l9), .val (.int l10), .val (.int len), .val (.ref a253), .val (.int y257), .val (.ref b291), .unset] []))
              refine go _ _ (fun t' k' => XS.iconst X305h.here hx rfl (hb hby at_195) k') ?_
              show G (T305.setTop (mkF m 196 #[.val (.int u0), .val (.int u1), .val (.int u2), .val (.int u3), .val (.int (1 : Int32)), .val (.int b5), .val (.int b6), .val (.int tt), .val (.int kq), .val (.int l9), .val (.int l10), .val (.int len), .val (.ref a253), .val (.int y257), .val (.ref b291), .unset] [(.int (1 : Int32))]))
              refine go _ _ (fun t' k' => XS.goto X305h.here hx rfl (pc0 := 196) (pc' := 200) rfl (hb hby at_196) (by decide) (by decide) k') ?_
              show G (T305.setTop (mkF m 200 #[.val (.int u0), .val (.int u1), .val (.int u2), .val (.int u3), .val (.int (1 : Int32)), .val (.int b5), .val (.int b6), .val (.int tt), .val (.int kq), .val (.int l9), .val (.int l10), .val (.int len), .val (.ref a253), .val (.int y257), .val (.ref b291), .unset] [(.int (1 : Int32))]))
              refine go _ _ (fun t' k' => XS.istore X305h.here hx rfl (hb hby at_200) rfl (l' := #[.val (.int u0), .val (.int u1), .val (.int u2), .val (.int u3), .val (.int (1 : Int32)), .val (.int b5), .val (.int b6), .val (.int tt), .val (.int kq), .val (.int l9), .val (.int l10), .val (.int len), .val (.ref a253), .val (.int y257), .val (.ref b291), .val (.int (1 : Int32))]) rfl k') ?_
              show G (T305.setTop (mkF m 202 #[.val (.int u0), .val (.int u1), .val (.int u2), .val (.int u3), .val (.int (1 : Int32)), .val (.int b5), .val (.int b6), .val (.int tt), .val (.int kq), .val (.int l9), .val (.int l10), .val (.int len), .val (.ref a253), .val (.int y257), .val (.ref b291), .val (.int (1 : Int32))] []))
              refine go _ _ (fun t' k' => XS.iload X305h.here hx rfl (hb hby at_202) rfl  k') ?_
              show G (T305.setTop (mkF m 204 #[.val (.int u0), .val (.int u1), .val (.int u2), .val (.int u3), .val (.int (1 : Int32)), .val (.int b5), .val (.int b6), .val (.int tt), .val (.int kq), .val (.int l9), .val (.int l10), .val (.int len), .val (.ref a253), .val (.int y257), .val (.ref b291), .val (.int (1 : Int32))] [(.int kq)]))
              refine go _ _ (fun t' k' => XS.iconst X305h.here hx rfl (hb hby at_204) k') ?_
              show G (T305.setTop (mkF m 205 #[.val (.int u0), .val (.int u1), .val (.int u2), .val (.int u3), .val (.int (1 : Int32)), .val (.int b5), .val (.int b6), .val (.int tt), .val (.int kq), .val (.int l9), .val (.int l10), .val (.int len), .val (.ref a253), .val (.int y257), .val (.ref b291), .val (.int (1 : Int32))] [(.int (1 : Int32)), (.int kq)]))
              by_cases c306 : kq < (1 : Int32)
              · refine go _ _ (fun t' k' => XS.icmpYes X305h.here hx rfl (pc0 := 205) (pc' := 250) rfl (hb hby at_205) rfl (Free.XT.ii_lt_t c306) (by decide) (by decide) k') ?_
                show G (T305.setTop (mkF m 250 #[.val (.int u0), .val (.int u1), .val (.int u2), .val (.int u3), .val (.int (1 : Int32)), .val (.int b5), .val (.int b6), .val (.int tt), .val (.int kq), .val (.int l9), .val (.int l10), .val (.int len), .val (.ref a253), .val (.int y257), .val (.ref b291), .val (.int (1 : Int32))] []))
                refine go _ _ (fun t' k' => XS.iload X305h.here hx rfl (hb hby at_250) rfl  k') ?_
                show G (T305.setTop (mkF m 252 #[.val (.int u0), .val (.int u1), .val (.int u2), .val (.int u3), .val (.int (1 : Int32)), .val (.int b5), .val (.int b6), .val (.int tt), .val (.int kq), .val (.int l9), .val (.int l10), .val (.int len), .val (.ref a253), .val (.int y257), .val (.ref b291), .val (.int (1 : Int32))] [(.int kq)]))
                refine go _ _ (fun t' k' => XS.iconst X305h.here hx rfl (hb hby at_252) k') ?_
                show G (T305.setTop (mkF m 253 #[.val (.int u0), .val (.int u1), .val (.int u2), .val (.int u3), .val (.int (1 : Int32)), .val (.int b5), .val (.int b6), .val (.int tt), .val (.int kq), .val (.int l9), .val (.int l10), .val (.int len), .val (.ref a253), .val (.int y257), .val (.ref b291), .val (.int (1 : Int32))] [(.int (2 : Int32)), (.int kq)]))
                refine go _ _ (fun t' k' => XS.icmpYes X305h.here hx rfl (pc0 := 253) (pc' := 292) rfl (hb hby at_253) rfl (Free.XT.ii_lt_t ((own_lt hkn (j := 2) rfl).mpr (by omega))) (by decide) (by decide) k') ?_
                show G (T305.setTop (mkF m 292 #[.val (.int u0), .val (.int u1), .val (.int u2), .val (.int u3), .val (.int (1 : Int32)), .val (.int b5), .val (.int b6), .val (.int tt), .val (.int kq), .val (.int l9), .val (.int l10), .val (.int len), .val (.ref a253), .val (.int y257), .val (.ref b291), .val (.int (1 : Int32))] []))
                refine go _ _ (fun t' k' => XS.iload X305h.here hx rfl (hb hby at_292) rfl  k') ?_
                show G (T305.setTop (mkF m 294 #[.val (.int u0), .val (.int u1), .val (.int u2), .val (.int u3), .val (.int (1 : Int32)), .val (.int b5), .val (.int b6), .val (.int tt), .val (.int kq), .val (.int l9), .val (.int l10), .val (.int len), .val (.ref a253), .val (.int y257), .val (.ref b291), .val (.int (1 : Int32))] [(.int (1 : Int32))]))
                refine own_retZ rt X305h hx (t := .boolean) hret (by simp) (hb hby at_294) (by decide) (by decide) ?_
                exact ⟨rfl, N305h⟩
              · refine go _ _ (fun t' k' => XS.icmpNo X305h.here hx rfl (hb hby at_205) rfl (Free.XT.ii_lt_f c306) k') ?_
                show G (T305.setTop (mkF m 208 #[.val (.int u0), .val (.int u1), .val (.int u2), .val (.int u3), .val (.int (1 : Int32)), .val (.int b5), .val (.int b6), .val (.int tt), .val (.int kq), .val (.int l9), .val (.int l10), .val (.int len), .val (.ref a253), .val (.int y257), .val (.ref b291), .val (.int (1 : Int32))] []))
                refine go _ _ (fun t' k' => XS.aload X305h.here hx rfl (hb hby at_208) rfl rfl  k') ?_
                show G (T305.setTop (mkF m 210 #[.val (.int u0), .val (.int u1), .val (.int u2), .val (.int u3), .val (.int (1 : Int32)), .val (.int b5), .val (.int b6), .val (.int tt), .val (.int kq), .val (.int l9), .val (.int l10), .val (.int len), .val (.ref a253), .val (.int y257), .val (.ref b291), .val (.int (1 : Int32))] [(.ref b291)]))
                have f307 := (own_sta_keep ((own_sta_keep (own_sta_keep Su K253 ns254) K257 ns258).ext E291) K299 ns300)
                refine own_virtual go X305h hx hZ hh305 hown (hw _ (List.mem_of_getElem? (i := 34) rfl)) (hw _ (List.mem_of_getElem? (i := 35) rfl)) (notFace_of_selects (args := #[]) (mvT hZ (hw _ (List.mem_of_getElem? (i := 37) rfl)))) (hw _ (List.mem_of_getElem? (i := 37) rfl)) (hw _ (List.mem_of_getElem? (i := 36) rfl)) (hw _ (List.mem_of_getElem? (i := 11) rfl)) (hw _ (List.mem_of_getElem? (i := 38) rfl)) (by decide) (rm_ru l Z a0 hw b291 a253 il ru (0 : Int32) 0 ln w0 g257 T299.heap n0 Z302 g_b291 ⟨B303E, B303i, B303p, B303l, B303d⟩ f304 ne292 rfl (by omega) H257 (by omega) f307) 0 (by decide) (by decide) (by decide) (by decide) B303E (g := (mkF m 210 #[.val (.int u0), .val (.int u1), .val (.int u2), .val (.int u3), .val (.int (1 : Int32)), .val (.int b5), .val (.int b6), .val (.int tt), .val (.int kq), .val (.int l9), .val (.int l10), .val (.int len), .val (.ref a253), .val (.int y257), .val (.ref b291), .val (.int (1 : Int32))] [(.ref b291)])) rfl (by rw [hml]; rfl) [] [] rfl (lenOf pd_9 rfl) rfl (by show 2 * 0 + _ ≤ _; exact Nat.le_of_eq rfl) (hb hby at_210) ?_
                intro T308 L308 v308 X308 q308
                obtain ⟨⟨y308, rfl⟩, N308, K308, ps308, Cr308, hp308⟩ := q308
                have ns309 : ∀ w ∈ [b291], ∃ c : Cell, T299.heap[w]? = some c ∧ c.vm.isStatics = false := (allS (own_exa_ns B303E) all0)
                obtain ⟨lc308, X308h, N308h⟩ := own_hide X308 (Fr.app N305h N308)
                have K310 : Keep h0 T308.heap [] := K301.trans K308 (allS (Or.inr sz_b291) all0)
                have Z311 : n0 ≤ T308.heap.size := Nat.le_trans Z302 K308.1
                obtain ⟨B312E, B312i, B312p, B312l, B312d⟩ := Cr308
                show G (T308.setTop (mkF m 213 #[.val (.int u0), .val (.int u1), .val (.int u2), .val (.int u3), .val (.int (1 : Int32)), .val (.int b5), .val (.int b6), .val (.int tt), .val (.int kq), .val (.int l9), .val (.int l10), .val (.int len), .val (.ref a253), .val (.int y257), .val (.ref b291), .val (.int (1 : Int32))] [(.long y308)]))
                refine go _ _ (fun t' k' => own_pop2L X308h.here hx rfl (hb hby at_213) rfl k') ?_
                show G (T308.setTop (mkF m 214 #[.val (.int u0), .val (.int u1), .val (.int u2), .val (.int u3), .val (.int (1 : Int32)), .val (.int b5), .val (.int b6), .val (.int tt), .val (.int kq), .val (.int l9), .val (.int l10), .val (.int len), .val (.ref a253), .val (.int y257), .val (.ref b291), .val (.int (1 : Int32))] []))
                refine go _ _ (fun t' k' => XS.iload X308h.here hx rfl (hb hby at_214) rfl  k') ?_
                show G (T308.setTop (mkF m 216 #[.val (.int u0), .val (.int u1), .val (.int u2), .val (.int u3), .val (.int (1 : Int32)), .val (.int b5), .val (.int b6), .val (.int tt), .val (.int kq), .val (.int l9), .val (.int l10), .val (.int len), .val (.ref a253), .val (.int y257), .val (.ref b291), .val (.int (1 : Int32))] [(.int (1 : Int32))]))
                refine go _ _ (fun t' k' => XS.ifNo X308h.here hx rfl (hb hby at_216) rfl (Free.XT.i0_eq_f (by decide)) k') ?_
                show G (T308.setTop (mkF m 219 #[.val (.int u0), .val (.int u1), .val (.int u2), .val (.int u3), .val (.int (1 : Int32)), .val (.int b5), .val (.int b6), .val (.int tt), .val (.int kq), .val (.int l9), .val (.int l10), .val (.int len), .val (.ref a253), .val (.int y257), .val (.ref b291), .val (.int (1 : Int32))] []))
                refine go _ _ (fun t' k' => XS.aload X308h.here hx rfl (hb hby at_219) rfl rfl  k') ?_
                show G (T308.setTop (mkF m 221 #[.val (.int u0), .val (.int u1), .val (.int u2), .val (.int u3), .val (.int (1 : Int32)), .val (.int b5), .val (.int b6), .val (.int tt), .val (.int kq), .val (.int l9), .val (.int l10), .val (.int len), .val (.ref a253), .val (.int y257), .val (.ref b291), .val (.int (1 : Int32))] [(.ref b291)]))
                have f313 := (f304.keep K308 (ninS ne292 nin0))
                refine own_virtual go X308h hx hZ rfl hown (hw _ (List.mem_of_getElem? (i := 23) rfl)) (hw _ (List.mem_of_getElem? (i := 24) rfl)) (notFace_of_selects (args := #[]) (mvT hZ (hw _ (List.mem_of_getElem? (i := 26) rfl)))) (hw _ (List.mem_of_getElem? (i := 26) rfl)) (hw _ (List.mem_of_getElem? (i := 25) rfl)) (hw _ (List.mem_of_getElem? (i := 11) rfl)) (hw _ (List.mem_of_getElem? (i := 27) rfl)) (by decide) (rm_ae l Z a0 hw b291 a253 ps308 1 (0 + w0) ln _ T308.heap n0 Z311 B312i B312p f313 hp308 (by omega) (Or.inl ⟨rfl, by omega⟩)) 0 (by decide) (by decide) (by decide) (by decide) B312E (g := (mkF m 221 #[.val (.int u0), .val (.int u1), .val (.int u2), .val (.int u3), .val (.int (1 : Int32)), .val (.int b5), .val (.int b6), .val (.int tt), .val (.int kq), .val (.int l9), .val (.int l10), .val (.int len), .val (.ref a253), .val (.int y257), .val (.ref b291), .val (.int (1 : Int32))] [(.ref b291)])) rfl (by rw [hml]; rfl) [] [] rfl (lenOf pd_1 rfl) rfl (by show 2 * 0 + _ ≤ _; exact Nat.le_of_eq rfl) (hb hby at_221) ?_
                intro T314 L314 v314 X314 q314
                obtain ⟨rfl, N314, hh314⟩ := q314
                obtain ⟨lc314, X314h, N314h⟩ := own_hide X314 (Fr.app N308h N314)
                show G (T314.setTop (mkF m 224 #[.val (.int u0), .val (.int u1), .val (.int u2), .val (.int u3), .val (.int (1 : Int32)), .val (.int b5), .val (.int b6), .val (.int tt), .val (.int kq), .val (.int l9), .val (.int l10), .val (.int len), .val (.ref a253), .val (.int y257), .val (.ref b291), .val (.int (1 : Int32))] [(.int (1 : Int32))]))
                refine go _ _ (fun t' k' => XS.iload X314h.here hx rfl (hb hby at_224) rfl  k') ?_
                show G (T314.setTop (mkF m 226 #[.val (.int u0), .val (.int u1), .val (.int u2), .val (.int u3), .val (.int (1 : Int32)), .val (.int b5), .val (.int b6), .val (.int tt), .val (.int kq), .val (.int l9), .val (.int l10), .val (.int len), .val (.ref a253), .val (.int y257), .val (.ref b291), .val (.int (1 : Int32))] [(.int (1 : Int32)), (.int (1 : Int32))]))
                refine go _ _ (fun t' k' => XS.iconst X314h.here hx rfl (hb hby at_226) k') ?_
                show G (T314.setTop (mkF m 227 #[.val (.int u0), .val (.int u1), .val (.int u2), .val (.int u3), .val (.int (1 : Int32)), .val (.int b5), .val (.int b6), .val (.int tt), .val (.int kq), .val (.int l9), .val (.int l10), .val (.int len), .val (.ref a253), .val (.int y257), .val (.ref b291), .val (.int (1 : Int32))] [(.int (1 : Int32)), (.int (1 : Int32)), (.int (1 : Int32))]))
                refine go _ _ (fun t' k' => XS.icmpNo X314h.here hx rfl (hb hby at_227) rfl (Free.XT.ii_ne_f (by decide)) k') ?_
                show G (T314.setTop (mkF m 230 #[.val (.int u0), .val (.int u1), .val (.int u2), .val (.int u3), .val (.int (1 : Int32)), .val (.int b5), .val (.int b6), .val (.int tt), .val (.int kq), .val (.int l9), .val (.int l10), .val (.int len), .val (.ref a253), .val (.int y257), .val (.ref b291), .val (.int (1 : Int32))] [(.int (1 : Int32))]))
                refine go _ _ (fun t' k' => XS.iload X314h.here hx rfl (hb hby at_230) rfl  k') ?_
                show G (T314.setTop (mkF m 232 #[.val (.int u0), .val (.int u1), .val (.int u2), .val (.int u3), .val (.int (1 : Int32)), .val (.int b5), .val (.int b6), .val (.int tt), .val (.int kq), .val (.int l9), .val (.int l10), .val (.int len), .val (.ref a253), .val (.int y257), .val (.ref b291), .val (.int (1 : Int32))] [(.int tt), (.int (1 : Int32))]))
                refine go _ _ (fun t' k' => XS.ifNo X314h.here hx rfl (hb hby at_232) rfl (Free.XT.i0_ne_f z290) k') ?_
                show G (T314.setTop (mkF m 235 #[.val (.int u0), .val (.int u1), .val (.int u2), .val (.int u3), .val (.int (1 : Int32)), .val (.int b5), .val (.int b6), .val (.int tt), .val (.int kq), .val (.int l9), .val (.int l10), .val (.int len), .val (.ref a253), .val (.int y257), .val (.ref b291), .val (.int (1 : Int32))] [(.int (1 : Int32))]))
                refine go _ _ (fun t' k' => XS.iconst X314h.here hx rfl (hb hby at_235) k') ?_
                show G (T314.setTop (mkF m 236 #[.val (.int u0), .val (.int u1), .val (.int u2), .val (.int u3), .val (.int (1 : Int32)), .val (.int b5), .val (.int b6), .val (.int tt), .val (.int kq), .val (.int l9), .val (.int l10), .val (.int len), .val (.ref a253), .val (.int y257), .val (.ref b291), .val (.int (1 : Int32))] [(.int (1 : Int32)), (.int (1 : Int32))]))
                refine go _ _ (fun t' k' => XS.goto X314h.here hx rfl (pc0 := 236) (pc' := 240) rfl (hb hby at_236) (by decide) (by decide) k') ?_
                show G (T314.setTop (mkF m 240 #[.val (.int u0), .val (.int u1), .val (.int u2), .val (.int u3), .val (.int (1 : Int32)), .val (.int b5), .val (.int b6), .val (.int tt), .val (.int kq), .val (.int l9), .val (.int l10), .val (.int len), .val (.ref a253), .val (.int y257), .val (.ref b291), .val (.int (1 : Int32))] [(.int (1 : Int32)), (.int (1 : Int32))]))
                refine go _ _ (fun t' k' => XS.icmpNo X314h.here hx rfl (hb hby at_240) rfl (Free.XT.ii_ne_f (by decide)) k') ?_
                show G (T314.setTop (mkF m 243 #[.val (.int u0), .val (.int u1), .val (.int u2), .val (.int u3), .val (.int (1 : Int32)), .val (.int b5), .val (.int b6), .val (.int tt), .val (.int kq), .val (.int l9), .val (.int l10), .val (.int len), .val (.ref a253), .val (.int y257), .val (.ref b291), .val (.int (1 : Int32))] []))
                refine go _ _ (fun t' k' => XS.iconst X314h.here hx rfl (hb hby at_243) k') ?_
                show G (T314.setTop (mkF m 244 #[.val (.int u0), .val (.int u1), .val (.int u2), .val (.int u3), .val (.int (1 : Int32)), .val (.int b5), .val (.int b6), .val (.int tt), .val (.int kq), .val (.int l9), .val (.int l10), .val (.int len), .val (.ref a253), .val (.int y257), .val (.ref b291), .val (.int (1 : Int32))] [(.int (1 : Int32))]))
                refine go _ _ (fun t' k' => XS.goto X314h.here hx rfl (pc0 := 244) (pc' := 248) rfl (hb hby at_244) (by decide) (by decide) k') ?_
                show G (T314.setTop (mkF m 248 #[.val (.int u0), .val (.int u1), .val (.int u2), .val (.int u3), .val (.int (1 : Int32)), .val (.int b5), .val (.int b6), .val (.int tt), .val (.int kq), .val (.int l9), .val (.int l10), .val (.int len), .val (.ref a253), .val (.int y257), .val (.ref b291), .val (.int (1 : Int32))] [(.int (1 : Int32))]))
                refine go _ _ (fun t' k' => XS.istore X314h.here hx rfl (hb hby at_248) rfl (l' := #[.val (.int u0), .val (.int u1), .val (.int u2), .val (.int u3), .val (.int (1 : Int32)), .val (.int b5), .val (.int b6), .val (.int tt), .val (.int kq), .val (.int l9), .val (.int l10), .val (.int len), .val (.ref a253), .val (.int y257), .val (.ref b291), .val (.int (1 : Int32))]) rfl k') ?_
                show G (T314.setTop (mkF m 250 #[.val (.int u0), .val (.int u1), .val (.int u2), .val (.int u3), .val (.int (1 : Int32)), .val (.int b5), .val (.int b6), .val (.int tt), .val (.int kq), .val (.int l9), .val (.int l10), .val (.int len), .val (.ref a253), .val (.int y257), .val (.ref b291), .val (.int (1 : Int32))] []))
                refine go _ _ (fun t' k' => XS.iload X314h.here hx rfl (hb hby at_250) rfl  k') ?_
                show G (T314.setTop (mkF m 252 #[.val (.int u0), .val (.int u1), .val (.int u2), .val (.int u3), .val (.int (1 : Int32)), .val (.int b5), .val (.int b6), .val (.int tt), .val (.int kq), .val (.int l9), .val (.int l10), .val (.int len), .val (.ref a253), .val (.int y257), .val (.ref b291), .val (.int (1 : Int32))] [(.int kq)]))
                refine go _ _ (fun t' k' => XS.iconst X314h.here hx rfl (hb hby at_252) k') ?_
                show G (T314.setTop (mkF m 253 #[.val (.int u0), .val (.int u1), .val (.int u2), .val (.int u3), .val (.int (1 : Int32)), .val (.int b5), .val (.int b6), .val (.int tt), .val (.int kq), .val (.int l9), .val (.int l10), .val (.int len), .val (.ref a253), .val (.int y257), .val (.ref b291), .val (.int (1 : Int32))] [(.int (2 : Int32)), (.int kq)]))
                refine go _ _ (fun t' k' => XS.icmpYes X314h.here hx rfl (pc0 := 253) (pc' := 292) rfl (hb hby at_253) rfl (Free.XT.ii_lt_t ((own_lt hkn (j := 2) rfl).mpr (by omega))) (by decide) (by decide) k') ?_
                show G (T314.setTop (mkF m 292 #[.val (.int u0), .val (.int u1), .val (.int u2), .val (.int u3), .val (.int (1 : Int32)), .val (.int b5), .val (.int b6), .val (.int tt), .val (.int kq), .val (.int l9), .val (.int l10), .val (.int len), .val (.ref a253), .val (.int y257), .val (.ref b291), .val (.int (1 : Int32))] []))
                refine go _ _ (fun t' k' => XS.iload X314h.here hx rfl (hb hby at_292) rfl  k') ?_
                show G (T314.setTop (mkF m 294 #[.val (.int u0), .val (.int u1), .val (.int u2), .val (.int u3), .val (.int (1 : Int32)), .val (.int b5), .val (.int b6), .val (.int tt), .val (.int kq), .val (.int l9), .val (.int l10), .val (.int len), .val (.ref a253), .val (.int y257), .val (.ref b291), .val (.int (1 : Int32))] [(.int (1 : Int32))]))
                refine own_retZ rt X314h hx (t := .boolean) hret (by simp) (hb hby at_294) (by decide) (by decide) ?_
                exact ⟨rfl, N314h⟩
          by_cases c315 : b6 = (0 : Int32)
          · refine go _ _ (fun t' k' => XS.ifYes X251.here hx rfl (pc0 := 67) (pc' := 74) rfl (hb hby at_67) rfl (Free.XT.i0_eq_t c315) (by decide) (by decide) k') ?_
            show G (T251.setTop (mkF m 74 #[.val (.int u0), .val (.int u1), .val (.int u2), .val (.int u3), .val (.int (1 : Int32)), .val (.int b5), .val (.int b6), .val (.int tt), .val (.int kq), .val (.int l9), .unset, .unset, .unset, .unset, .unset, .unset] []))
            refine go _ _ (fun t' k' => XS.iconst X251.here hx rfl (hb hby at_74) k') ?_
            show G (T251.setTop (mkF m 75 #[.val (.int u0), .val (.int u1), .val (.int u2), .val (.int u3), .val (.int (1 : Int32)), .val (.int b5), .val (.int b6), .val (.int tt), .val (.int kq), .val (.int l9), .unset, .unset, .unset, .unset, .unset, .unset] [(.int (1 : Int32))]))
            exact J75 T251 _ X251 e251 N251j _ 1 rfl (Or.inl ⟨c315, rfl⟩)
          · refine go _ _ (fun t' k' => XS.ifNo X251.here hx rfl (hb hby at_67) rfl (Free.XT.i0_eq_f c315) k') ?_
            show G (T251.setTop (mkF m 70 #[.val (.int u0), .val (.int u1), .val (.int u2), .val (.int u3), .val (.int (1 : Int32)), .val (.int b5), .val (.int b6), .val (.int tt), .val (.int kq), .val (.int l9), .unset, .unset, .unset, .unset, .unset, .unset] []))
            refine go _ _ (fun t' k' => XS.iconst X251.here hx rfl (hb hby at_70) k') ?_
            show G (T251.setTop (mkF m 71 #[.val (.int u0), .val (.int u1), .val (.int u2), .val (.int u3), .val (.int (1 : Int32)), .val (.int b5), .val (.int b6), .val (.int tt), .val (.int kq), .val (.int l9), .unset, .unset, .unset, .unset, .unset, .unset] [(.int (2 : Int32))]))
            refine go _ _ (fun t' k' => XS.goto X251.here hx rfl (pc0 := 71) (pc' := 75) rfl (hb hby at_71) (by decide) (by decide) k') ?_
            show G (T251.setTop (mkF m 75 #[.val (.int u0), .val (.int u1), .val (.int u2), .val (.int u3), .val (.int (1 : Int32)), .val (.int b5), .val (.int b6), .val (.int tt), .val (.int kq), .val (.int l9), .unset, .unset, .unset, .unset, .unset, .unset] [(.int (2 : Int32))]))
            exact J75 T251 _ X251 e251 N251j _ 2 rfl (Or.inr ⟨c315, rfl⟩)
        by_cases c316 : b5 = (0 : Int32)
        · refine go _ _ (fun t' k' => XS.ifYes X250h.here hx rfl (pc0 := 55) (pc' := 62) rfl (hb hby at_55) rfl (Free.XT.i0_eq_t c316) (by decide) (by decide) k') ?_
          show G (T250.setTop (mkF m 62 #[.val (.int u0), .val (.int u1), .val (.int u2), .val (.int u3), .val (.int (1 : Int32)), .val (.int b5), .val (.int b6), .val (.int tt), .val (.int kq), .unset, .unset, .unset, .unset, .unset, .unset, .unset] []))
          refine go _ _ (fun t' k' => XS.iconst X250h.here hx rfl (hb hby at_62) k') ?_
          show G (T250.setTop (mkF m 63 #[.val (.int u0), .val (.int u1), .val (.int u2), .val (.int u3), .val (.int (1 : Int32)), .val (.int b5), .val (.int b6), .val (.int tt), .val (.int kq), .unset, .unset, .unset, .unset, .unset, .unset, .unset] [(.int (1 : Int32))]))
          exact J63 T250 _ X250h hh250 N250h _ 1 rfl (Or.inl ⟨c316, rfl⟩)
        · refine go _ _ (fun t' k' => XS.ifNo X250h.here hx rfl (hb hby at_55) rfl (Free.XT.i0_eq_f c316) k') ?_
          show G (T250.setTop (mkF m 58 #[.val (.int u0), .val (.int u1), .val (.int u2), .val (.int u3), .val (.int (1 : Int32)), .val (.int b5), .val (.int b6), .val (.int tt), .val (.int kq), .unset, .unset, .unset, .unset, .unset, .unset, .unset] []))
          refine go _ _ (fun t' k' => XS.iconst X250h.here hx rfl (hb hby at_58) k') ?_
          show G (T250.setTop (mkF m 59 #[.val (.int u0), .val (.int u1), .val (.int u2), .val (.int u3), .val (.int (1 : Int32)), .val (.int b5), .val (.int b6), .val (.int tt), .val (.int kq), .unset, .unset, .unset, .unset, .unset, .unset, .unset] [(.int (2 : Int32))]))
          refine go _ _ (fun t' k' => XS.goto X250h.here hx rfl (pc0 := 59) (pc' := 63) rfl (hb hby at_59) (by decide) (by decide) k') ?_
          show G (T250.setTop (mkF m 63 #[.val (.int u0), .val (.int u1), .val (.int u2), .val (.int u3), .val (.int (1 : Int32)), .val (.int b5), .val (.int b6), .val (.int tt), .val (.int kq), .unset, .unset, .unset, .unset, .unset, .unset, .unset] [(.int (2 : Int32))]))
          exact J63 T250 _ X250h hh250 N250h _ 2 rfl (Or.inr ⟨c316, rfl⟩)
      by_cases c317 : (u0 &&& (8 : Int32)) = (0 : Int32)
      · refine go _ _ (fun t' k' => XS.ifYes X248.here hx rfl (pc0 := 24) (pc' := 31) rfl (hb hby at_24) rfl (Free.XT.i0_eq_t c317) (by decide) (by decide) k') ?_
        show G (T248.setTop (mkF m 31 #[.val (.int u0), .val (.int u1), .val (.int u2), .val (.int u3), .val (.int (1 : Int32)), .val (.int b5), .unset, .unset, .unset, .unset, .unset, .unset, .unset, .unset, .unset, .unset] []))
        refine go _ _ (fun t' k' => XS.iconst X248.here hx rfl (hb hby at_31) k') ?_
        show G (T248.setTop (mkF m 32 #[.val (.int u0), .val (.int u1), .val (.int u2), .val (.int u3), .val (.int (1 : Int32)), .val (.int b5), .unset, .unset, .unset, .unset, .unset, .unset, .unset, .unset, .unset, .unset] [(.int (0 : Int32))]))
        exact J32 T248 _ X248 e248 N248j _ 
      · refine go _ _ (fun t' k' => XS.ifNo X248.here hx rfl (hb hby at_24) rfl (Free.XT.i0_eq_f c317) k') ?_
        show G (T248.setTop (mkF m 27 #[.val (.int u0), .val (.int u1), .val (.int u2), .val (.int u3), .val (.int (1 : Int32)), .val (.int b5), .unset, .unset, .unset, .unset, .unset, .unset, .unset, .unset, .unset, .unset] []))
        refine go _ _ (fun t' k' => XS.iconst X248.here hx rfl (hb hby at_27) k') ?_
        show G (T248.setTop (mkF m 28 #[.val (.int u0), .val (.int u1), .val (.int u2), .val (.int u3), .val (.int (1 : Int32)), .val (.int b5), .unset, .unset, .unset, .unset, .unset, .unset, .unset, .unset, .unset, .unset] [(.int (1 : Int32))]))
        refine go _ _ (fun t' k' => XS.goto X248.here hx rfl (pc0 := 28) (pc' := 32) rfl (hb hby at_28) (by decide) (by decide) k') ?_
        show G (T248.setTop (mkF m 32 #[.val (.int u0), .val (.int u1), .val (.int u2), .val (.int u3), .val (.int (1 : Int32)), .val (.int b5), .unset, .unset, .unset, .unset, .unset, .unset, .unset, .unset, .unset, .unset] [(.int (1 : Int32))]))
        exact J32 T248 _ X248 e248 N248j _ 
    by_cases c318 : (u0 &&& (4 : Int32)) = (0 : Int32)
    · refine go _ _ (fun t' k' => XS.ifYes X0.here hx rfl (pc0 := 10) (pc' := 17) rfl (hb hby at_10) rfl (Free.XT.i0_eq_t c318) (by decide) (by decide) k') ?_
      show G (s₁.setTop (mkF m 17 #[.val (.int u0), .val (.int u1), .val (.int u2), .val (.int u3), .val (.int (1 : Int32)), .unset, .unset, .unset, .unset, .unset, .unset, .unset, .unset, .unset, .unset, .unset] []))
      refine go _ _ (fun t' k' => XS.iconst X0.here hx rfl (hb hby at_17) k') ?_
      show G (s₁.setTop (mkF m 18 #[.val (.int u0), .val (.int u1), .val (.int u2), .val (.int u3), .val (.int (1 : Int32)), .unset, .unset, .unset, .unset, .unset, .unset, .unset, .unset, .unset, .unset, .unset] [(.int (0 : Int32))]))
      exact J18 s₁ _ X0 e0 N0 _ 
    · refine go _ _ (fun t' k' => XS.ifNo X0.here hx rfl (hb hby at_10) rfl (Free.XT.i0_eq_f c318) k') ?_
      show G (s₁.setTop (mkF m 13 #[.val (.int u0), .val (.int u1), .val (.int u2), .val (.int u3), .val (.int (1 : Int32)), .unset, .unset, .unset, .unset, .unset, .unset, .unset, .unset, .unset, .unset, .unset] []))
      refine go _ _ (fun t' k' => XS.iconst X0.here hx rfl (hb hby at_13) k') ?_
      show G (s₁.setTop (mkF m 14 #[.val (.int u0), .val (.int u1), .val (.int u2), .val (.int u3), .val (.int (1 : Int32)), .unset, .unset, .unset, .unset, .unset, .unset, .unset, .unset, .unset, .unset, .unset] [(.int (1 : Int32))]))
      refine go _ _ (fun t' k' => XS.goto X0.here hx rfl (pc0 := 14) (pc' := 18) rfl (hb hby at_14) (by decide) (by decide) k') ?_
      show G (s₁.setTop (mkF m 18 #[.val (.int u0), .val (.int u1), .val (.int u2), .val (.int u3), .val (.int (1 : Int32)), .unset, .unset, .unset, .unset, .unset, .unset, .unset, .unset, .unset, .unset, .unset] [(.int (1 : Int32))]))
      exact J18 s₁ _ X0 e0 N0 _ 
  · clear hnn
    show G (s₁.setTop (mkF m 7 #[.val (.int u0), .val (.int u1), .val (.int u2), .val (.int u3), .val (.int (2 : Int32)), .unset, .unset, .unset, .unset, .unset, .unset, .unset, .unset, .unset, .unset, .unset] []))
    refine go _ _ (fun t' k' => XS.iloadN X0.here hx rfl (hb hby at_7) rfl  k') ?_
    show G (s₁.setTop (mkF m 8 #[.val (.int u0), .val (.int u1), .val (.int u2), .val (.int u3), .val (.int (2 : Int32)), .unset, .unset, .unset, .unset, .unset, .unset, .unset, .unset, .unset, .unset, .unset] [(.int u0)]))
    refine go _ _ (fun t' k' => XS.iconst X0.here hx rfl (hb hby at_8) k') ?_
    show G (s₁.setTop (mkF m 9 #[.val (.int u0), .val (.int u1), .val (.int u2), .val (.int u3), .val (.int (2 : Int32)), .unset, .unset, .unset, .unset, .unset, .unset, .unset, .unset, .unset, .unset, .unset] [(.int (4 : Int32)), (.int u0)]))
    refine go _ _ (fun t' k' => XS.iand X0.here hx rfl (hb hby at_9) rfl k') ?_
    show G (s₁.setTop (mkF m 10 #[.val (.int u0), .val (.int u1), .val (.int u2), .val (.int u3), .val (.int (2 : Int32)), .unset, .unset, .unset, .unset, .unset, .unset, .unset, .unset, .unset, .unset, .unset] [(.int (u0 &&& (4 : Int32)))]))
    have J18 : ∀ (T : State) (locs : List Loc), Stand p l e room_1 s m #[(.int u0), (.int u1), (.int u2), (.int u3)] below meth c T locs 0 0 → T.heap = h0 → Fr n0 locs → ∀ (b5 : Int32), G (T.setTop (mkF m 18 #[.val (.int u0), .val (.int u1), .val (.int u2), .val (.int u3), .val (.int (2 : Int32)), .unset, .unset, .unset, .unset, .unset, .unset, .unset, .unset, .unset, .unset, .unset] [(.int b5)])) := by
      intro T319 locs319 X319 e319 N319j b5 
      show G (T319.setTop (mkF m 18 #[.val (.int u0), .val (.int u1), .val (.int u2), .val (.int u3), .val (.int (2 : Int32)), .unset, .unset, .unset, .unset, .unset, .unset, .unset, .unset, .unset, .unset, .unset] [(.int b5)]))
      refine go _ _ (fun t' k' => XS.istore X319.here hx rfl (hb hby at_18) rfl (l' := #[.val (.int u0), .val (.int u1), .val (.int u2), .val (.int u3), .val (.int (2 : Int32)), .val (.int b5), .unset, .unset, .unset, .unset, .unset, .unset, .unset, .unset, .unset, .unset]) rfl k') ?_
      show G (T319.setTop (mkF m 20 #[.val (.int u0), .val (.int u1), .val (.int u2), .val (.int u3), .val (.int (2 : Int32)), .val (.int b5), .unset, .unset, .unset, .unset, .unset, .unset, .unset, .unset, .unset, .unset] []))
      refine go _ _ (fun t' k' => XS.iloadN X319.here hx rfl (hb hby at_20) rfl  k') ?_
      show G (T319.setTop (mkF m 21 #[.val (.int u0), .val (.int u1), .val (.int u2), .val (.int u3), .val (.int (2 : Int32)), .val (.int b5), .unset, .unset, .unset, .unset, .unset, .unset, .unset, .unset, .unset, .unset] [(.int u0)]))
      refine go _ _ (fun t' k' => XS.bipush X319.here hx rfl (hb hby at_21) k') ?_
      show G (T319.setTop (mkF m 23 #[.val (.int u0), .val (.int u1), .val (.int u2), .val (.int u3), .val (.int (2 : Int32)), .val (.int b5), .unset, .unset, .unset, .unset, .unset, .unset, .unset, .unset, .unset, .unset] [(.int (8 : Int32)), (.int u0)]))
      refine go _ _ (fun t' k' => XS.iand X319.here hx rfl (hb hby at_23) rfl k') ?_
      show G (T319.setTop (mkF m 24 #[.val (.int u0), .val (.int u1), .val (.int u2), .val (.int u3), .val (.int (2 : Int32)), .val (.int b5), .unset, .unset, .unset, .unset, .unset, .unset, .unset, .unset, .unset, .unset] [(.int (u0 &&& (8 : Int32)))]))
      have J32 : ∀ (T : State) (locs : List Loc), Stand p l e room_1 s m #[(.int u0), (.int u1), (.int u2), (.int u3)] below meth c T locs 0 0 → T.heap = h0 → Fr n0 locs → ∀ (b6 : Int32), G (T.setTop (mkF m 32 #[.val (.int u0), .val (.int u1), .val (.int u2), .val (.int u3), .val (.int (2 : Int32)), .val (.int b5), .unset, .unset, .unset, .unset, .unset, .unset, .unset, .unset, .unset, .unset] [(.int b6)])) := by
        intro T320 locs320 X320 e320 N320j b6 
        show G (T320.setTop (mkF m 32 #[.val (.int u0), .val (.int u1), .val (.int u2), .val (.int u3), .val (.int (2 : Int32)), .val (.int b5), .unset, .unset, .unset, .unset, .unset, .unset, .unset, .unset, .unset, .unset] [(.int b6)]))
        refine go _ _ (fun t' k' => XS.istore X320.here hx rfl (hb hby at_32) rfl (l' := #[.val (.int u0), .val (.int u1), .val (.int u2), .val (.int u3), .val (.int (2 : Int32)), .val (.int b5), .val (.int b6), .unset, .unset, .unset, .unset, .unset, .unset, .unset, .unset, .unset]) rfl k') ?_
        show G (T320.setTop (mkF m 34 #[.val (.int u0), .val (.int u1), .val (.int u2), .val (.int u3), .val (.int (2 : Int32)), .val (.int b5), .val (.int b6), .unset, .unset, .unset, .unset, .unset, .unset, .unset, .unset, .unset] []))
        refine go _ _ (fun t' k' => XS.iloadN X320.here hx rfl (hb hby at_34) rfl  k') ?_
        show G (T320.setTop (mkF m 35 #[.val (.int u0), .val (.int u1), .val (.int u2), .val (.int u3), .val (.int (2 : Int32)), .val (.int b5), .val (.int b6), .unset, .unset, .unset, .unset, .unset, .unset, .unset, .unset, .unset] [(.int u0)]))
        refine go _ _ (fun t' k' => XS.iconst X320.here hx rfl (hb hby at_35) k') ?_
        show G (T320.setTop (mkF m 36 #[.val (.int u0), .val (.int u1), .val (.int u2), .val (.int u3), .val (.int (2 : Int32)), .val (.int b5), .val (.int b6), .unset, .unset, .unset, .unset, .unset, .unset, .unset, .unset, .unset] [(.int (4 : Int32)), (.int u0)]))
        refine go _ _ (fun t' k' => XS.iushr X320.here hx rfl (hb hby at_36) rfl k') ?_
        show G (T320.setTop (mkF m 37 #[.val (.int u0), .val (.int u1), .val (.int u2), .val (.int u3), .val (.int (2 : Int32)), .val (.int b5), .val (.int b6), .unset, .unset, .unset, .unset, .unset, .unset, .unset, .unset, .unset] [(.int ((u0.toUInt32 >>> ((4 : Int32) &&& 31).toUInt32).toInt32))]))
        refine go _ _ (fun t' k' => XS.iconst X320.here hx rfl (hb hby at_37) k') ?_
        show G (T320.setTop (mkF m 38 #[.val (.int u0), .val (.int u1), .val (.int u2), .val (.int u3), .val (.int (2 : Int32)), .val (.int b5), .val (.int b6), .unset, .unset, .unset, .unset, .unset, .unset, .unset, .unset, .unset] [(.int (1 : Int32)), (.int ((u0.toUInt32 >>> ((4 : Int32) &&& 31).toUInt32).toInt32))]))
        refine go _ _ (fun t' k' => XS.iand X320.here hx rfl (hb hby at_38) rfl k') ?_
        show G (T320.setTop (mkF m 39 #[.val (.int u0), .val (.int u1), .val (.int u2), .val (.int u3), .val (.int (2 : Int32)), .val (.int b5), .val (.int b6), .unset, .unset, .unset, .unset, .unset, .unset, .unset, .unset, .unset] [(.int (((u0.toUInt32 >>> ((4 : Int32) &&& 31).toUInt32).toInt32) &&& (1 : Int32)))]))
        refine go _ _ (fun t' k' => XS.istore X320.here hx rfl (hb hby at_39) rfl (l' := #[.val (.int u0), .val (.int u1), .val (.int u2), .val (.int u3), .val (.int (2 : Int32)), .val (.int b5), .val (.int b6), .val (.int (((u0.toUInt32 >>> ((4 : Int32) &&& 31).toUInt32).toInt32) &&& (1 : Int32))), .unset, .unset, .unset, .unset, .unset, .unset, .unset, .unset]) rfl k') ?_
        show G (T320.setTop (mkF m 41 #[.val (.int u0), .val (.int u1), .val (.int u2), .val (.int u3), .val (.int (2 : Int32)), .val (.int b5), .val (.int b6), .val (.int (((u0.toUInt32 >>> ((4 : Int32) &&& 31).toUInt32).toInt32) &&& (1 : Int32))), .unset, .unset, .unset, .unset, .unset, .unset, .unset, .unset] []))
        obtain ⟨tt, htt⟩ : ∃ z, z = (((u0.toUInt32 >>> ((4 : Int32) &&& 31).toUInt32).toInt32) &&& (1 : Int32)) := ⟨_, rfl⟩
        rw [← htt]
        show G (T320.setTop (mkF m 41 #[.val (.int u0), .val (.int u1), .val (.int u2), .val (.int u3), .val (.int (2 : Int32)), .val (.int b5), .val (.int b6), .val (.int tt), .unset, .unset, .unset, .unset, .unset, .unset, .unset, .unset] []))
        obtain ⟨tn, htn, htn1⟩ := own_t01 htt
        refine go _ _ (fun t' k' => XS.iload X320.here hx rfl (hb hby at_41) rfl  k') ?_
        show G (T320.setTop (mkF m 43 #[.val (.int u0), .val (.int u1), .val (.int u2), .val (.int u3), .val (.int (2 : Int32)), .val (.int b5), .val (.int b6), .val (.int tt), .unset, .unset, .unset, .unset, .unset, .unset, .unset, .unset] [(.int (2 : Int32))]))
        refine go _ _ (fun t' k' => XS.iloadN X320.here hx rfl (hb hby at_43) rfl  k') ?_
        show G (T320.setTop (mkF m 44 #[.val (.int u0), .val (.int u1), .val (.int u2), .val (.int u3), .val (.int (2 : Int32)), .val (.int b5), .val (.int b6), .val (.int tt), .unset, .unset, .unset, .unset, .unset, .unset, .unset, .unset] [(.int u0), (.int (2 : Int32))]))
        refine go _ _ (fun t' k' => XS.iconst X320.here hx rfl (hb hby at_44) k') ?_
        show G (T320.setTop (mkF m 45 #[.val (.int u0), .val (.int u1), .val (.int u2), .val (.int u3), .val (.int (2 : Int32)), .val (.int b5), .val (.int b6), .val (.int tt), .unset, .unset, .unset, .unset, .unset, .unset, .unset, .unset] [(.int (5 : Int32)), (.int u0), (.int (2 : Int32))]))
        refine go _ _ (fun t' k' => XS.iushr X320.here hx rfl (hb hby at_45) rfl k') ?_
        show G (T320.setTop (mkF m 46 #[.val (.int u0), .val (.int u1), .val (.int u2), .val (.int u3), .val (.int (2 : Int32)), .val (.int b5), .val (.int b6), .val (.int tt), .unset, .unset, .unset, .unset, .unset, .unset, .unset, .unset] [(.int ((u0.toUInt32 >>> ((5 : Int32) &&& 31).toUInt32).toInt32)), (.int (2 : Int32))]))
        refine go _ _ (fun t' k' => XS.iconst X320.here hx rfl (hb hby at_46) k') ?_
        show G (T320.setTop (mkF m 47 #[.val (.int u0), .val (.int u1), .val (.int u2), .val (.int u3), .val (.int (2 : Int32)), .val (.int b5), .val (.int b6), .val (.int tt), .unset, .unset, .unset, .unset, .unset, .unset, .unset, .unset] [(.int (3 : Int32)), (.int ((u0.toUInt32 >>> ((5 : Int32) &&& 31).toUInt32).toInt32)), (.int (2 : Int32))]))
        refine go _ _ (fun t' k' => XS.iand X320.here hx rfl (hb hby at_47) rfl k') ?_
        show G (T320.setTop (mkF m 48 #[.val (.int u0), .val (.int u1), .val (.int u2), .val (.int u3), .val (.int (2 : Int32)), .val (.int b5), .val (.int b6), .val (.int tt), .unset, .unset, .unset, .unset, .unset, .unset, .unset, .unset] [(.int (((u0.toUInt32 >>> ((5 : Int32) &&& 31).toUInt32).toInt32) &&& (3 : Int32))), (.int (2 : Int32))]))
        refine own_static go X320 hx hZ e320 hown (hw _ (List.mem_of_getElem? (i := 0) rfl)) (hw _ (List.mem_of_getElem? (i := 1) rfl)) (hw _ (List.mem_of_getElem? (i := 2) rfl)) (hw _ (List.mem_of_getElem? (i := 3) rfl)) (by decide) (rm_min l Z a0 hw (2 : Int32) (((u0.toUInt32 >>> ((5 : Int32) &&& 31).toUInt32).toInt32) &&& (3 : Int32)) h0 n0 Z0) 0 (by decide) (by decide) (by decide) (by decide) (g := (mkF m 48 #[.val (.int u0), .val (.int u1), .val (.int u2), .val (.int u3), .val (.int (2 : Int32)), .val (.int b5), .val (.int b6), .val (.int tt), .unset, .unset, .unset, .unset, .unset, .unset, .unset, .unset] [(.int (((u0.toUInt32 >>> ((5 : Int32) &&& 31).toUInt32).toInt32) &&& (3 : Int32))), (.int (2 : Int32))])) rfl (by rw [hml]; rfl) [(.int (2 : Int32)), (.int (((u0.toUInt32 >>> ((5 : Int32) &&& 31).toUInt32).toInt32) &&& (3 : Int32)))] [] rfl (lenOf pd_5 rfl) rfl (by show 2 * 0 + _ ≤ _; exact Nat.le_of_eq rfl) (hb hby at_48) ?_
        intro T321 L321 v321 X321 q321
        obtain ⟨rfl, N321, hh321⟩ := q321
        obtain ⟨lc321, X321h, N321h⟩ := own_hide X321 (Fr.app N320j N321)
        show G (T321.setTop (mkF m 51 #[.val (.int u0), .val (.int u1), .val (.int u2), .val (.int u3), .val (.int (2 : Int32)), .val (.int b5), .val (.int b6), .val (.int tt), .unset, .unset, .unset, .unset, .unset, .unset, .unset, .unset] [(.int (if (((u0.toUInt32 >>> ((5 : Int32) &&& 31).toUInt32).toInt32) &&& (3 : Int32)) < (2 : Int32) then (((u0.toUInt32 >>> ((5 : Int32) &&& 31).toUInt32).toInt32) &&& (3 : Int32)) else (2 : Int32)))]))
        refine go _ _ (fun t' k' => XS.istore X321h.here hx rfl (hb hby at_51) rfl (l' := #[.val (.int u0), .val (.int u1), .val (.int u2), .val (.int u3), .val (.int (2 : Int32)), .val (.int b5), .val (.int b6), .val (.int tt), .val (.int (if (((u0.toUInt32 >>> ((5 : Int32) &&& 31).toUInt32).toInt32) &&& (3 : Int32)) < (2 : Int32) then (((u0.toUInt32 >>> ((5 : Int32) &&& 31).toUInt32).toInt32) &&& (3 : Int32)) else (2 : Int32))), .unset, .unset, .unset, .unset, .unset, .unset, .unset]) rfl k') ?_
        show G (T321.setTop (mkF m 53 #[.val (.int u0), .val (.int u1), .val (.int u2), .val (.int u3), .val (.int (2 : Int32)), .val (.int b5), .val (.int b6), .val (.int tt), .val (.int (if (((u0.toUInt32 >>> ((5 : Int32) &&& 31).toUInt32).toInt32) &&& (3 : Int32)) < (2 : Int32) then (((u0.toUInt32 >>> ((5 : Int32) &&& 31).toUInt32).toInt32) &&& (3 : Int32)) else (2 : Int32))), .unset, .unset, .unset, .unset, .unset, .unset, .unset] []))
        obtain ⟨kq, hkq⟩ : ∃ z, z = (if (((u0.toUInt32 >>> ((5 : Int32) &&& 31).toUInt32).toInt32) &&& (3 : Int32)) < (2 : Int32) then (((u0.toUInt32 >>> ((5 : Int32) &&& 31).toUInt32).toInt32) &&& (3 : Int32)) else (2 : Int32)) := ⟨_, rfl⟩
        rw [← hkq]
        show G (T321.setTop (mkF m 53 #[.val (.int u0), .val (.int u1), .val (.int u2), .val (.int u3), .val (.int (2 : Int32)), .val (.int b5), .val (.int b6), .val (.int tt), .val (.int kq), .unset, .unset, .unset, .unset, .unset, .unset, .unset] []))
        obtain ⟨kn, hkn, hkn2⟩ := own_kq hkq (by decide)
        have hkn3 : kn ≤ 2 := by have e : (2 : Int32).toInt = 2 := rfl; omega
        refine go _ _ (fun t' k' => XS.iload X321h.here hx rfl (hb hby at_53) rfl  k') ?_
        show G (T321.setTop (mkF m 55 #[.val (.int u0), .val (.int u1), .val (.int u2), .val (.int u3), .val (.int (2 : Int32)), .val (.int b5), .val (.int b6), .val (.int tt), .val (.int kq), .unset, .unset, .unset, .unset, .unset, .unset, .unset] [(.int b5)]))
        have J63 : ∀ (T : State) (locs : List Loc), Stand p l e room_1 s m #[(.int u0), (.int u1), (.int u2), (.int u3)] below meth c T locs 0 0 → T.heap = h0 → Fr n0 locs → ∀ (l9 : Int32) (w0 : Nat), (l9.toInt = w0) → ((b5 = 0 ∧ w0 = 1) ∨ (¬ b5 = 0 ∧ w0 = 2)) → G (T.setTop (mkF m 63 #[.val (.int u0), .val (.int u1), .val (.int u2), .val (.int u3), .val (.int (2 : Int32)), .val (.int b5), .val (.int b6), .val (.int tt), .val (.int kq), .unset, .unset, .unset, .unset, .unset, .unset, .unset] [(.int l9)])) := by
          intro T322 locs322 X322 e322 N322j l9 w0 hl9 hw0
          show G (T322.setTop (mkF m 63 #[.val (.int u0), .val (.int u1), .val (.int u2), .val (.int u3), .val (.int (2 : Int32)), .val (.int b5), .val (.int b6), .val (.int tt), .val (.int kq), .unset, .unset, .unset, .unset, .unset, .unset, .unset] [(.int l9)]))
          refine go _ _ (fun t' k' => XS.istore X322.here hx rfl (hb hby at_63) rfl (l' := #[.val (.int u0), .val (.int u1), .val (.int u2), .val (.int u3), .val (.int (2 : Int32)), .val (.int b5), .val (.int b6), .val (.int tt), .val (.int kq), .val (.int l9), .unset, .unset, .unset, .unset, .unset, .unset]) rfl k') ?_
          show G (T322.setTop (mkF m 65 #[.val (.int u0), .val (.int u1), .val (.int u2), .val (.int u3), .val (.int (2 : Int32)), .val (.int b5), .val (.int b6), .val (.int tt), .val (.int kq), .val (.int l9), .unset, .unset, .unset, .unset, .unset, .unset] []))
          refine go _ _ (fun t' k' => XS.iload X322.here hx rfl (hb hby at_65) rfl  k') ?_
          show G (T322.setTop (mkF m 67 #[.val (.int u0), .val (.int u1), .val (.int u2), .val (.int u3), .val (.int (2 : Int32)), .val (.int b5), .val (.int b6), .val (.int tt), .val (.int kq), .val (.int l9), .unset, .unset, .unset, .unset, .unset, .unset] [(.int b6)]))
          have J75 : ∀ (T : State) (locs : List Loc), Stand p l e room_1 s m #[(.int u0), (.int u1), (.int u2), (.int u3)] below meth c T locs 0 0 → T.heap = h0 → Fr n0 locs → ∀ (l10 : Int32) (w1 : Nat), (l10.toInt = w1) → ((b6 = 0 ∧ w1 = 1) ∨ (¬ b6 = 0 ∧ w1 = 2)) → G (T.setTop (mkF m 75 #[.val (.int u0), .val (.int u1), .val (.int u2), .val (.int u3), .val (.int (2 : Int32)), .val (.int b5), .val (.int b6), .val (.int tt), .val (.int kq), .val (.int l9), .unset, .unset, .unset, .unset, .unset, .unset] [(.int l10)])) := by
            intro T323 locs323 X323 e323 N323j l10 w1 hl10 hw1
            show G (T323.setTop (mkF m 75 #[.val (.int u0), .val (.int u1), .val (.int u2), .val (.int u3), .val (.int (2 : Int32)), .val (.int b5), .val (.int b6), .val (.int tt), .val (.int kq), .val (.int l9), .unset, .unset, .unset, .unset, .unset, .unset] [(.int l10)]))
            refine go _ _ (fun t' k' => XS.istore X323.here hx rfl (hb hby at_75) rfl (l' := #[.val (.int u0), .val (.int u1), .val (.int u2), .val (.int u3), .val (.int (2 : Int32)), .val (.int b5), .val (.int b6), .val (.int tt), .val (.int kq), .val (.int l9), .val (.int l10), .unset, .unset, .unset, .unset, .unset]) rfl k') ?_
            show G (T323.setTop (mkF m 77 #[.val (.int u0), .val (.int u1), .val (.int u2), .val (.int u3), .val (.int (2 : Int32)), .val (.int b5), .val (.int b6), .val (.int tt), .val (.int kq), .val (.int l9), .val (.int l10), .unset, .unset, .unset, .unset, .unset] []))
            refine go _ _ (fun t' k' => XS.iload X323.here hx rfl (hb hby at_77) rfl  k') ?_
            show G (T323.setTop (mkF m 79 #[.val (.int u0), .val (.int u1), .val (.int u2), .val (.int u3), .val (.int (2 : Int32)), .val (.int b5), .val (.int b6), .val (.int tt), .val (.int kq), .val (.int l9), .val (.int l10), .unset, .unset, .unset, .unset, .unset] [(.int (2 : Int32))]))
            refine go _ _ (fun t' k' => XS.iconst X323.here hx rfl (hb hby at_79) k') ?_
            show G (T323.setTop (mkF m 80 #[.val (.int u0), .val (.int u1), .val (.int u2), .val (.int u3), .val (.int (2 : Int32)), .val (.int b5), .val (.int b6), .val (.int tt), .val (.int kq), .val (.int l9), .val (.int l10), .unset, .unset, .unset, .unset, .unset] [(.int (1 : Int32)), (.int (2 : Int32))]))
            refine go _ _ (fun t' k' => XS.icmpNo X323.here hx rfl (hb hby at_80) rfl (Free.XT.ii_lt_f (by decide)) k') ?_
            show G (T323.setTop (mkF m 83 #[.val (.int u0), .val (.int u1), .val (.int u2), .val (.int u3), .val (.int (2 : Int32)), .val (.int b5), .val (.int b6), .val (.int tt), .val (.int kq), .val (.int l9), .val (.int l10), .unset, .unset, .unset, .unset, .unset] []))
            refine go _ _ (fun t' k' => XS.iload X323.here hx rfl (hb hby at_83) rfl  k') ?_
            show G (T323.setTop (mkF m 85 #[.val (.int u0), .val (.int u1), .val (.int u2), .val (.int u3), .val (.int (2 : Int32)), .val (.int b5), .val (.int b6), .val (.int tt), .val (.int kq), .val (.int l9), .val (.int l10), .unset, .unset, .unset, .unset, .unset] [(.int l9)]))
            refine go _ _ (fun t' k' => XS.goto X323.here hx rfl (pc0 := 85) (pc' := 89) rfl (hb hby at_85) (by decide) (by decide) k') ?_
            show G (T323.setTop (mkF m 89 #[.val (.int u0), .val (.int u1), .val (.int u2), .val (.int u3), .val (.int (2 : Int32)), .val (.int b5), .val (.int b6), .val (.int tt), .val (.int kq), .val (.int l9), .val (.int l10), .unset, .unset, .unset, .unset, .unset] [(.int l9)]))
            refine go _ _ (fun t' k' => XS.iload X323.here hx rfl (hb hby at_89) rfl  k') ?_
            show G (T323.setTop (mkF m 91 #[.val (.int u0), .val (.int u1), .val (.int u2), .val (.int u3), .val (.int (2 : Int32)), .val (.int b5), .val (.int b6), .val (.int tt), .val (.int kq), .val (.int l9), .val (.int l10), .unset, .unset, .unset, .unset, .unset] [(.int (2 : Int32)), (.int l9)]))
            refine go _ _ (fun t' k' => XS.iconst X323.here hx rfl (hb hby at_91) k') ?_
            show G (T323.setTop (mkF m 92 #[.val (.int u0), .val (.int u1), .val (.int u2), .val (.int u3), .val (.int (2 : Int32)), .val (.int b5), .val (.int b6), .val (.int tt), .val (.int kq), .val (.int l9), .val (.int l10), .unset, .unset, .unset, .unset, .unset] [(.int (2 : Int32)), (.int (2 : Int32)), (.int l9)]))
            refine go _ _ (fun t' k' => XS.icmpNo X323.here hx rfl (hb hby at_92) rfl (Free.XT.ii_lt_f (by decide)) k') ?_
            show G (T323.setTop (mkF m 95 #[.val (.int u0), .val (.int u1), .val (.int u2), .val (.int u3), .val (.int (2 : Int32)), .val (.int b5), .val (.int b6), .val (.int tt), .val (.int kq), .val (.int l9), .val (.int l10), .unset, .unset, .unset, .unset, .unset] [(.int l9)]))
            refine go _ _ (fun t' k' => XS.iload X323.here hx rfl (hb hby at_95) rfl  k') ?_
            show G (T323.setTop (mkF m 97 #[.val (.int u0), .val (.int u1), .val (.int u2), .val (.int u3), .val (.int (2 : Int32)), .val (.int b5), .val (.int b6), .val (.int tt), .val (.int kq), .val (.int l9), .val (.int l10), .unset, .unset, .unset, .unset, .unset] [(.int l10), (.int l9)]))
            refine go _ _ (fun t' k' => XS.goto X323.here hx rfl (pc0 := 97) (pc' := 101) rfl (hb hby at_97) (by decide) (by decide) k') ?_
            show G (T323.setTop (mkF m 101 #[.val (.int u0), .val (.int u1), .val (.int u2), .val (.int u3), .val (.int (2 : Int32)), .val (.int b5), .val (.int b6), .val (.int tt), .val (.int kq), .val (.int l9), .val (.int l10), .unset, .unset, .unset, .unset, .unset] [(.int l10), (.int l9)]))
            refine go _ _ (fun t' k' => XS.iadd X323.here hx rfl (hb hby at_101) rfl k') ?_
            show G (T323.setTop (mkF m 102 #[.val (.int u0), .val (.int u1), .val (.int u2), .val (.int u3), .val (.int (2 : Int32)), .val (.int b5), .val (.int b6), .val (.int tt), .val (.int kq), .val (.int l9), .val (.int l10), .unset, .unset, .unset, .unset, .unset] [(.int (l9 + l10))]))
            refine go _ _ (fun t' k' => XS.iload X323.here hx rfl (hb hby at_102) rfl  k') ?_
            show G (T323.setTop (mkF m 104 #[.val (.int u0), .val (.int u1), .val (.int u2), .val (.int u3), .val (.int (2 : Int32)), .val (.int b5), .val (.int b6), .val (.int tt), .val (.int kq), .val (.int l9), .val (.int l10), .unset, .unset, .unset, .unset, .unset] [(.int tt), (.int (l9 + l10))]))
            refine go _ _ (fun t' k' => XS.iadd X323.here hx rfl (hb hby at_104) rfl k') ?_
            show G (T323.setTop (mkF m 105 #[.val (.int u0), .val (.int u1), .val (.int u2), .val (.int u3), .val (.int (2 : Int32)), .val (.int b5), .val (.int b6), .val (.int tt), .val (.int kq), .val (.int l9), .val (.int l10), .unset, .unset, .unset, .unset, .unset] [(.int ((l9 + l10) + tt))]))
            refine go _ _ (fun t' k' => XS.istore X323.here hx rfl (hb hby at_105) rfl (l' := #[.val (.int u0), .val (.int u1), .val (.int u2), .val (.int u3), .val (.int (2 : Int32)), .val (.int b5), .val (.int b6), .val (.int tt), .val (.int kq), .val (.int l9), .val (.int l10), .val (.int ((l9 + l10) + tt)), .unset, .unset, .unset, .unset]) rfl k') ?_
            show G (T323.setTop (mkF m 107 #[.val (.int u0), .val (.int u1), .val (.int u2), .val (.int u3), .val (.int (2 : Int32)), .val (.int b5), .val (.int b6), .val (.int tt), .val (.int kq), .val (.int l9), .val (.int l10), .val (.int ((l9 + l10) + tt)), .unset, .unset, .unset, .unset] []))
            obtain ⟨len, hlen⟩ : ∃ z, z = ((l9 + l10) + tt) := ⟨_, rfl⟩
            rw [← hlen]
            show G (T323.setTop (mkF m 107 #[.val (.int u0), .val (.int u1), .val (.int u2), .val (.int u3), .val (.int (2 : Int32)), .val (.int b5), .val (.int b6), .val (.int tt), .val (.int kq), .val (.int l9), .val (.int l10), .val (.int len), .unset, .unset, .unset, .unset] []))
            have hwb0 : w0 = 1 ∨ w0 = 2 := hw0.elim (fun z => Or.inl z.2) (fun z => Or.inr z.2)
            have hwb1 : w1 = 1 ∨ w1 = 2 := hw1.elim (fun z => Or.inl z.2) (fun z => Or.inr z.2)
            obtain ⟨ln, hlnE⟩ : ∃ ln : Nat, ln = w0 + w1 + tn := ⟨_, rfl⟩
            have hln : len.toInt = ln := by rw [hlen, hlnE]; exact own_add (own_add hl9 hl10 (by omega)) htn (by omega)
            refine go _ _ (fun t' k' => XS.iload X323.here hx rfl (hb hby at_107) rfl  k') ?_
            show G (T323.setTop (mkF m 109 #[.val (.int u0), .val (.int u1), .val (.int u2), .val (.int u3), .val (.int (2 : Int32)), .val (.int b5), .val (.int b6), .val (.int tt), .val (.int kq), .val (.int l9), .val (.int l10), .val (.int len), .unset, .unset, .unset, .unset] [(.int len)]))
            refine own_static go X323 hx hZ e323 hown (hw _ (List.mem_of_getElem? (i := 4) rfl)) (hw _ (List.mem_of_getElem? (i := 5) rfl)) (hw _ (List.mem_of_getElem? (i := 6) rfl)) (hw _ (List.mem_of_getElem? (i := 7) rfl)) (by decide) (rm_al l Z a0 hw len ln h0 n0 Z0 hln (by omega)) 0 (by decide) (by decide) (by decide) (by decide) (g := (mkF m 109 #[.val (.int u0), .val (.int u1), .val (.int u2), .val (.int u3), .val (.int (2 : Int32)), .val (.int b5), .val (.int b6), .val (.int tt), .val (.int kq), .val (.int l9), .val (.int l10), .val (.int len), .unset, .unset, .unset, .unset] [(.int len)])) rfl (by rw [hml]; rfl) [(.int len)] [] rfl (lenOf pd_6 rfl) rfl (by show 2 * 0 + _ ≤ _; exact Nat.le_of_eq rfl) (hb hby at_109) ?_
            intro T324 L324 v324 X324 q324
            obtain ⟨a324, rfl, N324, K324, A324, g_a324, ga324⟩ := q324
            have ns325 : ∀ w ∈ [], ∃ c : Cell, h0[w]? = some c ∧ c.vm.isStatics = false := all0
            obtain ⟨lc324, X324h, N324h⟩ := own_hide X324 (Fr.app N323j N324)
            have K326 : Keep h0 T324.heap [] := (Keep.refl h0 []).trans K324 all0
            have Z327 : n0 ≤ T324.heap.size := Nat.le_trans Z0 K324.1
            have sz_a324 : h0.size ≤ a324 := Nat.le_trans (Keep.refl h0 []).1 (Nat.le_of_eq ga324.symm)
            obtain ⟨g0, Ag0⟩ := A324.ints (by simp)
            show G (T324.setTop (mkF m 112 #[.val (.int u0), .val (.int u1), .val (.int u2), .val (.int u3), .val (.int (2 : Int32)), .val (.int b5), .val (.int b6), .val (.int tt), .val (.int kq), .val (.int l9), .val (.int l10), .val (.int len), .unset, .unset, .unset, .unset] [(.ref a324)]))
            refine go _ _ (fun t' k' => XS.astore X324h.here hx rfl (hb hby at_112) rfl rfl (l' := #[.val (.int u0), .val (.int u1), .val (.int u2), .val (.int u3), .val (.int (2 : Int32)), .val (.int b5), .val (.int b6), .val (.int tt), .val (.int kq), .val (.int l9), .val (.int l10), .val (.int len), .val (.ref a324), .unset, .unset, .unset]) rfl k') ?_
            show G (T324.setTop (mkF m 114 #[.val (.int u0), .val (.int u1), .val (.int u2), .val (.int u3), .val (.int (2 : Int32)), .val (.int b5), .val (.int b6), .val (.int tt), .val (.int kq), .val (.int l9), .val (.int l10), .val (.int len), .val (.ref a324), .unset, .unset, .unset] []))
            refine go _ _ (fun t' k' => XS.iconst X324h.here hx rfl (hb hby at_114) k') ?_
            show G (T324.setTop (mkF m 115 #[.val (.int u0), .val (.int u1), .val (.int u2), .val (.int u3), .val (.int (2 : Int32)), .val (.int b5), .val (.int b6), .val (.int tt), .val (.int kq), .val (.int l9), .val (.int l10), .val (.int len), .val (.ref a324), .unset, .unset, .unset] [(.int (0 : Int32))]))
            refine go _ _ (fun t' k' => XS.istore X324h.here hx rfl (hb hby at_115) rfl (l' := #[.val (.int u0), .val (.int u1), .val (.int u2), .val (.int u3), .val (.int (2 : Int32)), .val (.int b5), .val (.int b6), .val (.int tt), .val (.int kq), .val (.int l9), .val (.int l10), .val (.int len), .val (.ref a324), .val (.int (0 : Int32)), .unset, .unset]) rfl k') ?_
            show G (T324.setTop (mkF m 117 #[.val (.int u0), .val (.int u1), .val (.int u2), .val (.int u3), .val (.int (2 : Int32)), .val (.int b5), .val (.int b6), .val (.int tt), .val (.int kq), .val (.int l9), .val (.int l10), .val (.int len), .val (.ref a324), .val (.int (0 : Int32)), .unset, .unset] []))
            refine go _ _ (fun t' k' => XS.iload X324h.here hx rfl (hb hby at_117) rfl  k') ?_
            show G (T324.setTop (mkF m 119 #[.val (.int u0), .val (.int u1), .val (.int u2), .val (.int u3), .val (.int (2 : Int32)), .val (.int b5), .val (.int b6), .val (.int tt), .val (.int kq), .val (.int l9), .val (.int l10), .val (.int len), .val (.ref a324), .val (.int (0 : Int32)), .unset, .unset] [(.int (2 : Int32))]))
            refine go _ _ (fun t' k' => XS.iconst X324h.here hx rfl (hb hby at_119) k') ?_
            show G (T324.setTop (mkF m 120 #[.val (.int u0), .val (.int u1), .val (.int u2), .val (.int u3), .val (.int (2 : Int32)), .val (.int b5), .val (.int b6), .val (.int tt), .val (.int kq), .val (.int l9), .val (.int l10), .val (.int len), .val (.ref a324), .val (.int (0 : Int32)), .unset, .unset] [(.int (1 : Int32)), (.int (2 : Int32))]))
            refine go _ _ (fun t' k' => XS.icmpNo X324h.here hx rfl (hb hby at_120) rfl (Free.XT.ii_lt_f (by decide)) k') ?_
            show G (T324.setTop (mkF m 123 #[.val (.int u0), .val (.int u1), .val (.int u2), .val (.int u3), .val (.int (2 : Int32)), .val (.int b5), .val (.int b6), .val (.int tt), .val (.int kq), .val (.int l9), .val (.int l10), .val (.int len), .val (.ref a324), .val (.int (0 : Int32)), .unset, .unset] []))
            refine go _ _ (fun t' k' => XS.aload X324h.here hx rfl (hb hby at_123) rfl rfl  k') ?_
            show G (T324.setTop (mkF m 125 #[.val (.int u0), .val (.int u1), .val (.int u2), .val (.int u3), .val (.int (2 : Int32)), .val (.int b5), .val (.int b6), .val (.int tt), .val (.int kq), .val (.int l9), .val (.int l10), .val (.int len), .val (.ref a324), .val (.int (0 : Int32)), .unset, .unset] [(.ref a324)]))
            refine go _ _ (fun t' k' => XS.iload X324h.here hx rfl (hb hby at_125) rfl  k') ?_
            show G (T324.setTop (mkF m 127 #[.val (.int u0), .val (.int u1), .val (.int u2), .val (.int u3), .val (.int (2 : Int32)), .val (.int b5), .val (.int b6), .val (.int tt), .val (.int kq), .val (.int l9), .val (.int l10), .val (.int len), .val (.ref a324), .val (.int (0 : Int32)), .unset, .unset] [(.int (0 : Int32)), (.ref a324)]))
            refine go _ _ (fun t' k' => XS.iload X324h.here hx rfl (hb hby at_127) rfl  k') ?_
            show G (T324.setTop (mkF m 129 #[.val (.int u0), .val (.int u1), .val (.int u2), .val (.int u3), .val (.int (2 : Int32)), .val (.int b5), .val (.int b6), .val (.int tt), .val (.int kq), .val (.int l9), .val (.int l10), .val (.int len), .val (.ref a324), .val (.int (0 : Int32)), .unset, .unset] [(.int b5), (.int (0 : Int32)), (.ref a324)]))
            refine go _ _ (fun t' k' => XS.iloadN X324h.here hx rfl (hb hby at_129) rfl  k') ?_
            show G (T324.setTop (mkF m 130 #[.val (.int u0), .val (.int u1), .val (.int u2), .val (.int u3), .val (.int (2 : Int32)), .val (.int b5), .val (.int b6), .val (.int tt), .val (.int kq), .val (.int l9), .val (.int l10), .val (.int len), .val (.ref a324), .val (.int (0 : Int32)), .unset, .unset] [(.int u1), (.int b5), (.int (0 : Int32)), (.ref a324)]))
            refine own_static go X324h hx hZ rfl hown (hw _ (List.mem_of_getElem? (i := 30) rfl)) (hw _ (List.mem_of_getElem? (i := 31) rfl)) (hw _ (List.mem_of_getElem? (i := 6) rfl)) (hw _ (List.mem_of_getElem? (i := 32) rfl)) (by decide) (rm_pu l Z a0 hw a324 (0 : Int32) b5 u1 0 ln w0 g0 T324.heap n0 Z327 g_a324 Ag0 rfl (by omega) hw0 (by omega)) 0 (by decide) (by decide) (by decide) (by decide) (g := (mkF m 130 #[.val (.int u0), .val (.int u1), .val (.int u2), .val (.int u3), .val (.int (2 : Int32)), .val (.int b5), .val (.int b6), .val (.int tt), .val (.int kq), .val (.int l9), .val (.int l10), .val (.int len), .val (.ref a324), .val (.int (0 : Int32)), .unset, .unset] [(.int u1), (.int b5), (.int (0 : Int32)), (.ref a324)])) rfl (by rw [hml]; rfl) [(.ref a324), (.int (0 : Int32)), (.int b5), (.int u1)] [] rfl (lenOf pd_8 rfl) rfl (by show 2 * 0 + _ ≤ _; exact Nat.le_of_eq rfl) (hb hby at_130) ?_
            intro T328 L328 v328 X328 q328
            obtain ⟨⟨y328, rfl, hy328⟩, N328, K328, g328, A328, H328, U328⟩ := q328
            have ns329 : ∀ w ∈ [a324], ∃ c : Cell, T324.heap[w]? = some c ∧ c.vm.isStatics = false := (allS (own_ary_ns Ag0) all0)
            obtain ⟨lc328, X328h, N328h⟩ := own_hide X328 (Fr.app N324h N328)
            have K330 : Keep h0 T328.heap [] := K326.trans K328 (allS (Or.inr sz_a324) all0)
            have Z331 : n0 ≤ T328.heap.size := Nat.le_trans Z327 K328.1
            show G (T328.setTop (mkF m 133 #[.val (.int u0), .val (.int u1), .val (.int u2), .val (.int u3), .val (.int (2 : Int32)), .val (.int b5), .val (.int b6), .val (.int tt), .val (.int kq), .val (.int l9), .val (.int l10), .val (.int len), .val (.ref a324), .val (.int (0 : Int32)), .unset, .unset] [(.int y328)]))
            refine go _ _ (fun t' k' => XS.istore X328h.here hx rfl (hb hby at_133) rfl (l' := #[.val (.int u0), .val (.int u1), .val (.int u2), .val (.int u3), .val (.int (2 : Int32)), .val (.int b5), .val (.int b6), .val (.int tt), .val (.int kq), .val (.int l9), .val (.int l10), .val (.int len), .val (.ref a324), .val (.int y328), .unset, .unset]) rfl k') ?_
            show G (T328.setTop (mkF m 135 #[.val (.int u0), .val (.int u1), .val (.int u2), .val (.int u3), .val (.int (2 : Int32)), .val (.int b5), .val (.int b6), .val (.int tt), .val (.int kq), .val (.int l9), .val (.int l10), .val (.int len), .val (.ref a324), .val (.int y328), .unset, .unset] []))
            refine go _ _ (fun t' k' => XS.iload X328h.here hx rfl (hb hby at_135) rfl  k') ?_
            show G (T328.setTop (mkF m 137 #[.val (.int u0), .val (.int u1), .val (.int u2), .val (.int u3), .val (.int (2 : Int32)), .val (.int b5), .val (.int b6), .val (.int tt), .val (.int kq), .val (.int l9), .val (.int l10), .val (.int len), .val (.ref a324), .val (.int y328), .unset, .unset] [(.int (2 : Int32))]))
            refine go _ _ (fun t' k' => XS.iconst X328h.here hx rfl (hb hby at_137) k') ?_
            show G (T328.setTop (mkF m 138 #[.val (.int u0), .val (.int u1), .val (.int u2), .val (.int u3), .val (.int (2 : Int32)), .val (.int b5), .val (.int b6), .val (.int tt), .val (.int kq), .val (.int l9), .val (.int l10), .val (.int len), .val (.ref a324), .val (.int y328), .unset, .unset] [(.int (2 : Int32)), (.int (2 : Int32))]))
            refine go _ _ (fun t' k' => XS.icmpNo X328h.here hx rfl (hb hby at_138) rfl (Free.XT.ii_lt_f (by decide)) k') ?_
            show G (T328.setTop (mkF m 141 #[.val (.int u0), .val (.int u1), .val (.int u2), .val (.int u3), .val (.int (2 : Int32)), .val (.int b5), .val (.int b6), .val (.int tt), .val (.int kq), .val (.int l9), .val (.int l10), .val (.int len), .val (.ref a324), .val (.int y328), .unset, .unset] []))
            refine go _ _ (fun t' k' => XS.aload X328h.here hx rfl (hb hby at_141) rfl rfl  k') ?_
            show G (T328.setTop (mkF m 143 #[.val (.int u0), .val (.int u1), .val (.int u2), .val (.int u3), .val (.int (2 : Int32)), .val (.int b5), .val (.int b6), .val (.int tt), .val (.int kq), .val (.int l9), .val (.int l10), .val (.int len), .val (.ref a324), .val (.int y328), .unset, .unset] [(.ref a324)]))
            refine go _ _ (fun t' k' => XS.iload X328h.here hx rfl (hb hby at_143) rfl  k') ?_
            show G (T328.setTop (mkF m 145 #[.val (.int u0), .val (.int u1), .val (.int u2), .val (.int u3), .val (.int (2 : Int32)), .val (.int b5), .val (.int b6), .val (.int tt), .val (.int kq), .val (.int l9), .val (.int l10), .val (.int len), .val (.ref a324), .val (.int y328), .unset, .unset] [(.int y328), (.ref a324)]))
            refine go _ _ (fun t' k' => XS.iload X328h.here hx rfl (hb hby at_145) rfl  k') ?_
            show G (T328.setTop (mkF m 147 #[.val (.int u0), .val (.int u1), .val (.int u2), .val (.int u3), .val (.int (2 : Int32)), .val (.int b5), .val (.int b6), .val (.int tt), .val (.int kq), .val (.int l9), .val (.int l10), .val (.int len), .val (.ref a324), .val (.int y328), .unset, .unset] [(.int b6), (.int y328), (.ref a324)]))
            refine go _ _ (fun t' k' => XS.iloadN X328h.here hx rfl (hb hby at_147) rfl  k') ?_
            show G (T328.setTop (mkF m 148 #[.val (.int u0), .val (.int u1), .val (.int u2), .val (.int u3), .val (.int (2 : Int32)), .val (.int b5), .val (.int b6), .val (.int tt), .val (.int kq), .val (.int l9), .val (.int l10), .val (.int len), .val (.ref a324), .val (.int y328), .unset, .unset] [(.int u2), (.int b6), (.int y328), (.ref a324)]))
            refine own_static go X328h hx hZ rfl hown (hw _ (List.mem_of_getElem? (i := 30) rfl)) (hw _ (List.mem_of_getElem? (i := 31) rfl)) (hw _ (List.mem_of_getElem? (i := 6) rfl)) (hw _ (List.mem_of_getElem? (i := 32) rfl)) (by decide) (rm_pu l Z a0 hw a324 y328 b6 u2 (0 + w0) ln w1 g328 T328.heap n0 Z331 g_a324 A328 hy328 (by omega) hw1 (by omega)) 0 (by decide) (by decide) (by decide) (by decide) (g := (mkF m 148 #[.val (.int u0), .val (.int u1), .val (.int u2), .val (.int u3), .val (.int (2 : Int32)), .val (.int b5), .val (.int b6), .val (.int tt), .val (.int kq), .val (.int l9), .val (.int l10), .val (.int len), .val (.ref a324), .val (.int y328), .unset, .unset] [(.int u2), (.int b6), (.int y328), (.ref a324)])) rfl (by rw [hml]; rfl) [(.ref a324), (.int y328), (.int b6), (.int u2)] [] rfl (lenOf pd_8 rfl) rfl (by show 2 * 0 + _ ≤ _; exact Nat.le_of_eq rfl) (hb hby at_148) ?_
            intro T332 L332 v332 X332 q332
            obtain ⟨⟨y332, rfl, hy332⟩, N332, K332, g332, A332, H332, U332⟩ := q332
            have ns333 : ∀ w ∈ [a324], ∃ c : Cell, T328.heap[w]? = some c ∧ c.vm.isStatics = false := (allS (own_ary_ns A328) all0)
            obtain ⟨lc332, X332h, N332h⟩ := own_hide X332 (Fr.app N328h N332)
            have K334 : Keep h0 T332.heap [] := K330.trans K332 (allS (Or.inr sz_a324) all0)
            have Z335 : n0 ≤ T332.heap.size := Nat.le_trans Z331 K332.1
            show G (T332.setTop (mkF m 151 #[.val (.int u0), .val (.int u1), .val (.int u2), .val (.int u3), .val (.int (2 : Int32)), .val (.int b5), .val (.int b6), .val (.int tt), .val (.int kq), .val (.int l9), .val (.int l10), .val (.int len), .val (.ref a324), .val (.int y328), .unset, .unset] [(.int y332)]))
            refine go _ _ (fun t' k' => XS.istore X332h.here hx rfl (hb hby at_151) rfl (l' := #[.val (.int u0), .val (.int u1), .val (.int u2), .val (.int u3), .val (.int (2 : Int32)), .val (.int b5), .val (.int b6), .val (.int tt), .val (.int kq), .val (.int l9), .val (.int l10), .val (.int len), .val (.ref a324), .val (.int y332), .unset, .unset]) rfl k') ?_
            show G (T332.setTop (mkF m 153 #[.val (.int u0), .val (.int u1), .val (.int u2), .val (.int u3), .val (.int (2 : Int32)), .val (.int b5), .val (.int b6), .val (.int tt), .val (.int kq), .val (.int l9), .val (.int l10), .val (.int len), .val (.ref a324), .val (.int y332), .unset, .unset] []))
            refine go _ _ (fun t' k' => XS.iload X332h.here hx rfl (hb hby at_153) rfl  k') ?_
            show G (T332.setTop (mkF m 155 #[.val (.int u0), .val (.int u1), .val (.int u2), .val (.int u3), .val (.int (2 : Int32)), .val (.int b5), .val (.int b6), .val (.int tt), .val (.int kq), .val (.int l9), .val (.int l10), .val (.int len), .val (.ref a324), .val (.int y332), .unset, .unset] [(.int tt)]))
            refine go _ _ (fun t' k' => XS.iconst X332h.here hx rfl (hb hby at_155) k') ?_
            show G (T332.setTop (mkF m 156 #[.val (.int u0), .val (.int u1), .val (.int u2), .val (.int u3), .val (.int (2 : Int32)), .val (.int b5), .val (.int b6), .val (.int tt), .val (.int kq), .val (.int l9), .val (.int l10), .val (.int len), .val (.ref a324), .val (.int y332), .unset, .unset] [(.int (1 : Int32)), (.int tt)]))
            by_cases c336 : tt = (1 : Int32)
            · have htn0 : tn = 1 := (own_lit 1 (kk := 1) rfl htn).mp c336
              have z337 : ¬ tt = (0 : Int32) := (not_congr (own_lit 0 (kk := 0) rfl htn)).mpr (by omega)
              show G (T332.setTop (mkF m 156 #[.val (.int u0), .val (.int u1), .val (.int u2), .val (.int u3), .val (.int (2 : Int32)), .val (.int b5), .val (.int b6), .val (.int tt), .val (.int kq), .val (.int l9), .val (.int l10), .val (.int len), .val (.ref a324), .val (.int y332), .unset, .unset] [(.int (1 : Int32)), (.int tt)]))
              refine go _ _ (fun t' k' => XS.icmpNo X332h.here hx rfl (hb hby at_156) rfl (Free.XT.ii_ne_f c336) k') ?_
              show G (T332.setTop (mkF m 159 #[.val (.int u0), .val (.int u1), .val (.int u2), .val (.int u3), .val (.int (2 : Int32)), .val (.int b5), .val (.int b6), .val (.int tt), .val (.int kq), .val (.int l9), .val (.int l10), .val (.int len), .val (.ref a324), .val (.int y332), .unset, .unset] []))
              refine go _ _ (fun t' k' => XS.aload X332h.here hx rfl (hb hby at_159) rfl rfl  k') ?_
              show G (T332.setTop (mkF m 161 #[.val (.int u0), .val (.int u1), .val (.int u2), .val (.int u3), .val (.int (2 : Int32)), .val (.int b5), .val (.int b6), .val (.int tt), .val (.int kq), .val (.int l9), .val (.int l10), .val (.int len), .val (.ref a324), .val (.int y332), .unset, .unset] [(.ref a324)]))
              refine go _ _ (fun t' k' => XS.iload X332h.here hx rfl (hb hby at_161) rfl  k') ?_
              show G (T332.setTop (mkF m 163 #[.val (.int u0), .val (.int u1), .val (.int u2), .val (.int u3), .val (.int (2 : Int32)), .val (.int b5), .val (.int b6), .val (.int tt), .val (.int kq), .val (.int l9), .val (.int l10), .val (.int len), .val (.ref a324), .val (.int y332), .unset, .unset] [(.int y332), (.ref a324)]))
              refine go _ _ (fun t' k' => XS.iloadN X332h.here hx rfl (hb hby at_163) rfl  k') ?_
              show G (T332.setTop (mkF m 164 #[.val (.int u0), .val (.int u1), .val (.int u2), .val (.int u3), .val (.int (2 : Int32)), .val (.int b5), .val (.int b6), .val (.int tt), .val (.int kq), .val (.int l9), .val (.int l10), .val (.int len), .val (.ref a324), .val (.int y332), .unset, .unset] [(.int u3), (.int y332), (.ref a324)]))
              refine go _ _ (fun t' k' => XS.i2b X332h.here hx rfl (hb hby at_164) rfl k') ?_
              show G (T332.setTop (mkF m 165 #[.val (.int u0), .val (.int u1), .val (.int u2), .val (.int u3), .val (.int (2 : Int32)), .val (.int b5), .val (.int b6), .val (.int tt), .val (.int kq), .val (.int l9), .val (.int l10), .val (.int len), .val (.ref a324), .val (.int y332), .unset, .unset] [(.int (u3.toInt8.toInt32)), (.int y332), (.ref a324)]))
              refine own_bastore go X332h hx hZ rfl ((0 + w0) + w1) hy332 (by omega) (g := (mkF m 165 #[.val (.int u0), .val (.int u1), .val (.int u2), .val (.int u3), .val (.int (2 : Int32)), .val (.int b5), .val (.int b6), .val (.int tt), .val (.int kq), .val (.int l9), .val (.int l10), .val (.int len), .val (.ref a324), .val (.int y332), .unset, .unset] [(.int (u3.toInt8.toInt32)), (.int y332), (.ref a324)])) rfl A332 rfl (hb hby at_165) ?_
              intro T338 h338 X338 e338 W338 A338
              have K339 : Keep h0 h338 [] := K334.wr W338 (Or.inr sz_a324)
              obtain ⟨lc338, X338h, N338h⟩ := own_hide X338 (Fr.snoc X338 N332h g_a324)
              have Z340 : n0 ≤ h338.size := Nat.le_trans Z335 (Nat.le_of_eq W338.size.symm)
              have A338c := A338.cong (g := (fun i => .int ((upd g332 ((0 + w0) + w1) (u3.toInt8.toInt32)) i))) (own_upd (own_nb _))
              show G (T338.setTop (mkF m 166 #[.val (.int u0), .val (.int u1), .val (.int u2), .val (.int u3), .val (.int (2 : Int32)), .val (.int b5), .val (.int b6), .val (.int tt), .val (.int kq), .val (.int l9), .val (.int l10), .val (.int len), .val (.ref a324), .val (.int y332), .unset, .unset] []))
              obtain ⟨T341, h341, X341, e341, E341, A341, D341, -, st341⟩ := newO X338h hx hZ hown (hw _ (List.mem_of_getElem? (i := 9) rfl)) (hw _ (List.mem_of_getElem? (i := 10) rfl)) (hw _ (List.mem_of_getElem? (i := 11) rfl)) e338 (g := (mkF m 166 #[.val (.int u0), .val (.int u1), .val (.int u2), .val (.int u3), .val (.int (2 : Int32)), .val (.int b5), .val (.int b6), .val (.int tt), .val (.int kq), .val (.int l9), .val (.int l10), .val (.int len), .val (.ref a324), .val (.int y332), .unset, .unset] [])) rfl (hb hby at_166) (by decide) (by decide)
              obtain ⟨b341, g341⟩ : ∃ z, z = h338.size := ⟨_, rfl⟩
              rw [← g341] at A341 D341 st341
              have ne342 : a324 ≠ b341 := Nat.ne_of_lt (by rw [g341]; exact A338c.lt)
              have g_b341 : n0 ≤ b341 := Nat.le_trans Z340 (Nat.le_of_eq g341.symm)
              have sz_b341 : h0.size ≤ b341 := Nat.le_trans K339.1 (Nat.le_of_eq g341.symm)
              have Z343 : n0 ≤ h341.size := Nat.le_trans Z340 E341.1
              have K344 : Keep h0 h341 [] := K339.ext E341
              have F345 : Fld Z h341 b341 "com/example/brevidns/brevidns/CborReader" "itemsLeft" "[I" .null := D341 (Or.inl (hw _ (List.mem_of_getElem? (i := 20) rfl))) (ty := (.array .int)) (by decide)
              have F346 : Fld Z h341 b341 "com/example/brevidns/brevidns/CborReader" "input" "[B" .null := D341 (Or.inr (hw _ (List.mem_of_getElem? (i := 22) rfl))) (ty := (.array .byte)) (by decide)
              have F347 : Fld Z h341 b341 "com/example/brevidns/brevidns/CborReader" "position" "I" (.int (0 : Int32)) := D341 (Or.inl (hw _ (List.mem_of_getElem? (i := 29) rfl))) (ty := .int) (by decide)
              have F348 : Fld Z h341 b341 "com/example/brevidns/brevidns/CborReader" "depth" "I" (.int (0 : Int32)) := D341 (Or.inl (hw _ (List.mem_of_getElem? (i := 56) rfl))) (ty := .int) (by decide)
              refine go _ _ st341 ?_
              show G (T341.setTop (mkF m 169 #[.val (.int u0), .val (.int u1), .val (.int u2), .val (.int u3), .val (.int (2 : Int32)), .val (.int b5), .val (.int b6), .val (.int tt), .val (.int kq), .val (.int l9), .val (.int l10), .val (.int len), .val (.ref a324), .val (.int y332), .unset, .unset] [(.ref b341)]))
              refine go _ _ (fun t' k' => XS.dup X341.here hx rfl (hb hby at_169) rfl rfl k') ?_
              show G (T341.setTop (mkF m 170 #[.val (.int u0), .val (.int u1), .val (.int u2), .val (.int u3), .val (.int (2 : Int32)), .val (.int b5), .val (.int b6), .val (.int tt), .val (.int kq), .val (.int l9), .val (.int l10), .val (.int len), .val (.ref a324), .val (.int y332), .unset, .unset] [(.ref b341), (.ref b341)]))
              refine go _ _ (fun t' k' => XS.aload X341.here hx rfl (hb hby at_170) rfl rfl  k') ?_
              show G (T341.setTop (mkF m 172 #[.val (.int u0), .val (.int u1), .val (.int u2), .val (.int u3), .val (.int (2 : Int32)), .val (.int b5), .val (.int b6), .val (.int tt), .val (.int kq), .val (.int l9), .val (.int l10), .val (.int len), .val (.ref a324), .val (.int y332), .unset, .unset] [(.ref a324), (.ref b341), (.ref b341)]))
              refine own_init go X341 hx hZ e341 rfl hown (hw _ (List.mem_of_getElem? (i := 12) rfl)) (hw _ (List.mem_of_getElem? (i := 13) rfl)) (hw _ (List.mem_of_getElem? (i := 11) rfl)) (hw _ (List.mem_of_getElem? (i := 14) rfl)) (by decide) (rm_in l Z a0 hw b341 a324 h341 n0 Z343 g_b341 A341 F346 F347 F345 F348) 1 (by decide) (by decide) (by decide) (by decide) (g := (mkF m 172 #[.val (.int u0), .val (.int u1), .val (.int u2), .val (.int u3), .val (.int (2 : Int32)), .val (.int b5), .val (.int b6), .val (.int tt), .val (.int kq), .val (.int l9), .val (.int l10), .val (.int len), .val (.ref a324), .val (.int y332), .unset, .unset] [(.ref a324), (.ref b341), (.ref b341)])) rfl (by rw [hml]; rfl) b341 [(.ref a324)] [(.ref b341)] rfl (lenOf pd_7 rfl) rfl (by show 2 * 0 + _ ≤ _; exact Nat.le_of_eq rfl) (hb hby at_172) ?_
              intro T349 L349 v349 X349 q349
              obtain ⟨rfl, N349, K349, il, Cr349⟩ := q349
              have ns350 : ∀ w ∈ [b341], ∃ c : Cell, h341[w]? = some c ∧ c.vm.isStatics = false := (allS (own_exa_ns A341) all0)
              obtain ⟨lc349, X349h, N349h⟩ := own_hide X349 (Fr.app N338h N349)
              have K351 : Keep h0 T349.heap [] := K344.trans K349 (allS (Or.inr sz_b341) all0)
              have Z352 : n0 ≤ T349.heap.size := Nat.le_trans Z343 K349.1
              obtain ⟨B353E, B353i, B353p, B353l, B353d⟩ := Cr349
              show G (T349.setTop (mkF m 175 #[.val (.int u0), .val (.int u1), .val (.int u2), .val (.int u3), .val (.int (2 : Int32)), .val (.int b5), .val (.int b6), .val (.int tt), .val (.int kq), .val (.int l9), .val (.int l10), .val (.int len), .val (.ref a324), .val (.int y332), .unset, .unset] [(.ref b341)]))
              refine go _ _ (fun t' k' => XS.astore X349h.here hx rfl (hb hby at_175) rfl rfl (l' := #[.val (.int u0), .val (.int u1), .val (.int u2), .val (.int u3), .val (.int (2 : Int32)), .val (.int b5), .val (.int b6), .val (.int tt), .val (.int kq), .val (.int l9), .val (.int l10), .val (.int len), .val (.ref a324), .val (.int y332), .val (.ref b341), .unset]) rfl k') ?_
              show G (T349.setTop (mkF m 177 #[.val (.int u0), .val (.int u1), .val (.int u2), .val (.int u3), .val (.int (2 : Int32)), .val (.int b5), .val (.int b6), .val (.int tt), .val (.int kq), .val (.int l9), .val (.int l10), .val (.int len), .val (.ref a324), .val (.int y332), .val (.ref b341), .unset] []))
              refine go _ _ (fun t' k' => XS.aload X349h.here hx rfl (hb hby at_177) rfl rfl  k') ?_
              show G (T349.setTop (mkF m 179 #[.val (.int u0), .val (.int u1), .val (.int u2), .val (.int u3), .val (.int (2 : Int32)), .val (.int b5), .val (.int b6), .val (.int tt), .val (.int kq), .val (.int l9), .val (.int l10), .val (.int len), .val (.ref a324), .val (.int y332), .val (.ref b341), .unset] [(.ref b341)]))
              have f354 := ((A338c.ext E341).keep K349 (ninS ne342 nin0))
              refine own_virtual go X349h hx hZ rfl hown (hw _ (List.mem_of_getElem? (i := 23) rfl)) (hw _ (List.mem_of_getElem? (i := 24) rfl)) (notFace_of_selects (args := #[]) (mvT hZ (hw _ (List.mem_of_getElem? (i := 26) rfl)))) (hw _ (List.mem_of_getElem? (i := 26) rfl)) (hw _ (List.mem_of_getElem? (i := 25) rfl)) (hw _ (List.mem_of_getElem? (i := 11) rfl)) (hw _ (List.mem_of_getElem? (i := 27) rfl)) (by decide) (rm_ae l Z a0 hw b341 a324 (0 : Int32) 0 0 ln _ T349.heap n0 Z352 B353i B353p f354 rfl (by omega) (Or.inr ⟨rfl, by omega⟩)) 0 (by decide) (by decide) (by decide) (by decide) B353E (g := (mkF m 179 #[.val (.int u0), .val (.int u1), .val (.int u2), .val (.int u3), .val (.int (2 : Int32)), .val (.int b5), .val (.int b6), .val (.int tt), .val (.int kq), .val (.int l9), .val (.int l10), .val (.int len), .val (.ref a324), .val (.int y332), .val (.ref b341), .unset] [(.ref b341)])) rfl (by rw [hml]; rfl) [] [] rfl (lenOf pd_1 rfl) rfl (by show 2 * 0 + _ ≤ _; exact Nat.le_of_eq rfl) (hb hby at_179) ?_
              intro T355 L355 v355 X355 q355
              obtain ⟨rfl, N355, hh355⟩ := q355
              obtain ⟨lc355, X355h, N355h⟩ := own_hide X355 (Fr.app N349h N355)
              show G (T355.setTop (mkF m 182 #[.val (.int u0), .val (.int u1), .val (.int u2), .val (.int u3), .val (.int (2 : Int32)), .val (.int b5), .val (.int b6), .val (.int tt), .val (.int kq), .val (.int l9), .val (.int l10), .val (.int len), .val (.ref a324), .val (.int y332), .val (.ref b341), .unset] [(.int (0 : Int32))]))
              refine go _ _ (fun t' k' => XS.iload X355h.here hx rfl (hb hby at_182) rfl  k') ?_
              show G (T355.setTop (mkF m 184 #[.val (.int u0), .val (.int u1), .val (.int u2), .val (.int u3), .val (.int (2 : Int32)), .val (.int b5), .val (.int b6), .val (.int tt), .val (.int kq), .val (.int l9), .val (.int l10), .val (.int len), .val (.ref a324), .val (.int y332), .val (.ref b341), .unset] [(.int len), (.int (0 : Int32))]))
              refine go _ _ (fun t' k' => XS.ifYes X355h.here hx rfl (pc0 := 184) (pc' := 191) rfl (hb hby at_184) rfl (Free.XT.i0_ne_t ((not_congr (own_lit 0 (kk := 0) rfl hln)).mpr (by omega))) (by decide) (by decide) k') ?_
              show G (T355.setTop (mkF m 191 #[.val (.int u0), .val (.int u1), .val (.int u2), .val (.int u3), .val (.int (2 : Int32)), .val (.int b5), .val (.int b6), .val (.int tt), .val (.int kq), .val (.int l9), .val (.int l10), .val (.int len), .val (.ref a324), .val (.int y332), .val (.ref b341), .unset] [(.int (0 : Int32))]))
              refine go _ _ (fun t' k' => XS.iconst X355h.here hx rfl (hb hby at_191) k') ?_
              show G (T355.setTop (mkF m 192 #[.val (.int u0), .val (.int u1), .val (.int u2), .val (.int u3), .val (.int (2 : Int32)), .val (.int b5), .val (.int b6), .val (.int tt), .val (.int kq), .val (.int l9), .val (.int l10), .val (.int len), .val (.ref a324), .val (.int y332), .val (.ref b341), .unset] [(.int (0 : Int32)), (.int (0 : Int32))]))
              refine go _ _ (fun t' k' => XS.icmpNo X355h.here hx rfl (hb hby at_192) rfl (Free.XT.ii_ne_f (by decide)) k') ?_
              show G (T355.setTop (mkF m 195 #[.val (.int u0), .val (.int u1), .val (.int u2), .val (.int u3), .val (.int (2 : Int32)), .val (.int b5), .val (.int b6), .val (.int tt), .val (.int kq), .val (.int l9), .val (.int l10), .val (.int len), .val (.ref a324), .val (.int y332), .val (.ref b341), .unset] []))
              refine go _ _ (fun t' k' => XS.iconst X355h.here hx rfl (hb hby at_195) k') ?_
              show G (T355.setTop (mkF m 196 #[.val (.int u0), .val (.int u1), .val (.int u2), .val (.int u3), .val (.int (2 : Int32)), .val (.int b5), .val (.int b6), .val (.int tt), .val (.int kq), .val (.int l9), .val (.int l10), .val (.int len), .val (.ref a324), .val (.int y332), .val (.ref b341), .unset] [(.int (1 : Int32))]))
              refine go _ _ (fun t' k' => XS.goto X355h.here hx rfl (pc0 := 196) (pc' := 200) rfl (hb hby at_196) (by decide) (by decide) k') ?_
              show G (T355.setTop (mkF m 200 #[.val (.int u0), .val (.int u1), .val (.int u2), .val (.int u3), .val (.int (2 : Int32)), .val (.int b5), .val (.int b6), .val (.int tt), .val (.int kq), .val (.int l9), .val (.int l10), .val (.int len), .val (.ref a324), .val (.int y332), .val (.ref b341), .unset] [(.int (1 : Int32))]))
              refine go _ _ (fun t' k' => XS.istore X355h.here hx rfl (hb hby at_200) rfl (l' := #[.val (.int u0), .val (.int u1), .val (.int u2), .val (.int u3), .val (.int (2 : Int32)), .val (.int b5), .val (.int b6), .val (.int tt), .val (.int kq), .val (.int l9), .val (.int l10), .val (.int len), .val (.ref a324), .val (.int y332), .val (.ref b341), .val (.int (1 : Int32))]) rfl k') ?_
              show G (T355.setTop (mkF m 202 #[.val (.int u0), .val (.int u1), .val (.int u2), .val (.int u3), .val (.int (2 : Int32)), .val (.int b5), .val (.int b6), .val (.int tt), .val (.int kq), .val (.int l9), .val (.int l10), .val (.int len), .val (.ref a324), .val (.int y332), .val (.ref b341), .val (.int (1 : Int32))] []))
              refine go _ _ (fun t' k' => XS.iload X355h.here hx rfl (hb hby at_202) rfl  k') ?_
              show G (T355.setTop (mkF m 204 #[.val (.int u0), .val (.int u1), .val (.int u2), .val (.int u3), .val (.int (2 : Int32)), .val (.int b5), .val (.int b6), .val (.int tt), .val (.int kq), .val (.int l9), .val (.int l10), .val (.int len), .val (.ref a324), .val (.int y332), .val (.ref b341), .val (.int (1 : Int32))] [(.int kq)]))
              refine go _ _ (fun t' k' => XS.iconst X355h.here hx rfl (hb hby at_204) k') ?_
              show G (T355.setTop (mkF m 205 #[.val (.int u0), .val (.int u1), .val (.int u2), .val (.int u3), .val (.int (2 : Int32)), .val (.int b5), .val (.int b6), .val (.int tt), .val (.int kq), .val (.int l9), .val (.int l10), .val (.int len), .val (.ref a324), .val (.int y332), .val (.ref b341), .val (.int (1 : Int32))] [(.int (1 : Int32)), (.int kq)]))
              by_cases c356 : kq < (1 : Int32)
              · refine go _ _ (fun t' k' => XS.icmpYes X355h.here hx rfl (pc0 := 205) (pc' := 250) rfl (hb hby at_205) rfl (Free.XT.ii_lt_t c356) (by decide) (by decide) k') ?_
                show G (T355.setTop (mkF m 250 #[.val (.int u0), .val (.int u1), .val (.int u2), .val (.int u3), .val (.int (2 : Int32)), .val (.int b5), .val (.int b6), .val (.int tt), .val (.int kq), .val (.int l9), .val (.int l10), .val (.int len), .val (.ref a324), .val (.int y332), .val (.ref b341), .val (.int (1 : Int32))] []))
                refine go _ _ (fun t' k' => XS.iload X355h.here hx rfl (hb hby at_250) rfl  k') ?_
                show G (T355.setTop (mkF m 252 #[.val (.int u0), .val (.int u1), .val (.int u2), .val (.int u3), .val (.int (2 : Int32)), .val (.int b5), .val (.int b6), .val (.int tt), .val (.int kq), .val (.int l9), .val (.int l10), .val (.int len), .val (.ref a324), .val (.int y332), .val (.ref b341), .val (.int (1 : Int32))] [(.int kq)]))
                refine go _ _ (fun t' k' => XS.iconst X355h.here hx rfl (hb hby at_252) k') ?_
                show G (T355.setTop (mkF m 253 #[.val (.int u0), .val (.int u1), .val (.int u2), .val (.int u3), .val (.int (2 : Int32)), .val (.int b5), .val (.int b6), .val (.int tt), .val (.int kq), .val (.int l9), .val (.int l10), .val (.int len), .val (.ref a324), .val (.int y332), .val (.ref b341), .val (.int (1 : Int32))] [(.int (2 : Int32)), (.int kq)]))
                refine go _ _ (fun t' k' => XS.icmpYes X355h.here hx rfl (pc0 := 253) (pc' := 292) rfl (hb hby at_253) rfl (Free.XT.ii_lt_t ((own_lt hkn (j := 2) rfl).mpr (by have z := (own_lt hkn (j := 1) rfl).mp c356; omega))) (by decide) (by decide) k') ?_
                show G (T355.setTop (mkF m 292 #[.val (.int u0), .val (.int u1), .val (.int u2), .val (.int u3), .val (.int (2 : Int32)), .val (.int b5), .val (.int b6), .val (.int tt), .val (.int kq), .val (.int l9), .val (.int l10), .val (.int len), .val (.ref a324), .val (.int y332), .val (.ref b341), .val (.int (1 : Int32))] []))
                refine go _ _ (fun t' k' => XS.iload X355h.here hx rfl (hb hby at_292) rfl  k') ?_
                show G (T355.setTop (mkF m 294 #[.val (.int u0), .val (.int u1), .val (.int u2), .val (.int u3), .val (.int (2 : Int32)), .val (.int b5), .val (.int b6), .val (.int tt), .val (.int kq), .val (.int l9), .val (.int l10), .val (.int len), .val (.ref a324), .val (.int y332), .val (.ref b341), .val (.int (1 : Int32))] [(.int (1 : Int32))]))
                refine own_retZ rt X355h hx (t := .boolean) hret (by simp) (hb hby at_294) (by decide) (by decide) ?_
                exact ⟨rfl, N355h⟩
              · refine go _ _ (fun t' k' => XS.icmpNo X355h.here hx rfl (hb hby at_205) rfl (Free.XT.ii_lt_f c356) k') ?_
                show G (T355.setTop (mkF m 208 #[.val (.int u0), .val (.int u1), .val (.int u2), .val (.int u3), .val (.int (2 : Int32)), .val (.int b5), .val (.int b6), .val (.int tt), .val (.int kq), .val (.int l9), .val (.int l10), .val (.int len), .val (.ref a324), .val (.int y332), .val (.ref b341), .val (.int (1 : Int32))] []))
                refine go _ _ (fun t' k' => XS.aload X355h.here hx rfl (hb hby at_208) rfl rfl  k') ?_
                show G (T355.setTop (mkF m 210 #[.val (.int u0), .val (.int u1), .val (.int u2), .val (.int u3), .val (.int (2 : Int32)), .val (.int b5), .val (.int b6), .val (.int tt), .val (.int kq), .val (.int l9), .val (.int l10), .val (.int len), .val (.ref a324), .val (.int y332), .val (.ref b341), .val (.int (1 : Int32))] [(.ref b341)]))
                have f357 := (own_sta_keep (((own_sta_keep (own_sta_keep (own_sta_keep Su K324 ns325) K328 ns329) K332 ns333).wr W338).ext E341) K349 ns350)
                refine own_virtual go X355h hx hZ hh355 hown (hw _ (List.mem_of_getElem? (i := 34) rfl)) (hw _ (List.mem_of_getElem? (i := 35) rfl)) (notFace_of_selects (args := #[]) (mvT hZ (hw _ (List.mem_of_getElem? (i := 37) rfl)))) (hw _ (List.mem_of_getElem? (i := 37) rfl)) (hw _ (List.mem_of_getElem? (i := 36) rfl)) (hw _ (List.mem_of_getElem? (i := 11) rfl)) (hw _ (List.mem_of_getElem? (i := 38) rfl)) (by decide) (rm_ru l Z a0 hw b341 a324 il ru (0 : Int32) 0 ln w0 (upd g332 ((0 + w0) + w1) (u3.toInt8.toInt32)) T349.heap n0 Z352 g_b341 ⟨B353E, B353i, B353p, B353l, B353d⟩ f354 ne342 rfl (by omega) (Head.upd (U332 0 w0 (by omega) H328) (by omega)) (by omega) f357) 0 (by decide) (by decide) (by decide) (by decide) B353E (g := (mkF m 210 #[.val (.int u0), .val (.int u1), .val (.int u2), .val (.int u3), .val (.int (2 : Int32)), .val (.int b5), .val (.int b6), .val (.int tt), .val (.int kq), .val (.int l9), .val (.int l10), .val (.int len), .val (.ref a324), .val (.int y332), .val (.ref b341), .val (.int (1 : Int32))] [(.ref b341)])) rfl (by rw [hml]; rfl) [] [] rfl (lenOf pd_9 rfl) rfl (by show 2 * 0 + _ ≤ _; exact Nat.le_of_eq rfl) (hb hby at_210) ?_
                intro T358 L358 v358 X358 q358
                obtain ⟨⟨y358, rfl⟩, N358, K358, ps358, Cr358, hp358⟩ := q358
                have ns359 : ∀ w ∈ [b341], ∃ c : Cell, T349.heap[w]? = some c ∧ c.vm.isStatics = false := (allS (own_exa_ns B353E) all0)
                obtain ⟨lc358, X358h, N358h⟩ := own_hide X358 (Fr.app N355h N358)
                have K360 : Keep h0 T358.heap [] := K351.trans K358 (allS (Or.inr sz_b341) all0)
                have Z361 : n0 ≤ T358.heap.size := Nat.le_trans Z352 K358.1
                obtain ⟨B362E, B362i, B362p, B362l, B362d⟩ := Cr358
                show G (T358.setTop (mkF m 213 #[.val (.int u0), .val (.int u1), .val (.int u2), .val (.int u3), .val (.int (2 : Int32)), .val (.int b5), .val (.int b6), .val (.int tt), .val (.int kq), .val (.int l9), .val (.int l10), .val (.int len), .val (.ref a324), .val (.int y332), .val (.ref b341), .val (.int (1 : Int32))] [(.long y358)]))
                refine go _ _ (fun t' k' => own_pop2L X358h.here hx rfl (hb hby at_213) rfl k') ?_
                show G (T358.setTop (mkF m 214 #[.val (.int u0), .val (.int u1), .val (.int u2), .val (.int u3), .val (.int (2 : Int32)), .val (.int b5), .val (.int b6), .val (.int tt), .val (.int kq), .val (.int l9), .val (.int l10), .val (.int len), .val (.ref a324), .val (.int y332), .val (.ref b341), .val (.int (1 : Int32))] []))
                refine go _ _ (fun t' k' => XS.iload X358h.here hx rfl (hb hby at_214) rfl  k') ?_
                show G (T358.setTop (mkF m 216 #[.val (.int u0), .val (.int u1), .val (.int u2), .val (.int u3), .val (.int (2 : Int32)), .val (.int b5), .val (.int b6), .val (.int tt), .val (.int kq), .val (.int l9), .val (.int l10), .val (.int len), .val (.ref a324), .val (.int y332), .val (.ref b341), .val (.int (1 : Int32))] [(.int (1 : Int32))]))
                refine go _ _ (fun t' k' => XS.ifNo X358h.here hx rfl (hb hby at_216) rfl (Free.XT.i0_eq_f (by decide)) k') ?_
                show G (T358.setTop (mkF m 219 #[.val (.int u0), .val (.int u1), .val (.int u2), .val (.int u3), .val (.int (2 : Int32)), .val (.int b5), .val (.int b6), .val (.int tt), .val (.int kq), .val (.int l9), .val (.int l10), .val (.int len), .val (.ref a324), .val (.int y332), .val (.ref b341), .val (.int (1 : Int32))] []))
                refine go _ _ (fun t' k' => XS.aload X358h.here hx rfl (hb hby at_219) rfl rfl  k') ?_
                show G (T358.setTop (mkF m 221 #[.val (.int u0), .val (.int u1), .val (.int u2), .val (.int u3), .val (.int (2 : Int32)), .val (.int b5), .val (.int b6), .val (.int tt), .val (.int kq), .val (.int l9), .val (.int l10), .val (.int len), .val (.ref a324), .val (.int y332), .val (.ref b341), .val (.int (1 : Int32))] [(.ref b341)]))
                have f363 := (f354.keep K358 (ninS ne342 nin0))
                refine own_virtual go X358h hx hZ rfl hown (hw _ (List.mem_of_getElem? (i := 23) rfl)) (hw _ (List.mem_of_getElem? (i := 24) rfl)) (notFace_of_selects (args := #[]) (mvT hZ (hw _ (List.mem_of_getElem? (i := 26) rfl)))) (hw _ (List.mem_of_getElem? (i := 26) rfl)) (hw _ (List.mem_of_getElem? (i := 25) rfl)) (hw _ (List.mem_of_getElem? (i := 11) rfl)) (hw _ (List.mem_of_getElem? (i := 27) rfl)) (by decide) (rm_ae l Z a0 hw b341 a324 ps358 0 (0 + w0) ln _ T358.heap n0 Z361 B362i B362p f363 hp358 (by omega) (Or.inr ⟨rfl, by omega⟩)) 0 (by decide) (by decide) (by decide) (by decide) B362E (g := (mkF m 221 #[.val (.int u0), .val (.int u1), .val (.int u2), .val (.int u3), .val (.int (2 : Int32)), .val (.int b5), .val (.int b6), .val (.int tt), .val (.int kq), .val (.int l9), .val (.int l10), .val (.int len), .val (.ref a324), .val (.int y332), .val (.ref b341), .val (.int (1 : Int32))] [(.ref b341)])) rfl (by rw [hml]; rfl) [] [] rfl (lenOf pd_1 rfl) rfl (by show 2 * 0 + _ ≤ _; exact Nat.le_of_eq rfl) (hb hby at_221) ?_
                intro T364 L364 v364 X364 q364
                obtain ⟨rfl, N364, hh364⟩ := q364
                obtain ⟨lc364, X364h, N364h⟩ := own_hide X364 (Fr.app N358h N364)
                show G (T364.setTop (mkF m 224 #[.val (.int u0), .val (.int u1), .val (.int u2), .val (.int u3), .val (.int (2 : Int32)), .val (.int b5), .val (.int b6), .val (.int tt), .val (.int kq), .val (.int l9), .val (.int l10), .val (.int len), .val (.ref a324), .val (.int y332), .val (.ref b341), .val (.int (1 : Int32))] [(.int (0 : Int32))]))
                refine go _ _ (fun t' k' => XS.iload X364h.here hx rfl (hb hby at_224) rfl  k') ?_
                show G (T364.setTop (mkF m 226 #[.val (.int u0), .val (.int u1), .val (.int u2), .val (.int u3), .val (.int (2 : Int32)), .val (.int b5), .val (.int b6), .val (.int tt), .val (.int kq), .val (.int l9), .val (.int l10), .val (.int len), .val (.ref a324), .val (.int y332), .val (.ref b341), .val (.int (1 : Int32))] [(.int (2 : Int32)), (.int (0 : Int32))]))
                refine go _ _ (fun t' k' => XS.iconst X364h.here hx rfl (hb hby at_226) k') ?_
                show G (T364.setTop (mkF m 227 #[.val (.int u0), .val (.int u1), .val (.int u2), .val (.int u3), .val (.int (2 : Int32)), .val (.int b5), .val (.int b6), .val (.int tt), .val (.int kq), .val (.int l9), .val (.int l10), .val (.int len), .val (.ref a324), .val (.int y332), .val (.ref b341), .val (.int (1 : Int32))] [(.int (1 : Int32)), (.int (2 : Int32)), (.int (0 : Int32))]))
                refine go _ _ (fun t' k' => XS.icmpYes X364h.here hx rfl (pc0 := 227) (pc' := 239) rfl (hb hby at_227) rfl (Free.XT.ii_ne_t (by decide)) (by decide) (by decide) k') ?_
                show G (T364.setTop (mkF m 239 #[.val (.int u0), .val (.int u1), .val (.int u2), .val (.int u3), .val (.int (2 : Int32)), .val (.int b5), .val (.int b6), .val (.int tt), .val (.int kq), .val (.int l9), .val (.int l10), .val (.int len), .val (.ref a324), .val (.int y332), .val (.ref b341), .val (.int (1 : Int32))] [(.int (0 : Int32))]))
                refine go _ _ (fun t' k' => XS.iconst X364h.here hx rfl (hb hby at_239) k') ?_
                show G (T364.setTop (mkF m 240 #[.val (.int u0), .val (.int u1), .val (.int u2), .val (.int u3), .val (.int (2 : Int32)), .val (.int b5), .val (.int b6), .val (.int tt), .val (.int kq), .val (.int l9), .val (.int l10), .val (.int len), .val (.ref a324), .val (.int y332), .val (.ref b341), .val (.int (1 : Int32))] [(.int (0 : Int32)), (.int (0 : Int32))]))
                refine go _ _ (fun t' k' => XS.icmpNo X364h.here hx rfl (hb hby at_240) rfl (Free.XT.ii_ne_f (by decide)) k') ?_
                show G (T364.setTop (mkF m 243 #[.val (.int u0), .val (.int u1), .val (.int u2), .val (.int u3), .val (.int (2 : Int32)), .val (.int b5), .val (.int b6), .val (.int tt), .val (.int kq), .val (.int l9), .val (.int l10), .val (.int len), .val (.ref a324), .val (.int y332), .val (.ref b341), .val (.int (1 : Int32))] []))
                refine go _ _ (fun t' k' => XS.iconst X364h.here hx rfl (hb hby at_243) k') ?_
                show G (T364.setTop (mkF m 244 #[.val (.int u0), .val (.int u1), .val (.int u2), .val (.int u3), .val (.int (2 : Int32)), .val (.int b5), .val (.int b6), .val (.int tt), .val (.int kq), .val (.int l9), .val (.int l10), .val (.int len), .val (.ref a324), .val (.int y332), .val (.ref b341), .val (.int (1 : Int32))] [(.int (1 : Int32))]))
                refine go _ _ (fun t' k' => XS.goto X364h.here hx rfl (pc0 := 244) (pc' := 248) rfl (hb hby at_244) (by decide) (by decide) k') ?_
                show G (T364.setTop (mkF m 248 #[.val (.int u0), .val (.int u1), .val (.int u2), .val (.int u3), .val (.int (2 : Int32)), .val (.int b5), .val (.int b6), .val (.int tt), .val (.int kq), .val (.int l9), .val (.int l10), .val (.int len), .val (.ref a324), .val (.int y332), .val (.ref b341), .val (.int (1 : Int32))] [(.int (1 : Int32))]))
                refine go _ _ (fun t' k' => XS.istore X364h.here hx rfl (hb hby at_248) rfl (l' := #[.val (.int u0), .val (.int u1), .val (.int u2), .val (.int u3), .val (.int (2 : Int32)), .val (.int b5), .val (.int b6), .val (.int tt), .val (.int kq), .val (.int l9), .val (.int l10), .val (.int len), .val (.ref a324), .val (.int y332), .val (.ref b341), .val (.int (1 : Int32))]) rfl k') ?_
                show G (T364.setTop (mkF m 250 #[.val (.int u0), .val (.int u1), .val (.int u2), .val (.int u3), .val (.int (2 : Int32)), .val (.int b5), .val (.int b6), .val (.int tt), .val (.int kq), .val (.int l9), .val (.int l10), .val (.int len), .val (.ref a324), .val (.int y332), .val (.ref b341), .val (.int (1 : Int32))] []))
                refine go _ _ (fun t' k' => XS.iload X364h.here hx rfl (hb hby at_250) rfl  k') ?_
                show G (T364.setTop (mkF m 252 #[.val (.int u0), .val (.int u1), .val (.int u2), .val (.int u3), .val (.int (2 : Int32)), .val (.int b5), .val (.int b6), .val (.int tt), .val (.int kq), .val (.int l9), .val (.int l10), .val (.int len), .val (.ref a324), .val (.int y332), .val (.ref b341), .val (.int (1 : Int32))] [(.int kq)]))
                refine go _ _ (fun t' k' => XS.iconst X364h.here hx rfl (hb hby at_252) k') ?_
                show G (T364.setTop (mkF m 253 #[.val (.int u0), .val (.int u1), .val (.int u2), .val (.int u3), .val (.int (2 : Int32)), .val (.int b5), .val (.int b6), .val (.int tt), .val (.int kq), .val (.int l9), .val (.int l10), .val (.int len), .val (.ref a324), .val (.int y332), .val (.ref b341), .val (.int (1 : Int32))] [(.int (2 : Int32)), (.int kq)]))
                by_cases c365 : kq < (2 : Int32)
                · refine go _ _ (fun t' k' => XS.icmpYes X364h.here hx rfl (pc0 := 253) (pc' := 292) rfl (hb hby at_253) rfl (Free.XT.ii_lt_t c365) (by decide) (by decide) k') ?_
                  show G (T364.setTop (mkF m 292 #[.val (.int u0), .val (.int u1), .val (.int u2), .val (.int u3), .val (.int (2 : Int32)), .val (.int b5), .val (.int b6), .val (.int tt), .val (.int kq), .val (.int l9), .val (.int l10), .val (.int len), .val (.ref a324), .val (.int y332), .val (.ref b341), .val (.int (1 : Int32))] []))
                  refine go _ _ (fun t' k' => XS.iload X364h.here hx rfl (hb hby at_292) rfl  k') ?_
                  show G (T364.setTop (mkF m 294 #[.val (.int u0), .val (.int u1), .val (.int u2), .val (.int u3), .val (.int (2 : Int32)), .val (.int b5), .val (.int b6), .val (.int tt), .val (.int kq), .val (.int l9), .val (.int l10), .val (.int len), .val (.ref a324), .val (.int y332), .val (.ref b341), .val (.int (1 : Int32))] [(.int (1 : Int32))]))
                  refine own_retZ rt X364h hx (t := .boolean) hret (by simp) (hb hby at_294) (by decide) (by decide) ?_
                  exact ⟨rfl, N364h⟩
                · refine go _ _ (fun t' k' => XS.icmpNo X364h.here hx rfl (hb hby at_253) rfl (Free.XT.ii_lt_f c365) k') ?_
                  show G (T364.setTop (mkF m 256 #[.val (.int u0), .val (.int u1), .val (.int u2), .val (.int u3), .val (.int (2 : Int32)), .val (.int b5), .val (.int b6), .val (.int tt), .val (.int kq), .val (.int l9), .val (.int l10), .val (.int len), .val (.ref a324), .val (.int y332), .val (.ref b341), .val (.int (1 : Int32))] []))
                  refine go _ _ (fun t' k' => XS.aload X364h.here hx rfl (hb hby at_256) rfl rfl  k') ?_
                  show G (T364.setTop (mkF m 258 #[.val (.int u0), .val (.int u1), .val (.int u2), .val (.int u3), .val (.int (2 : Int32)), .val (.int b5), .val (.int b6), .val (.int tt), .val (.int kq), .val (.int l9), .val (.int l10), .val (.int len), .val (.ref a324), .val (.int y332), .val (.ref b341), .val (.int (1 : Int32))] [(.ref b341)]))
                  have f366 := (own_sta_keep f357 K358 ns359)
                  refine own_virtual go X364h hx hZ hh364 hown (hw _ (List.mem_of_getElem? (i := 34) rfl)) (hw _ (List.mem_of_getElem? (i := 35) rfl)) (notFace_of_selects (args := #[]) (mvT hZ (hw _ (List.mem_of_getElem? (i := 37) rfl)))) (hw _ (List.mem_of_getElem? (i := 37) rfl)) (hw _ (List.mem_of_getElem? (i := 36) rfl)) (hw _ (List.mem_of_getElem? (i := 11) rfl)) (hw _ (List.mem_of_getElem? (i := 38) rfl)) (by decide) (rm_ru l Z a0 hw b341 a324 il ru ps358 (0 + w0) ln w1 (upd g332 ((0 + w0) + w1) (u3.toInt8.toInt32)) T358.heap n0 Z361 g_b341 ⟨B362E, B362i, B362p, B362l, B362d⟩ f363 ne342 hp358 (by omega) (Head.upd H332 (by omega)) (by omega) f366) 0 (by decide) (by decide) (by decide) (by decide) B362E (g := (mkF m 258 #[.val (.int u0), .val (.int u1), .val (.int u2), .val (.int u3), .val (.int (2 : Int32)), .val (.int b5), .val (.int b6), .val (.int tt), .val (.int kq), .val (.int l9), .val (.int l10), .val (.int len), .val (.ref a324), .val (.int y332), .val (.ref b341), .val (.int (1 : Int32))] [(.ref b341)])) rfl (by rw [hml]; rfl) [] [] rfl (lenOf pd_9 rfl) rfl (by show 2 * 0 + _ ≤ _; exact Nat.le_of_eq rfl) (hb hby at_258) ?_
                  intro T367 L367 v367 X367 q367
                  obtain ⟨⟨y367, rfl⟩, N367, K367, ps367, Cr367, hp367⟩ := q367
                  have ns368 : ∀ w ∈ [b341], ∃ c : Cell, T358.heap[w]? = some c ∧ c.vm.isStatics = false := (allS (own_exa_ns B362E) all0)
                  obtain ⟨lc367, X367h, N367h⟩ := own_hide X367 (Fr.app N364h N367)
                  have K369 : Keep h0 T367.heap [] := K360.trans K367 (allS (Or.inr sz_b341) all0)
                  have Z370 : n0 ≤ T367.heap.size := Nat.le_trans Z361 K367.1
                  obtain ⟨B371E, B371i, B371p, B371l, B371d⟩ := Cr367
                  show G (T367.setTop (mkF m 261 #[.val (.int u0), .val (.int u1), .val (.int u2), .val (.int u3), .val (.int (2 : Int32)), .val (.int b5), .val (.int b6), .val (.int tt), .val (.int kq), .val (.int l9), .val (.int l10), .val (.int len), .val (.ref a324), .val (.int y332), .val (.ref b341), .val (.int (1 : Int32))] [(.long y367)]))
                  refine go _ _ (fun t' k' => own_pop2L X367h.here hx rfl (hb hby at_261) rfl k') ?_
                  show G (T367.setTop (mkF m 262 #[.val (.int u0), .val (.int u1), .val (.int u2), .val (.int u3), .val (.int (2 : Int32)), .val (.int b5), .val (.int b6), .val (.int tt), .val (.int kq), .val (.int l9), .val (.int l10), .val (.int len), .val (.ref a324), .val (.int y332), .val (.ref b341), .val (.int (1 : Int32))] []))
                  refine go _ _ (fun t' k' => XS.iload X367h.here hx rfl (hb hby at_262) rfl  k') ?_
                  show G (T367.setTop (mkF m 264 #[.val (.int u0), .val (.int u1), .val (.int u2), .val (.int u3), .val (.int (2 : Int32)), .val (.int b5), .val (.int b6), .val (.int tt), .val (.int kq), .val (.int l9), .val (.int l10), .val (.int len), .val (.ref a324), .val (.int y332), .val (.ref b341), .val (.int (1 : Int32))] [(.int (1 : Int32))]))
                  refine go _ _ (fun t' k' => XS.ifNo X367h.here hx rfl (hb hby at_264) rfl (Free.XT.i0_eq_f (by decide)) k') ?_
                  show G (T367.setTop (mkF m 267 #[.val (.int u0), .val (.int u1), .val (.int u2), .val (.int u3), .val (.int (2 : Int32)), .val (.int b5), .val (.int b6), .val (.int tt), .val (.int kq), .val (.int l9), .val (.int l10), .val (.int len), .val (.ref a324), .val (.int y332), .val (.ref b341), .val (.int (1 : Int32))] []))
                  refine go _ _ (fun t' k' => XS.aload X367h.here hx rfl (hb hby at_267) rfl rfl  k') ?_
                  show G (T367.setTop (mkF m 269 #[.val (.int u0), .val (.int u1), .val (.int u2), .val (.int u3), .val (.int (2 : Int32)), .val (.int b5), .val (.int b6), .val (.int tt), .val (.int kq), .val (.int l9), .val (.int l10), .val (.int len), .val (.ref a324), .val (.int y332), .val (.ref b341), .val (.int (1 : Int32))] [(.ref b341)]))
                  have f372 := (f363.keep K367 (ninS ne342 nin0))
                  refine own_virtual go X367h hx hZ rfl hown (hw _ (List.mem_of_getElem? (i := 23) rfl)) (hw _ (List.mem_of_getElem? (i := 24) rfl)) (notFace_of_selects (args := #[]) (mvT hZ (hw _ (List.mem_of_getElem? (i := 26) rfl)))) (hw _ (List.mem_of_getElem? (i := 26) rfl)) (hw _ (List.mem_of_getElem? (i := 25) rfl)) (hw _ (List.mem_of_getElem? (i := 11) rfl)) (hw _ (List.mem_of_getElem? (i := 27) rfl)) (by decide) (rm_ae l Z a0 hw b341 a324 ps367 0 ((0 + w0) + w1) ln _ T367.heap n0 Z370 B371i B371p f372 hp367 (by omega) (Or.inr ⟨rfl, by omega⟩)) 0 (by decide) (by decide) (by decide) (by decide) B371E (g := (mkF m 269 #[.val (.int u0), .val (.int u1), .val (.int u2), .val (.int u3), .val (.int (2 : Int32)), .val (.int b5), .val (.int b6), .val (.int tt), .val (.int kq), .val (.int l9), .val (.int l10), .val (.int len), .val (.ref a324), .val (.int y332), .val (.ref b341), .val (.int (1 : Int32))] [(.ref b341)])) rfl (by rw [hml]; rfl) [] [] rfl (lenOf pd_1 rfl) rfl (by show 2 * 0 + _ ≤ _; exact Nat.le_of_eq rfl) (hb hby at_269) ?_
                  intro T373 L373 v373 X373 q373
                  obtain ⟨rfl, N373, hh373⟩ := q373
                  obtain ⟨lc373, X373h, N373h⟩ := own_hide X373 (Fr.app N367h N373)
                  show G (T373.setTop (mkF m 272 #[.val (.int u0), .val (.int u1), .val (.int u2), .val (.int u3), .val (.int (2 : Int32)), .val (.int b5), .val (.int b6), .val (.int tt), .val (.int kq), .val (.int l9), .val (.int l10), .val (.int len), .val (.ref a324), .val (.int y332), .val (.ref b341), .val (.int (1 : Int32))] [(.int (0 : Int32))]))
                  refine go _ _ (fun t' k' => XS.iload X373h.here hx rfl (hb hby at_272) rfl  k') ?_
                  show G (T373.setTop (mkF m 274 #[.val (.int u0), .val (.int u1), .val (.int u2), .val (.int u3), .val (.int (2 : Int32)), .val (.int b5), .val (.int b6), .val (.int tt), .val (.int kq), .val (.int l9), .val (.int l10), .val (.int len), .val (.ref a324), .val (.int y332), .val (.ref b341), .val (.int (1 : Int32))] [(.int tt), (.int (0 : Int32))]))
                  refine go _ _ (fun t' k' => XS.ifYes X373h.here hx rfl (pc0 := 274) (pc' := 281) rfl (hb hby at_274) rfl (Free.XT.i0_ne_t z337) (by decide) (by decide) k') ?_
                  show G (T373.setTop (mkF m 281 #[.val (.int u0), .val (.int u1), .val (.int u2), .val (.int u3), .val (.int (2 : Int32)), .val (.int b5), .val (.int b6), .val (.int tt), .val (.int kq), .val (.int l9), .val (.int l10), .val (.int len), .val (.ref a324), .val (.int y332), .val (.ref b341), .val (.int (1 : Int32))] [(.int (0 : Int32))]))
                  refine go _ _ (fun t' k' => XS.iconst X373h.here hx rfl (hb hby at_281) k') ?_
                  show G (T373.setTop (mkF m 282 #[.val (.int u0), .val (.int u1), .val (.int u2), .val (.int u3), .val (.int (2 : Int32)), .val (.int b5), .val (.int b6), .val (.int tt), .val (.int kq), .val (.int l9), .val (.int l10), .val (.int len), .val (.ref a324), .val (.int y332), .val (.ref b341), .val (.int (1 : Int32))] [(.int (0 : Int32)), (.int (0 : Int32))]))
                  refine go _ _ (fun t' k' => XS.icmpNo X373h.here hx rfl (hb hby at_282) rfl (Free.XT.ii_ne_f (by decide)) k') ?_
                  show G (T373.setTop (mkF m 285 #[.val (.int u0), .val (.int u1), .val (.int u2), .val (.int u3), .val (.int (2 : Int32)), .val (.int b5), .val (.int b6), .val (.int tt), .val (.int kq), .val (.int l9), .val (.int l10), .val (.int len), .val (.ref a324), .val (.int y332), .val (.ref b341), .val (.int (1 : Int32))] []))
                  refine go _ _ (fun t' k' => XS.iconst X373h.here hx rfl (hb hby at_285) k') ?_
                  show G (T373.setTop (mkF m 286 #[.val (.int u0), .val (.int u1), .val (.int u2), .val (.int u3), .val (.int (2 : Int32)), .val (.int b5), .val (.int b6), .val (.int tt), .val (.int kq), .val (.int l9), .val (.int l10), .val (.int len), .val (.ref a324), .val (.int y332), .val (.ref b341), .val (.int (1 : Int32))] [(.int (1 : Int32))]))
                  refine go _ _ (fun t' k' => XS.goto X373h.here hx rfl (pc0 := 286) (pc' := 290) rfl (hb hby at_286) (by decide) (by decide) k') ?_
                  show G (T373.setTop (mkF m 290 #[.val (.int u0), .val (.int u1), .val (.int u2), .val (.int u3), .val (.int (2 : Int32)), .val (.int b5), .val (.int b6), .val (.int tt), .val (.int kq), .val (.int l9), .val (.int l10), .val (.int len), .val (.ref a324), .val (.int y332), .val (.ref b341), .val (.int (1 : Int32))] [(.int (1 : Int32))]))
                  refine go _ _ (fun t' k' => XS.istore X373h.here hx rfl (hb hby at_290) rfl (l' := #[.val (.int u0), .val (.int u1), .val (.int u2), .val (.int u3), .val (.int (2 : Int32)), .val (.int b5), .val (.int b6), .val (.int tt), .val (.int kq), .val (.int l9), .val (.int l10), .val (.int len), .val (.ref a324), .val (.int y332), .val (.ref b341), .val (.int (1 : Int32))]) rfl k') ?_
                  show G (T373.setTop (mkF m 292 #[.val (.int u0), .val (.int u1), .val (.int u2), .val (.int u3), .val (.int (2 : Int32)), .val (.int b5), .val (.int b6), .val (.int tt), .val (.int kq), .val (.int l9), .val (.int l10), .val (.int len), .val (.ref a324), .val (.int y332), .val (.ref b341), .val (.int (1 : Int32))] []))
                  refine go _ _ (fun t' k' => XS.iload X373h.here hx rfl (hb hby at_292) rfl  k') ?_
                  show G (T373.setTop (mkF m 294 #[.val (.int u0), .val (.int u1), .val (.int u2), .val (.int u3), .val (.int (2 : Int32)), .val (.int b5), .val (.int b6), .val (.int tt), .val (.int kq), .val (.int l9), .val (.int l10), .val (.int len), .val (.ref a324), .val (.int y332), .val (.ref b341), .val (.int (1 : Int32))] [(.int (1 : Int32))]))
                  refine own_retZ rt X373h hx (t := .boolean) hret (by simp) (hb hby at_294) (by decide) (by decide) ?_
                  exact ⟨rfl, N373h⟩
            · have htn0 : tn = 0 := by have z := (not_congr (own_lit 1 (kk := 1) rfl htn)).mp c336; omega
              have z374 : tt = (0 : Int32) := (own_lit 0 (kk := 0) rfl htn).mpr (by omega)
              show G (T332.setTop (mkF m 156 #[.val (.int u0), .val (.int u1), .val (.int u2), .val (.int u3), .val (.int (2 : Int32)), .val (.int b5), .val (.int b6), .val (.int tt), .val (.int kq), .val (.int l9), .val (.int l10), .val (.int len), .val (.ref a324), .val (.int y332), .unset, .unset] [(.int (1 : Int32)), (.int tt)]))
              refine go _ _ (fun t' k' => XS.icmpYes X332h.here hx rfl (pc0 := 156) (pc' := 166) rfl (hb hby at_156) rfl (Free.XT.ii_ne_t c336) (by decide) (by decide) k') ?_
              show G (T332.setTop (mkF m 166 #[.val (.int u0), .val (.int u1), .val (.int u2), .val (.int u3), .val (.int (2 : Int32)), .val (.int b5), .val (.int b6), .val (.int tt), .val (.int kq), .val (.int l9), .val (.int l10), .val (.int len), .val (.ref a324), .val (.int y332), .unset, .unset] []))
              obtain ⟨T375, h375, X375, e375, E375, A375, D375, -, st375⟩ := newO X332h hx hZ hown (hw _ (List.mem_of_getElem? (i := 9) rfl)) (hw _ (List.mem_of_getElem? (i := 10) rfl)) (hw _ (List.mem_of_getElem? (i := 11) rfl)) rfl (g := (mkF m 166 #[.val (.int u0), .val (.int u1), .val (.int u2), .val (.int u3), .val (.int (2 : Int32)), .val (.int b5), .val (.int b6), .val (.int tt), .val (.int kq), .val (.int l9), .val (.int l10), .val (.int len), .val (.ref a324), .val (.int y332), .unset, .unset] [])) rfl (hb hby at_166) (by decide) (by decide)
              obtain ⟨b375, g375⟩ : ∃ z, z = T332.heap.size := ⟨_, rfl⟩
              rw [← g375] at A375 D375 st375
              have ne376 : a324 ≠ b375 := Nat.ne_of_lt (by rw [g375]; exact A332.lt)
              have g_b375 : n0 ≤ b375 := Nat.le_trans Z335 (Nat.le_of_eq g375.symm)
              have sz_b375 : h0.size ≤ b375 := Nat.le_trans K334.1 (Nat.le_of_eq g375.symm)
              have Z377 : n0 ≤ h375.size := Nat.le_trans Z335 E375.1
              have K378 : Keep h0 h375 [] := K334.ext E375
              have F379 : Fld Z h375 b375 "com/example/brevidns/brevidns/CborReader" "itemsLeft" "[I" .null := D375 (Or.inl (hw _ (List.mem_of_getElem? (i := 20) rfl))) (ty := (.array .int)) (by decide)
              have F380 : Fld Z h375 b375 "com/example/brevidns/brevidns/CborReader" "input" "[B" .null := D375 (Or.inr (hw _ (List.mem_of_getElem? (i := 22) rfl))) (ty := (.array .byte)) (by decide)
              have F381 : Fld Z h375 b375 "com/example/brevidns/brevidns/CborReader" "position" "I" (.int (0 : Int32)) := D375 (Or.inl (hw _ (List.mem_of_getElem? (i := 29) rfl))) (ty := .int) (by decide)
              have F382 : Fld Z h375 b375 "com/example/brevidns/brevidns/CborReader" "depth" "I" (.int (0 : Int32)) := D375 (Or.inl (hw _ (List.mem_of_getElem? (i := 56) rfl))) (ty := .int) (by decide)
              refine go _ _ st375 ?_
              show G (T375.setTop (mkF m 169 #[.val (.int u0), .val (.int u1), .val (.int u2), .val (.int u3), .val (.int (2 : Int32)), .val (.int b5), .val (.int b6), .val (.int tt), .val (.int kq), .val (.int l9), .val (.int l10), .val (.int len), .val (.ref a324), .val (.int y332), .unset, .unset] [(.ref b375)]))
              refine go _ _ (fun t' k' => XS.dup X375.here hx rfl (hb hby at_169) rfl rfl k') ?_
              show G (T375.setTop (mkF m 170 #[.val (.int u0), .val (.int u1), .val (.int u2), .val (.int u3), .val (.int (2 : Int32)), .val (.int b5), .val (.int b6), .val (.int tt), .val (.int kq), .val (.int l9), .val (.int l10), .val (.int len), .val (.ref a324), .val (.int y332), .unset, .unset] [(.ref b375), (.ref b375)]))
              refine go _ _ (fun t' k' => XS.aload X375.here hx rfl (hb hby at_170) rfl rfl  k') ?_
              show G (T375.setTop (mkF m 172 #[.val (.int u0), .val (.int u1), .val (.int u2), .val (.int u3), .val (.int (2 : Int32)), .val (.int b5), .val (.int b6), .val (.int tt), .val (.int kq), .val (.int l9), .val (.int l10), .val (.int len), .val (.ref a324), .val (.int y332), .unset, .unset] [(.ref a324), (.ref b375), (.ref b375)]))
              refine own_init go X375 hx hZ e375 rfl hown (hw _ (List.mem_of_getElem? (i := 12) rfl)) (hw _ (List.mem_of_getElem? (i := 13) rfl)) (hw _ (List.mem_of_getElem? (i := 11) rfl)) (hw _ (List.mem_of_getElem? (i := 14) rfl)) (by decide) (rm_in l Z a0 hw b375 a324 h375 n0 Z377 g_b375 A375 F380 F381 F379 F382) 1 (by decide) (by decide) (by decide) (by decide) (g := (mkF m 172 #[.val (.int u0), .val (.int u1), .val (.int u2), .val (.int u3), .val (.int (2 : Int32)), .val (.int b5), .val (.int b6), .val (.int tt), .val (.int kq), .val (.int l9), .val (.int l10), .val (.int len), .val (.ref a324), .val (.int y332), .unset, .unset] [(.ref a324), (.ref b375), (.ref b375)])) rfl (by rw [hml]; rfl) b375 [(.ref a324)] [(.ref b375)] rfl (lenOf pd_7 rfl) rfl (by show 2 * 0 + _ ≤ _; exact Nat.le_of_eq rfl) (hb hby at_172) ?_
              intro T383 L383 v383 X383 q383
              obtain ⟨rfl, N383, K383, il, Cr383⟩ := q383
              have ns384 : ∀ w ∈ [b375], ∃ c : Cell, h375[w]? = some c ∧ c.vm.isStatics = false := (allS (own_exa_ns A375) all0)
              obtain ⟨lc383, X383h, N383h⟩ := own_hide X383 (Fr.app N332h N383)
              have K385 : Keep h0 T383.heap [] := K378.trans K383 (allS (Or.inr sz_b375) all0)
              have Z386 : n0 ≤ T383.heap.size := Nat.le_trans Z377 K383.1
              obtain ⟨B387E, B387i, B387p, B387l, B387d⟩ := Cr383
              show G (T383.setTop (mkF m 175 #[.val (.int u0), .val (.int u1), .val (.int u2), .val (.int u3), .val (.int (2 : Int32)), .val (.int b5), .val (.int b6), .val (.int tt), .val (.int kq), .val (.int l9), .val (.int l10), .val (.int len), .val (.ref a324), .val (.int y332), .unset, .unset] [(.ref b375)]))
              refine go _ _ (fun t' k' => XS.astore X383h.here hx rfl (hb hby at_175) rfl rfl (l' := #[.val (.int u0), .val (.int u1), .val (.int u2), .val (.int u3), .val (.int (2 : Int32)), .val (.int b5), .val (.int b6), .val (.int tt), .val (.int kq), .val (.int l9), .val (.int l10), .val (.int len), .val (.ref a324), .val (.int y332), .val (.ref b375), .unset]) rfl k') ?_
              show G (T383.setTop (mkF m 177 #[.val (.int u0), .val (.int u1), .val (.int u2), .val (.int u3), .val (.int (2 : Int32)), .val (.int b5), .val (.int b6), .val (.int tt), .val (.int kq), .val (.int l9), .val (.int l10), .val (.int len), .val (.ref a324), .val (.int y332), .val (.ref b375), .unset] []))
              refine go _ _ (fun t' k' => XS.aload X383h.here hx rfl (hb hby at_177) rfl rfl  k') ?_
              show G (T383.setTop (mkF m 179 #[.val (.int u0), .val (.int u1), .val (.int u2), .val (.int u3), .val (.int (2 : Int32)), .val (.int b5), .val (.int b6), .val (.int tt), .val (.int kq), .val (.int l9), .val (.int l10), .val (.int len), .val (.ref a324), .val (.int y332), .val (.ref b375), .unset] [(.ref b375)]))
              have f388 := ((A332.ext E375).keep K383 (ninS ne376 nin0))
              refine own_virtual go X383h hx hZ rfl hown (hw _ (List.mem_of_getElem? (i := 23) rfl)) (hw _ (List.mem_of_getElem? (i := 24) rfl)) (notFace_of_selects (args := #[]) (mvT hZ (hw _ (List.mem_of_getElem? (i := 26) rfl)))) (hw _ (List.mem_of_getElem? (i := 26) rfl)) (hw _ (List.mem_of_getElem? (i := 25) rfl)) (hw _ (List.mem_of_getElem? (i := 11) rfl)) (hw _ (List.mem_of_getElem? (i := 27) rfl)) (by decide) (rm_ae l Z a0 hw b375 a324 (0 : Int32) 0 0 ln _ T383.heap n0 Z386 B387i B387p f388 rfl (by omega) (Or.inr ⟨rfl, by omega⟩)) 0 (by decide) (by decide) (by decide) (by decide) B387E (g := (mkF m 179 #[.val (.int u0), .val (.int u1), .val (.int u2), .val (.int u3), .val (.int (2 : Int32)), .val (.int b5), .val (.int b6), .val (.int tt), .val (.int kq), .val (.int l9), .val (.int l10), .val (.int len), .val (.ref a324), .val (.int y332), .val (.ref b375), .unset] [(.ref b375)])) rfl (by rw [hml]; rfl) [] [] rfl (lenOf pd_1 rfl) rfl (by show 2 * 0 + _ ≤ _; exact Nat.le_of_eq rfl) (hb hby at_179) ?_
              intro T389 L389 v389 X389 q389
              obtain ⟨rfl, N389, hh389⟩ := q389
              obtain ⟨lc389, X389h, N389h⟩ := own_hide X389 (Fr.app N383h N389)
              show G (T389.setTop (mkF m 182 #[.val (.int u0), .val (.int u1), .val (.int u2), .val (.int u3), .val (.int (2 : Int32)), .val (.int b5), .val (.int b6), .val (.int tt), .val (.int kq), .val (.int l9), .val (.int l10), .val (.int len), .val (.ref a324), .val (.int y332), .val (.ref b375), .unset] [(.int (0 : Int32))]))
              refine go _ _ (fun t' k' => XS.iload X389h.here hx rfl (hb hby at_182) rfl  k') ?_
              show G (T389.setTop (mkF m 184 #[.val (.int u0), .val (.int u1), .val (.int u2), .val (.int u3), .val (.int (2 : Int32)), .val (.int b5), .val (.int b6), .val (.int tt), .val (.int kq), .val (.int l9), .val (.int l10), .val (.int len), .val (.ref a324), .val (.int y332), .val (.ref b375), .unset] [(.int len), (.int (0 : Int32))]))
              refine go _ _ (fun t' k' => XS.ifYes X389h.here hx rfl (pc0 := 184) (pc' := 191) rfl (hb hby at_184) rfl (Free.XT.i0_ne_t ((not_congr (own_lit 0 (kk := 0) rfl hln)).mpr (by omega))) (by decide) (by decide) k') ?_
              show G (T389.setTop (mkF m 191 #[.val (.int u0), .val (.int u1), .val (.int u2), .val (.int u3), .val (.int (2 : Int32)), .val (.int b5), .val (.int b6), .val (.int tt), .val (.int kq), .val (.int l9), .val (.int l10), .val (.int len), .val (.ref a324), .val (.int y332), .val (.ref b375), .unset] [(.int (0 : Int32))]))
              refine go _ _ (fun t' k' => XS.iconst X389h.here hx rfl (hb hby at_191) k') ?_
              show G (T389.setTop (mkF m 192 #[.val (.int u0), .val (.int u1), .val (.int u2), .val (.int u3), .val (.int (2 : Int32)), .val (.int b5), .val (.int b6), .val (.int tt), .val (.int kq), .val (.int l9), .val (.int l10), .val (.int len), .val (.ref a324), .val (.int y332), .val (.ref b375), .unset] [(.int (0 : Int32)), (.int (0 : Int32))]))
              refine go _ _ (fun t' k' => XS.icmpNo X389h.here hx rfl (hb hby at_192) rfl (Free.XT.ii_ne_f (by decide)) k') ?_
              show G (T389.setTop (mkF m 195 #[.val (.int u0), .val (.int u1), .val (.int u2), .val (.int u3), .val (.int (2 : Int32)), .val (.int b5), .val (.int b6), .val (.int tt), .val (.int kq), .val (.int l9), .val (.int l10), .val (.int len), .val (.ref a324), .val (.int y332), .val (.ref b375), .unset] []))
              refine go _ _ (fun t' k' => XS.iconst X389h.here hx rfl (hb hby at_195) k') ?_
              show G (T389.setTop (mkF m 196 #[.val (.int u0), .val (.int u1), .val (.int u2), .val (.int u3), .val (.int (2 : Int32)), .val (.int b5), .val (.int b6), .val (.int tt), .val (.int kq), .val (.int l9), .val (.int l10), .val (.int len), .val (.ref a324), .val (.int y332), .val (.ref b375), .unset] [(.int (1 : Int32))]))
              refine go _ _ (fun t' k' => XS.goto X389h.here hx rfl (pc0 := 196) (pc' := 200) rfl (hb hby at_196) (by decide) (by decide) k') ?_
              show G (T389.setTop (mkF m 200 #[.val (.int u0), .val (.int u1), .val (.int u2), .val (.int u3), .val (.int (2 : Int32)), .val (.int b5), .val (.int b6), .val (.int tt), .val (.int kq), .val (.int l9), .val (.int l10), .val (.int len), .val (.ref a324), .val (.int y332), .val (.ref b375), .unset] [(.int (1 : Int32))]))
              refine go _ _ (fun t' k' => XS.istore X389h.here hx rfl (hb hby at_200) rfl (l' := #[.val (.int u0), .val (.int u1), .val (.int u2), .val (.int u3), .val (.int (2 : Int32)), .val (.int b5), .val (.int b6), .val (.int tt), .val (.int kq), .val (.int l9), .val (.int l10), .val (.int len), .val (.ref a324), .val (.int y332), .val (.ref b375), .val (.int (1 : Int32))]) rfl k') ?_
              show G (T389.setTop (mkF m 202 #[.val (.int u0), .val (.int u1), .val (.int u2), .val (.int u3), .val (.int (2 : Int32)), .val (.int b5), .val (.int b6), .val (.int tt), .val (.int kq), .val (.int l9), .val (.int l10), .val (.int len), .val (.ref a324), .val (.int y332), .val (.ref b375), .val (.int (1 : Int32))] []))
              refine go _ _ (fun t' k' => XS.iload X389h.here hx rfl (hb hby at_202) rfl  k') ?_
              show G (T389.setTop (mkF m 204 #[.val (.int u0), .val (.int u1), .val (.int u2), .val (.int u3), .val (.int (2 : Int32)), .val (.int b5), .val (.int b6), .val (.int tt), .val (.int kq), .val (.int l9), .val (.int l10), .val (.int len), .val (.ref a324), .val (.int y332), .val (.ref b375), .val (.int (1 : Int32))] [(.int kq)]))
              refine go _ _ (fun t' k' => XS.iconst X389h.here hx rfl (hb hby at_204) k') ?_
              show G (T389.setTop (mkF m 205 #[.val (.int u0), .val (.int u1), .val (.int u2), .val (.int u3), .val (.int (2 : Int32)), .val (.int b5), .val (.int b6), .val (.int tt), .val (.int kq), .val (.int l9), .val (.int l10), .val (.int len), .val (.ref a324), .val (.int y332), .val (.ref b375), .val (.int (1 : Int32))] [(.int (1 : Int32)), (.int kq)]))
              by_cases c390 : kq < (1 : Int32)
              · refine go _ _ (fun t' k' => XS.icmpYes X389h.here hx rfl (pc0 := 205) (pc' := 250) rfl (hb hby at_205) rfl (Free.XT.ii_lt_t c390) (by decide) (by decide) k') ?_
                show G (T389.setTop (mkF m 250 #[.val (.int u0), .val (.int u1), .val (.int u2), .val (.int u3), .val (.int (2 : Int32)), .val (.int b5), .val (.int b6), .val (.int tt), .val (.int kq), .val (.int l9), .val (.int l10), .val (.int len), .val (.ref a324), .val (.int y332), .val (.ref b375), .val (.int (1 : Int32))] []))
                refine go _ _ (fun t' k' => XS.iload X389h.here hx rfl (hb hby at_250) rfl  k') ?_
                show G (T389.setTop (mkF m 252 #[.val (.int u0), .val (.int u1), .val (.int u2), .val (.int u3), .val (.int (2 : Int32)), .val (.int b5), .val (.int b6), .val (.int tt), .val (.int kq), .val (.int l9), .val (.int l10), .val (.int len), .val (.ref a324), .val (.int y332), .val (.ref b375), .val (.int (1 : Int32))] [(.int kq)]))
                refine go _ _ (fun t' k' => XS.iconst X389h.here hx rfl (hb hby at_252) k') ?_
                show G (T389.setTop (mkF m 253 #[.val (.int u0), .val (.int u1), .val (.int u2), .val (.int u3), .val (.int (2 : Int32)), .val (.int b5), .val (.int b6), .val (.int tt), .val (.int kq), .val (.int l9), .val (.int l10), .val (.int len), .val (.ref a324), .val (.int y332), .val (.ref b375), .val (.int (1 : Int32))] [(.int (2 : Int32)), (.int kq)]))
                refine go _ _ (fun t' k' => XS.icmpYes X389h.here hx rfl (pc0 := 253) (pc' := 292) rfl (hb hby at_253) rfl (Free.XT.ii_lt_t ((own_lt hkn (j := 2) rfl).mpr (by have z := (own_lt hkn (j := 1) rfl).mp c390; omega))) (by decide) (by decide) k') ?_
                show G (T389.setTop (mkF m 292 #[.val (.int u0), .val (.int u1), .val (.int u2), .val (.int u3), .val (.int (2 : Int32)), .val (.int b5), .val (.int b6), .val (.int tt), .val (.int kq), .val (.int l9), .val (.int l10), .val (.int len), .val (.ref a324), .val (.int y332), .val (.ref b375), .val (.int (1 : Int32))] []))
                refine go _ _ (fun t' k' => XS.iload X389h.here hx rfl (hb hby at_292) rfl  k') ?_
                show G (T389.setTop (mkF m 294 #[.val (.int u0), .val (.int u1), .val (.int u2), .val (.int u3), .val (.int (2 : Int32)), .val (.int b5), .val (.int b6), .val (.int tt), .val (.int kq), .val (.int l9), .val (.int l10), .val (.int len), .val (.ref a324), .val (.int y332), .val (.ref b375), .val (.int (1 : Int32))] [(.int (1 : Int32))]))
                refine own_retZ rt X389h hx (t := .boolean) hret (by simp) (hb hby at_294) (by decide) (by decide) ?_
                exact ⟨rfl, N389h⟩
              · refine go _ _ (fun t' k' => XS.icmpNo X389h.here hx rfl (hb hby at_205) rfl (Free.XT.ii_lt_f c390) k') ?_
                show G (T389.setTop (mkF m 208 #[.val (.int u0), .val (.int u1), .val (.int u2), .val (.int u3), .val (.int (2 : Int32)), .val (.int b5), .val (.int b6), .val (.int tt), .val (.int kq), .val (.int l9), .val (.int l10), .val (.int len), .val (.ref a324), .val (.int y332), .val (.ref b375), .val (.int (1 : Int32))] []))
                refine go _ _ (fun t' k' => XS.aload X389h.here hx rfl (hb hby at_208) rfl rfl  k') ?_
                show G (T389.setTop (mkF m 210 #[.val (.int u0), .val (.int u1), .val (.int u2), .val (.int u3), .val (.int (2 : Int32)), .val (.int b5), .val (.int b6), .val (.int tt), .val (.int kq), .val (.int l9), .val (.int l10), .val (.int len), .val (.ref a324), .val (.int y332), .val (.ref b375), .val (.int (1 : Int32))] [(.ref b375)]))
                have f391 := (own_sta_keep ((own_sta_keep (own_sta_keep (own_sta_keep Su K324 ns325) K328 ns329) K332 ns333).ext E375) K383 ns384)
                refine own_virtual go X389h hx hZ hh389 hown (hw _ (List.mem_of_getElem? (i := 34) rfl)) (hw _ (List.mem_of_getElem? (i := 35) rfl)) (notFace_of_selects (args := #[]) (mvT hZ (hw _ (List.mem_of_getElem? (i := 37) rfl)))) (hw _ (List.mem_of_getElem? (i := 37) rfl)) (hw _ (List.mem_of_getElem? (i := 36) rfl)) (hw _ (List.mem_of_getElem? (i := 11) rfl)) (hw _ (List.mem_of_getElem? (i := 38) rfl)) (by decide) (rm_ru l Z a0 hw b375 a324 il ru (0 : Int32) 0 ln w0 g332 T383.heap n0 Z386 g_b375 ⟨B387E, B387i, B387p, B387l, B387d⟩ f388 ne376 rfl (by omega) (U332 0 w0 (by omega) H328) (by omega) f391) 0 (by decide) (by decide) (by decide) (by decide) B387E (g := (mkF m 210 #[.val (.int u0), .val (.int u1), .val (.int u2), .val (.int u3), .val (.int (2 : Int32)), .val (.int b5), .val (.int b6), .val (.int tt), .val (.int kq), .val (.int l9), .val (.int l10), .val (.int len), .val (.ref a324), .val (.int y332), .val (.ref b375), .val (.int (1 : Int32))] [(.ref b375)])) rfl (by rw [hml]; rfl) [] [] rfl (lenOf pd_9 rfl) rfl (by show 2 * 0 + _ ≤ _; exact Nat.le_of_eq rfl) (hb hby at_210) ?_
                intro T392 L392 v392 X392 q392
                obtain ⟨⟨y392, rfl⟩, N392, K392, ps392, Cr392, hp392⟩ := q392
                have ns393 : ∀ w ∈ [b375], ∃ c : Cell, T383.heap[w]? = some c ∧ c.vm.isStatics = false := (allS (own_exa_ns B387E) all0)
                obtain ⟨lc392, X392h, N392h⟩ := own_hide X392 (Fr.app N389h N392)
                have K394 : Keep h0 T392.heap [] := K385.trans K392 (allS (Or.inr sz_b375) all0)
                have Z395 : n0 ≤ T392.heap.size := Nat.le_trans Z386 K392.1
                obtain ⟨B396E, B396i, B396p, B396l, B396d⟩ := Cr392
                show G (T392.setTop (mkF m 213 #[.val (.int u0), .val (.int u1), .val (.int u2), .val (.int u3), .val (.int (2 : Int32)), .val (.int b5), .val (.int b6), .val (.int tt), .val (.int kq), .val (.int l9), .val (.int l10), .val (.int len), .val (.ref a324), .val (.int y332), .val (.ref b375), .val (.int (1 : Int32))] [(.long y392)]))
                refine go _ _ (fun t' k' => own_pop2L X392h.here hx rfl (hb hby at_213) rfl k') ?_
                show G (T392.setTop (mkF m 214 #[.val (.int u0), .val (.int u1), .val (.int u2), .val (.int u3), .val (.int (2 : Int32)), .val (.int b5), .val (.int b6), .val (.int tt), .val (.int kq), .val (.int l9), .val (.int l10), .val (.int len), .val (.ref a324), .val (.int y332), .val (.ref b375), .val (.int (1 : Int32))] []))
                refine go _ _ (fun t' k' => XS.iload X392h.here hx rfl (hb hby at_214) rfl  k') ?_
                show G (T392.setTop (mkF m 216 #[.val (.int u0), .val (.int u1), .val (.int u2), .val (.int u3), .val (.int (2 : Int32)), .val (.int b5), .val (.int b6), .val (.int tt), .val (.int kq), .val (.int l9), .val (.int l10), .val (.int len), .val (.ref a324), .val (.int y332), .val (.ref b375), .val (.int (1 : Int32))] [(.int (1 : Int32))]))
                refine go _ _ (fun t' k' => XS.ifNo X392h.here hx rfl (hb hby at_216) rfl (Free.XT.i0_eq_f (by decide)) k') ?_
                show G (T392.setTop (mkF m 219 #[.val (.int u0), .val (.int u1), .val (.int u2), .val (.int u3), .val (.int (2 : Int32)), .val (.int b5), .val (.int b6), .val (.int tt), .val (.int kq), .val (.int l9), .val (.int l10), .val (.int len), .val (.ref a324), .val (.int y332), .val (.ref b375), .val (.int (1 : Int32))] []))
                refine go _ _ (fun t' k' => XS.aload X392h.here hx rfl (hb hby at_219) rfl rfl  k') ?_
                show G (T392.setTop (mkF m 221 #[.val (.int u0), .val (.int u1), .val (.int u2), .val (.int u3), .val (.int (2 : Int32)), .val (.int b5), .val (.int b6), .val (.int tt), .val (.int kq), .val (.int l9), .val (.int l10), .val (.int len), .val (.ref a324), .val (.int y332), .val (.ref b375), .val (.int (1 : Int32))] [(.ref b375)]))
                have f397 := (f388.keep K392 (ninS ne376 nin0))
                refine own_virtual go X392h hx hZ rfl hown (hw _ (List.mem_of_getElem? (i := 23) rfl)) (hw _ (List.mem_of_getElem? (i := 24) rfl)) (notFace_of_selects (args := #[]) (mvT hZ (hw _ (List.mem_of_getElem? (i := 26) rfl)))) (hw _ (List.mem_of_getElem? (i := 26) rfl)) (hw _ (List.mem_of_getElem? (i := 25) rfl)) (hw _ (List.mem_of_getElem? (i := 11) rfl)) (hw _ (List.mem_of_getElem? (i := 27) rfl)) (by decide) (rm_ae l Z a0 hw b375 a324 ps392 0 (0 + w0) ln _ T392.heap n0 Z395 B396i B396p f397 hp392 (by omega) (Or.inr ⟨rfl, by omega⟩)) 0 (by decide) (by decide) (by decide) (by decide) B396E (g := (mkF m 221 #[.val (.int u0), .val (.int u1), .val (.int u2), .val (.int u3), .val (.int (2 : Int32)), .val (.int b5), .val (.int b6), .val (.int tt), .val (.int kq), .val (.int l9), .val (.int l10), .val (.int len), .val (.ref a324), .val (.int y332), .val (.ref b375), .val (.int (1 : Int32))] [(.ref b375)])) rfl (by rw [hml]; rfl) [] [] rfl (lenOf pd_1 rfl) rfl (by show 2 * 0 + _ ≤ _; exact Nat.le_of_eq rfl) (hb hby at_221) ?_
                intro T398 L398 v398 X398 q398
                obtain ⟨rfl, N398, hh398⟩ := q398
                obtain ⟨lc398, X398h, N398h⟩ := own_hide X398 (Fr.app N392h N398)
                show G (T398.setTop (mkF m 224 #[.val (.int u0), .val (.int u1), .val (.int u2), .val (.int u3), .val (.int (2 : Int32)), .val (.int b5), .val (.int b6), .val (.int tt), .val (.int kq), .val (.int l9), .val (.int l10), .val (.int len), .val (.ref a324), .val (.int y332), .val (.ref b375), .val (.int (1 : Int32))] [(.int (0 : Int32))]))
                refine go _ _ (fun t' k' => XS.iload X398h.here hx rfl (hb hby at_224) rfl  k') ?_
                show G (T398.setTop (mkF m 226 #[.val (.int u0), .val (.int u1), .val (.int u2), .val (.int u3), .val (.int (2 : Int32)), .val (.int b5), .val (.int b6), .val (.int tt), .val (.int kq), .val (.int l9), .val (.int l10), .val (.int len), .val (.ref a324), .val (.int y332), .val (.ref b375), .val (.int (1 : Int32))] [(.int (2 : Int32)), (.int (0 : Int32))]))
                refine go _ _ (fun t' k' => XS.iconst X398h.here hx rfl (hb hby at_226) k') ?_
                show G (T398.setTop (mkF m 227 #[.val (.int u0), .val (.int u1), .val (.int u2), .val (.int u3), .val (.int (2 : Int32)), .val (.int b5), .val (.int b6), .val (.int tt), .val (.int kq), .val (.int l9), .val (.int l10), .val (.int len), .val (.ref a324), .val (.int y332), .val (.ref b375), .val (.int (1 : Int32))] [(.int (1 : Int32)), (.int (2 : Int32)), (.int (0 : Int32))]))
                refine go _ _ (fun t' k' => XS.icmpYes X398h.here hx rfl (pc0 := 227) (pc' := 239) rfl (hb hby at_227) rfl (Free.XT.ii_ne_t (by decide)) (by decide) (by decide) k') ?_
                show G (T398.setTop (mkF m 239 #[.val (.int u0), .val (.int u1), .val (.int u2), .val (.int u3), .val (.int (2 : Int32)), .val (.int b5), .val (.int b6), .val (.int tt), .val (.int kq), .val (.int l9), .val (.int l10), .val (.int len), .val (.ref a324), .val (.int y332), .val (.ref b375), .val (.int (1 : Int32))] [(.int (0 : Int32))]))
                refine go _ _ (fun t' k' => XS.iconst X398h.here hx rfl (hb hby at_239) k') ?_
                show G (T398.setTop (mkF m 240 #[.val (.int u0), .val (.int u1), .val (.int u2), .val (.int u3), .val (.int (2 : Int32)), .val (.int b5), .val (.int b6), .val (.int tt), .val (.int kq), .val (.int l9), .val (.int l10), .val (.int len), .val (.ref a324), .val (.int y332), .val (.ref b375), .val (.int (1 : Int32))] [(.int (0 : Int32)), (.int (0 : Int32))]))
                refine go _ _ (fun t' k' => XS.icmpNo X398h.here hx rfl (hb hby at_240) rfl (Free.XT.ii_ne_f (by decide)) k') ?_
                show G (T398.setTop (mkF m 243 #[.val (.int u0), .val (.int u1), .val (.int u2), .val (.int u3), .val (.int (2 : Int32)), .val (.int b5), .val (.int b6), .val (.int tt), .val (.int kq), .val (.int l9), .val (.int l10), .val (.int len), .val (.ref a324), .val (.int y332), .val (.ref b375), .val (.int (1 : Int32))] []))
                refine go _ _ (fun t' k' => XS.iconst X398h.here hx rfl (hb hby at_243) k') ?_
                show G (T398.setTop (mkF m 244 #[.val (.int u0), .val (.int u1), .val (.int u2), .val (.int u3), .val (.int (2 : Int32)), .val (.int b5), .val (.int b6), .val (.int tt), .val (.int kq), .val (.int l9), .val (.int l10), .val (.int len), .val (.ref a324), .val (.int y332), .val (.ref b375), .val (.int (1 : Int32))] [(.int (1 : Int32))]))
                refine go _ _ (fun t' k' => XS.goto X398h.here hx rfl (pc0 := 244) (pc' := 248) rfl (hb hby at_244) (by decide) (by decide) k') ?_
                show G (T398.setTop (mkF m 248 #[.val (.int u0), .val (.int u1), .val (.int u2), .val (.int u3), .val (.int (2 : Int32)), .val (.int b5), .val (.int b6), .val (.int tt), .val (.int kq), .val (.int l9), .val (.int l10), .val (.int len), .val (.ref a324), .val (.int y332), .val (.ref b375), .val (.int (1 : Int32))] [(.int (1 : Int32))]))
                refine go _ _ (fun t' k' => XS.istore X398h.here hx rfl (hb hby at_248) rfl (l' := #[.val (.int u0), .val (.int u1), .val (.int u2), .val (.int u3), .val (.int (2 : Int32)), .val (.int b5), .val (.int b6), .val (.int tt), .val (.int kq), .val (.int l9), .val (.int l10), .val (.int len), .val (.ref a324), .val (.int y332), .val (.ref b375), .val (.int (1 : Int32))]) rfl k') ?_
                show G (T398.setTop (mkF m 250 #[.val (.int u0), .val (.int u1), .val (.int u2), .val (.int u3), .val (.int (2 : Int32)), .val (.int b5), .val (.int b6), .val (.int tt), .val (.int kq), .val (.int l9), .val (.int l10), .val (.int len), .val (.ref a324), .val (.int y332), .val (.ref b375), .val (.int (1 : Int32))] []))
                refine go _ _ (fun t' k' => XS.iload X398h.here hx rfl (hb hby at_250) rfl  k') ?_
                show G (T398.setTop (mkF m 252 #[.val (.int u0), .val (.int u1), .val (.int u2), .val (.int u3), .val (.int (2 : Int32)), .val (.int b5), .val (.int b6), .val (.int tt), .val (.int kq), .val (.int l9), .val (.int l10), .val (.int len), .val (.ref a324), .val (.int y332), .val (.ref b375), .val (.int (1 : Int32))] [(.int kq)]))
                refine go _ _ (fun t' k' => XS.iconst X398h.here hx rfl (hb hby at_252) k') ?_
                show G (T398.setTop (mkF m 253 #[.val (.int u0), .val (.int u1), .val (.int u2), .val (.int u3), .val (.int (2 : Int32)), .val (.int b5), .val (.int b6), .val (.int tt), .val (.int kq), .val (.int l9), .val (.int l10), .val (.int len), .val (.ref a324), .val (.int y332), .val (.ref b375), .val (.int (1 : Int32))] [(.int (2 : Int32)), (.int kq)]))
                by_cases c399 : kq < (2 : Int32)
                · refine go _ _ (fun t' k' => XS.icmpYes X398h.here hx rfl (pc0 := 253) (pc' := 292) rfl (hb hby at_253) rfl (Free.XT.ii_lt_t c399) (by decide) (by decide) k') ?_
                  show G (T398.setTop (mkF m 292 #[.val (.int u0), .val (.int u1), .val (.int u2), .val (.int u3), .val (.int (2 : Int32)), .val (.int b5), .val (.int b6), .val (.int tt), .val (.int kq), .val (.int l9), .val (.int l10), .val (.int len), .val (.ref a324), .val (.int y332), .val (.ref b375), .val (.int (1 : Int32))] []))
                  refine go _ _ (fun t' k' => XS.iload X398h.here hx rfl (hb hby at_292) rfl  k') ?_
                  show G (T398.setTop (mkF m 294 #[.val (.int u0), .val (.int u1), .val (.int u2), .val (.int u3), .val (.int (2 : Int32)), .val (.int b5), .val (.int b6), .val (.int tt), .val (.int kq), .val (.int l9), .val (.int l10), .val (.int len), .val (.ref a324), .val (.int y332), .val (.ref b375), .val (.int (1 : Int32))] [(.int (1 : Int32))]))
                  refine own_retZ rt X398h hx (t := .boolean) hret (by simp) (hb hby at_294) (by decide) (by decide) ?_
                  exact ⟨rfl, N398h⟩
                · refine go _ _ (fun t' k' => XS.icmpNo X398h.here hx rfl (hb hby at_253) rfl (Free.XT.ii_lt_f c399) k') ?_
                  show G (T398.setTop (mkF m 256 #[.val (.int u0), .val (.int u1), .val (.int u2), .val (.int u3), .val (.int (2 : Int32)), .val (.int b5), .val (.int b6), .val (.int tt), .val (.int kq), .val (.int l9), .val (.int l10), .val (.int len), .val (.ref a324), .val (.int y332), .val (.ref b375), .val (.int (1 : Int32))] []))
                  refine go _ _ (fun t' k' => XS.aload X398h.here hx rfl (hb hby at_256) rfl rfl  k') ?_
                  show G (T398.setTop (mkF m 258 #[.val (.int u0), .val (.int u1), .val (.int u2), .val (.int u3), .val (.int (2 : Int32)), .val (.int b5), .val (.int b6), .val (.int tt), .val (.int kq), .val (.int l9), .val (.int l10), .val (.int len), .val (.ref a324), .val (.int y332), .val (.ref b375), .val (.int (1 : Int32))] [(.ref b375)]))
                  have f400 := (own_sta_keep f391 K392 ns393)
                  refine own_virtual go X398h hx hZ hh398 hown (hw _ (List.mem_of_getElem? (i := 34) rfl)) (hw _ (List.mem_of_getElem? (i := 35) rfl)) (notFace_of_selects (args := #[]) (mvT hZ (hw _ (List.mem_of_getElem? (i := 37) rfl)))) (hw _ (List.mem_of_getElem? (i := 37) rfl)) (hw _ (List.mem_of_getElem? (i := 36) rfl)) (hw _ (List.mem_of_getElem? (i := 11) rfl)) (hw _ (List.mem_of_getElem? (i := 38) rfl)) (by decide) (rm_ru l Z a0 hw b375 a324 il ru ps392 (0 + w0) ln w1 g332 T392.heap n0 Z395 g_b375 ⟨B396E, B396i, B396p, B396l, B396d⟩ f397 ne376 hp392 (by omega) H332 (by omega) f400) 0 (by decide) (by decide) (by decide) (by decide) B396E (g := (mkF m 258 #[.val (.int u0), .val (.int u1), .val (.int u2), .val (.int u3), .val (.int (2 : Int32)), .val (.int b5), .val (.int b6), .val (.int tt), .val (.int kq), .val (.int l9), .val (.int l10), .val (.int len), .val (.ref a324), .val (.int y332), .val (.ref b375), .val (.int (1 : Int32))] [(.ref b375)])) rfl (by rw [hml]; rfl) [] [] rfl (lenOf pd_9 rfl) rfl (by show 2 * 0 + _ ≤ _; exact Nat.le_of_eq rfl) (hb hby at_258) ?_
                  intro T401 L401 v401 X401 q401
                  obtain ⟨⟨y401, rfl⟩, N401, K401, ps401, Cr401, hp401⟩ := q401
                  have ns402 : ∀ w ∈ [b375], ∃ c : Cell, T392.heap[w]? = some c ∧ c.vm.isStatics = false := (allS (own_exa_ns B396E) all0)
                  obtain ⟨lc401, X401h, N401h⟩ := own_hide X401 (Fr.app N398h N401)
                  have K403 : Keep h0 T401.heap [] := K394.trans K401 (allS (Or.inr sz_b375) all0)
                  have Z404 : n0 ≤ T401.heap.size := Nat.le_trans Z395 K401.1
                  obtain ⟨B405E, B405i, B405p, B405l, B405d⟩ := Cr401
                  show G (T401.setTop (mkF m 261 #[.val (.int u0), .val (.int u1), .val (.int u2), .val (.int u3), .val (.int (2 : Int32)), .val (.int b5), .val (.int b6), .val (.int tt), .val (.int kq), .val (.int l9), .val (.int l10), .val (.int len), .val (.ref a324), .val (.int y332), .val (.ref b375), .val (.int (1 : Int32))] [(.long y401)]))
                  refine go _ _ (fun t' k' => own_pop2L X401h.here hx rfl (hb hby at_261) rfl k') ?_
                  show G (T401.setTop (mkF m 262 #[.val (.int u0), .val (.int u1), .val (.int u2), .val (.int u3), .val (.int (2 : Int32)), .val (.int b5), .val (.int b6), .val (.int tt), .val (.int kq), .val (.int l9), .val (.int l10), .val (.int len), .val (.ref a324), .val (.int y332), .val (.ref b375), .val (.int (1 : Int32))] []))
                  refine go _ _ (fun t' k' => XS.iload X401h.here hx rfl (hb hby at_262) rfl  k') ?_
                  show G (T401.setTop (mkF m 264 #[.val (.int u0), .val (.int u1), .val (.int u2), .val (.int u3), .val (.int (2 : Int32)), .val (.int b5), .val (.int b6), .val (.int tt), .val (.int kq), .val (.int l9), .val (.int l10), .val (.int len), .val (.ref a324), .val (.int y332), .val (.ref b375), .val (.int (1 : Int32))] [(.int (1 : Int32))]))
                  refine go _ _ (fun t' k' => XS.ifNo X401h.here hx rfl (hb hby at_264) rfl (Free.XT.i0_eq_f (by decide)) k') ?_
                  show G (T401.setTop (mkF m 267 #[.val (.int u0), .val (.int u1), .val (.int u2), .val (.int u3), .val (.int (2 : Int32)), .val (.int b5), .val (.int b6), .val (.int tt), .val (.int kq), .val (.int l9), .val (.int l10), .val (.int len), .val (.ref a324), .val (.int y332), .val (.ref b375), .val (.int (1 : Int32))] []))
                  refine go _ _ (fun t' k' => XS.aload X401h.here hx rfl (hb hby at_267) rfl rfl  k') ?_
                  show G (T401.setTop (mkF m 269 #[.val (.int u0), .val (.int u1), .val (.int u2), .val (.int u3), .val (.int (2 : Int32)), .val (.int b5), .val (.int b6), .val (.int tt), .val (.int kq), .val (.int l9), .val (.int l10), .val (.int len), .val (.ref a324), .val (.int y332), .val (.ref b375), .val (.int (1 : Int32))] [(.ref b375)]))
                  have f406 := (f397.keep K401 (ninS ne376 nin0))
                  refine own_virtual go X401h hx hZ rfl hown (hw _ (List.mem_of_getElem? (i := 23) rfl)) (hw _ (List.mem_of_getElem? (i := 24) rfl)) (notFace_of_selects (args := #[]) (mvT hZ (hw _ (List.mem_of_getElem? (i := 26) rfl)))) (hw _ (List.mem_of_getElem? (i := 26) rfl)) (hw _ (List.mem_of_getElem? (i := 25) rfl)) (hw _ (List.mem_of_getElem? (i := 11) rfl)) (hw _ (List.mem_of_getElem? (i := 27) rfl)) (by decide) (rm_ae l Z a0 hw b375 a324 ps401 1 ((0 + w0) + w1) ln _ T401.heap n0 Z404 B405i B405p f406 hp401 (by omega) (Or.inl ⟨rfl, by omega⟩)) 0 (by decide) (by decide) (by decide) (by decide) B405E (g := (mkF m 269 #[.val (.int u0), .val (.int u1), .val (.int u2), .val (.int u3), .val (.int (2 : Int32)), .val (.int b5), .val (.int b6), .val (.int tt), .val (.int kq), .val (.int l9), .val (.int l10), .val (.int len), .val (.ref a324), .val (.int y332), .val (.ref b375), .val (.int (1 : Int32))] [(.ref b375)])) rfl (by rw [hml]; rfl) [] [] rfl (lenOf pd_1 rfl) rfl (by show 2 * 0 + _ ≤ _; exact Nat.le_of_eq rfl) (hb hby at_269) ?_
                  intro T407 L407 v407 X407 q407
                  obtain ⟨rfl, N407, hh407⟩ := q407
                  obtain ⟨lc407, X407h, N407h⟩ := own_hide X407 (Fr.app N401h N407)
                  show G (T407.setTop (mkF m 272 #[.val (.int u0), .val (.int u1), .val (.int u2), .val (.int u3), .val (.int (2 : Int32)), .val (.int b5), .val (.int b6), .val (.int tt), .val (.int kq), .val (.int l9), .val (.int l10), .val (.int len), .val (.ref a324), .val (.int y332), .val (.ref b375), .val (.int (1 : Int32))] [(.int (1 : Int32))]))
                  refine go _ _ (fun t' k' => XS.iload X407h.here hx rfl (hb hby at_272) rfl  k') ?_
                  show G (T407.setTop (mkF m 274 #[.val (.int u0), .val (.int u1), .val (.int u2), .val (.int u3), .val (.int (2 : Int32)), .val (.int b5), .val (.int b6), .val (.int tt), .val (.int kq), .val (.int l9), .val (.int l10), .val (.int len), .val (.ref a324), .val (.int y332), .val (.ref b375), .val (.int (1 : Int32))] [(.int tt), (.int (1 : Int32))]))
                  refine go _ _ (fun t' k' => XS.ifNo X407h.here hx rfl (hb hby at_274) rfl (Free.XT.i0_ne_f z374) k') ?_
                  show G (T407.setTop (mkF m 277 #[.val (.int u0), .val (.int u1), .val (.int u2), .val (.int u3), .val (.int (2 : Int32)), .val (.int b5), .val (.int b6), .val (.int tt), .val (.int kq), .val (.int l9), .val (.int l10), .val (.int len), .val (.ref a324), .val (.int y332), .val (.ref b375), .val (.int (1 : Int32))] [(.int (1 : Int32))]))
                  refine go _ _ (fun t' k' => XS.iconst X407h.here hx rfl (hb hby at_277) k') ?_
                  show G (T407.setTop (mkF m 278 #[.val (.int u0), .val (.int u1), .val (.int u2), .val (.int u3), .val (.int (2 : Int32)), .val (.int b5), .val (.int b6), .val (.int tt), .val (.int kq), .val (.int l9), .val (.int l10), .val (.int len), .val (.ref a324), .val (.int y332), .val (.ref b375), .val (.int (1 : Int32))] [(.int (1 : Int32)), (.int (1 : Int32))]))
                  refine go _ _ (fun t' k' => XS.goto X407h.here hx rfl (pc0 := 278) (pc' := 282) rfl (hb hby at_278) (by decide) (by decide) k') ?_
                  show G (T407.setTop (mkF m 282 #[.val (.int u0), .val (.int u1), .val (.int u2), .val (.int u3), .val (.int (2 : Int32)), .val (.int b5), .val (.int b6), .val (.int tt), .val (.int kq), .val (.int l9), .val (.int l10), .val (.int len), .val (.ref a324), .val (.int y332), .val (.ref b375), .val (.int (1 : Int32))] [(.int (1 : Int32)), (.int (1 : Int32))]))
                  refine go _ _ (fun t' k' => XS.icmpNo X407h.here hx rfl (hb hby at_282) rfl (Free.XT.ii_ne_f (by decide)) k') ?_
                  show G (T407.setTop (mkF m 285 #[.val (.int u0), .val (.int u1), .val (.int u2), .val (.int u3), .val (.int (2 : Int32)), .val (.int b5), .val (.int b6), .val (.int tt), .val (.int kq), .val (.int l9), .val (.int l10), .val (.int len), .val (.ref a324), .val (.int y332), .val (.ref b375), .val (.int (1 : Int32))] []))
                  refine go _ _ (fun t' k' => XS.iconst X407h.here hx rfl (hb hby at_285) k') ?_
                  show G (T407.setTop (mkF m 286 #[.val (.int u0), .val (.int u1), .val (.int u2), .val (.int u3), .val (.int (2 : Int32)), .val (.int b5), .val (.int b6), .val (.int tt), .val (.int kq), .val (.int l9), .val (.int l10), .val (.int len), .val (.ref a324), .val (.int y332), .val (.ref b375), .val (.int (1 : Int32))] [(.int (1 : Int32))]))
                  refine go _ _ (fun t' k' => XS.goto X407h.here hx rfl (pc0 := 286) (pc' := 290) rfl (hb hby at_286) (by decide) (by decide) k') ?_
                  show G (T407.setTop (mkF m 290 #[.val (.int u0), .val (.int u1), .val (.int u2), .val (.int u3), .val (.int (2 : Int32)), .val (.int b5), .val (.int b6), .val (.int tt), .val (.int kq), .val (.int l9), .val (.int l10), .val (.int len), .val (.ref a324), .val (.int y332), .val (.ref b375), .val (.int (1 : Int32))] [(.int (1 : Int32))]))
                  refine go _ _ (fun t' k' => XS.istore X407h.here hx rfl (hb hby at_290) rfl (l' := #[.val (.int u0), .val (.int u1), .val (.int u2), .val (.int u3), .val (.int (2 : Int32)), .val (.int b5), .val (.int b6), .val (.int tt), .val (.int kq), .val (.int l9), .val (.int l10), .val (.int len), .val (.ref a324), .val (.int y332), .val (.ref b375), .val (.int (1 : Int32))]) rfl k') ?_
                  show G (T407.setTop (mkF m 292 #[.val (.int u0), .val (.int u1), .val (.int u2), .val (.int u3), .val (.int (2 : Int32)), .val (.int b5), .val (.int b6), .val (.int tt), .val (.int kq), .val (.int l9), .val (.int l10), .val (.int len), .val (.ref a324), .val (.int y332), .val (.ref b375), .val (.int (1 : Int32))] []))
                  refine go _ _ (fun t' k' => XS.iload X407h.here hx rfl (hb hby at_292) rfl  k') ?_
                  show G (T407.setTop (mkF m 294 #[.val (.int u0), .val (.int u1), .val (.int u2), .val (.int u3), .val (.int (2 : Int32)), .val (.int b5), .val (.int b6), .val (.int tt), .val (.int kq), .val (.int l9), .val (.int l10), .val (.int len), .val (.ref a324), .val (.int y332), .val (.ref b375), .val (.int (1 : Int32))] [(.int (1 : Int32))]))
                  refine own_retZ rt X407h hx (t := .boolean) hret (by simp) (hb hby at_294) (by decide) (by decide) ?_
                  exact ⟨rfl, N407h⟩
          by_cases c408 : b6 = (0 : Int32)
          · refine go _ _ (fun t' k' => XS.ifYes X322.here hx rfl (pc0 := 67) (pc' := 74) rfl (hb hby at_67) rfl (Free.XT.i0_eq_t c408) (by decide) (by decide) k') ?_
            show G (T322.setTop (mkF m 74 #[.val (.int u0), .val (.int u1), .val (.int u2), .val (.int u3), .val (.int (2 : Int32)), .val (.int b5), .val (.int b6), .val (.int tt), .val (.int kq), .val (.int l9), .unset, .unset, .unset, .unset, .unset, .unset] []))
            refine go _ _ (fun t' k' => XS.iconst X322.here hx rfl (hb hby at_74) k') ?_
            show G (T322.setTop (mkF m 75 #[.val (.int u0), .val (.int u1), .val (.int u2), .val (.int u3), .val (.int (2 : Int32)), .val (.int b5), .val (.int b6), .val (.int tt), .val (.int kq), .val (.int l9), .unset, .unset, .unset, .unset, .unset, .unset] [(.int (1 : Int32))]))
            exact J75 T322 _ X322 e322 N322j _ 1 rfl (Or.inl ⟨c408, rfl⟩)
          · refine go _ _ (fun t' k' => XS.ifNo X322.here hx rfl (hb hby at_67) rfl (Free.XT.i0_eq_f c408) k') ?_
            show G (T322.setTop (mkF m 70 #[.val (.int u0), .val (.int u1), .val (.int u2), .val (.int u3), .val (.int (2 : Int32)), .val (.int b5), .val (.int b6), .val (.int tt), .val (.int kq), .val (.int l9), .unset, .unset, .unset, .unset, .unset, .unset] []))
            refine go _ _ (fun t' k' => XS.iconst X322.here hx rfl (hb hby at_70) k') ?_
            show G (T322.setTop (mkF m 71 #[.val (.int u0), .val (.int u1), .val (.int u2), .val (.int u3), .val (.int (2 : Int32)), .val (.int b5), .val (.int b6), .val (.int tt), .val (.int kq), .val (.int l9), .unset, .unset, .unset, .unset, .unset, .unset] [(.int (2 : Int32))]))
            refine go _ _ (fun t' k' => XS.goto X322.here hx rfl (pc0 := 71) (pc' := 75) rfl (hb hby at_71) (by decide) (by decide) k') ?_
            show G (T322.setTop (mkF m 75 #[.val (.int u0), .val (.int u1), .val (.int u2), .val (.int u3), .val (.int (2 : Int32)), .val (.int b5), .val (.int b6), .val (.int tt), .val (.int kq), .val (.int l9), .unset, .unset, .unset, .unset, .unset, .unset] [(.int (2 : Int32))]))
            exact J75 T322 _ X322 e322 N322j _ 2 rfl (Or.inr ⟨c408, rfl⟩)
        by_cases c409 : b5 = (0 : Int32)
        · refine go _ _ (fun t' k' => XS.ifYes X321h.here hx rfl (pc0 := 55) (pc' := 62) rfl (hb hby at_55) rfl (Free.XT.i0_eq_t c409) (by decide) (by decide) k') ?_
          show G (T321.setTop (mkF m 62 #[.val (.int u0), .val (.int u1), .val (.int u2), .val (.int u3), .val (.int (2 : Int32)), .val (.int b5), .val (.int b6), .val (.int tt), .val (.int kq), .unset, .unset, .unset, .unset, .unset, .unset, .unset] []))
          refine go _ _ (fun t' k' => XS.iconst X321h.here hx rfl (hb hby at_62) k') ?_
          show G (T321.setTop (mkF m 63 #[.val (.int u0), .val (.int u1), .val (.int u2), .val (.int u3), .val (.int (2 : Int32)), .val (.int b5), .val (.int b6), .val (.int tt), .val (.int kq), .unset, .unset, .unset, .unset, .unset, .unset, .unset] [(.int (1 : Int32))]))
          exact J63 T321 _ X321h hh321 N321h _ 1 rfl (Or.inl ⟨c409, rfl⟩)
        · refine go _ _ (fun t' k' => XS.ifNo X321h.here hx rfl (hb hby at_55) rfl (Free.XT.i0_eq_f c409) k') ?_
          show G (T321.setTop (mkF m 58 #[.val (.int u0), .val (.int u1), .val (.int u2), .val (.int u3), .val (.int (2 : Int32)), .val (.int b5), .val (.int b6), .val (.int tt), .val (.int kq), .unset, .unset, .unset, .unset, .unset, .unset, .unset] []))
          refine go _ _ (fun t' k' => XS.iconst X321h.here hx rfl (hb hby at_58) k') ?_
          show G (T321.setTop (mkF m 59 #[.val (.int u0), .val (.int u1), .val (.int u2), .val (.int u3), .val (.int (2 : Int32)), .val (.int b5), .val (.int b6), .val (.int tt), .val (.int kq), .unset, .unset, .unset, .unset, .unset, .unset, .unset] [(.int (2 : Int32))]))
          refine go _ _ (fun t' k' => XS.goto X321h.here hx rfl (pc0 := 59) (pc' := 63) rfl (hb hby at_59) (by decide) (by decide) k') ?_
          show G (T321.setTop (mkF m 63 #[.val (.int u0), .val (.int u1), .val (.int u2), .val (.int u3), .val (.int (2 : Int32)), .val (.int b5), .val (.int b6), .val (.int tt), .val (.int kq), .unset, .unset, .unset, .unset, .unset, .unset, .unset] [(.int (2 : Int32))]))
          exact J63 T321 _ X321h hh321 N321h _ 2 rfl (Or.inr ⟨c409, rfl⟩)
      by_cases c410 : (u0 &&& (8 : Int32)) = (0 : Int32)
      · refine go _ _ (fun t' k' => XS.ifYes X319.here hx rfl (pc0 := 24) (pc' := 31) rfl (hb hby at_24) rfl (Free.XT.i0_eq_t c410) (by decide) (by decide) k') ?_
        show G (T319.setTop (mkF m 31 #[.val (.int u0), .val (.int u1), .val (.int u2), .val (.int u3), .val (.int (2 : Int32)), .val (.int b5), .unset, .unset, .unset, .unset, .unset, .unset, .unset, .unset, .unset, .unset] []))
        refine go _ _ (fun t' k' => XS.iconst X319.here hx rfl (hb hby at_31) k') ?_
        show G (T319.setTop (mkF m 32 #[.val (.int u0), .val (.int u1), .val (.int u2), .val (.int u3), .val (.int (2 : Int32)), .val (.int b5), .unset, .unset, .unset, .unset, .unset, .unset, .unset, .unset, .unset, .unset] [(.int (0 : Int32))]))
        exact J32 T319 _ X319 e319 N319j _ 
      · refine go _ _ (fun t' k' => XS.ifNo X319.here hx rfl (hb hby at_24) rfl (Free.XT.i0_eq_f c410) k') ?_
        show G (T319.setTop (mkF m 27 #[.val (.int u0), .val (.int u1), .val (.int u2), .val (.int u3), .val (.int (2 : Int32)), .val (.int b5), .unset, .unset, .unset, .unset, .unset, .unset, .unset, .unset, .unset, .unset] []))
        refine go _ _ (fun t' k' => XS.iconst X319.here hx rfl (hb hby at_27) k') ?_
        show G (T319.setTop (mkF m 28 #[.val (.int u0), .val (.int u1), .val (.int u2), .val (.int u3), .val (.int (2 : Int32)), .val (.int b5), .unset, .unset, .unset, .unset, .unset, .unset, .unset, .unset, .unset, .unset] [(.int (1 : Int32))]))
        refine go _ _ (fun t' k' => XS.goto X319.here hx rfl (pc0 := 28) (pc' := 32) rfl (hb hby at_28) (by decide) (by decide) k') ?_
        show G (T319.setTop (mkF m 32 #[.val (.int u0), .val (.int u1), .val (.int u2), .val (.int u3), .val (.int (2 : Int32)), .val (.int b5), .unset, .unset, .unset, .unset, .unset, .unset, .unset, .unset, .unset, .unset] [(.int (1 : Int32))]))
        exact J32 T319 _ X319 e319 N319j _ 
    by_cases c411 : (u0 &&& (4 : Int32)) = (0 : Int32)
    · refine go _ _ (fun t' k' => XS.ifYes X0.here hx rfl (pc0 := 10) (pc' := 17) rfl (hb hby at_10) rfl (Free.XT.i0_eq_t c411) (by decide) (by decide) k') ?_
      show G (s₁.setTop (mkF m 17 #[.val (.int u0), .val (.int u1), .val (.int u2), .val (.int u3), .val (.int (2 : Int32)), .unset, .unset, .unset, .unset, .unset, .unset, .unset, .unset, .unset, .unset, .unset] []))
      refine go _ _ (fun t' k' => XS.iconst X0.here hx rfl (hb hby at_17) k') ?_
      show G (s₁.setTop (mkF m 18 #[.val (.int u0), .val (.int u1), .val (.int u2), .val (.int u3), .val (.int (2 : Int32)), .unset, .unset, .unset, .unset, .unset, .unset, .unset, .unset, .unset, .unset, .unset] [(.int (0 : Int32))]))
      exact J18 s₁ _ X0 e0 N0 _ 
    · refine go _ _ (fun t' k' => XS.ifNo X0.here hx rfl (hb hby at_10) rfl (Free.XT.i0_eq_f c411) k') ?_
      show G (s₁.setTop (mkF m 13 #[.val (.int u0), .val (.int u1), .val (.int u2), .val (.int u3), .val (.int (2 : Int32)), .unset, .unset, .unset, .unset, .unset, .unset, .unset, .unset, .unset, .unset, .unset] []))
      refine go _ _ (fun t' k' => XS.iconst X0.here hx rfl (hb hby at_13) k') ?_
      show G (s₁.setTop (mkF m 14 #[.val (.int u0), .val (.int u1), .val (.int u2), .val (.int u3), .val (.int (2 : Int32)), .unset, .unset, .unset, .unset, .unset, .unset, .unset, .unset, .unset, .unset, .unset] [(.int (1 : Int32))]))
      refine go _ _ (fun t' k' => XS.goto X0.here hx rfl (pc0 := 14) (pc' := 18) rfl (hb hby at_14) (by decide) (by decide) k') ?_
      show G (s₁.setTop (mkF m 18 #[.val (.int u0), .val (.int u1), .val (.int u2), .val (.int u3), .val (.int (2 : Int32)), .unset, .unset, .unset, .unset, .unset, .unset, .unset, .unset, .unset, .unset, .unset] [(.int (1 : Int32))]))
      exact J18 s₁ _ X0 e0 N0 _ 
set_option maxRecDepth 65536 in
set_option maxHeartbeats 40000000 in
theorem comes_1 {Post : Tables → Env → Array Value → State → Outcome → State → Prop} (hpost : ∀ tb e args s v u, (limb_1_1.after args s (.returned v) u = true ∧ limb_1_2.after args s (.returned v) u = true ∧ True) → FrameEnd s (.returned v) u (Jvm.fieldLocs frame_1_writes args s ++ Jvm.arrayLocs frame_1_arrays args s ++ Jvm.staticLocs frame_1_statics s) 16 128 → Post tb e args s (.returned v) u) :
    ArmFor flags0 classFile x code maxLocals ret World_1 tables_1 room_1 Calls_1 rest_1 Pre_1 Post := by
  intro l hfl _ _ p e ha hc hk s m args below hf hA hF happ hP
  obtain ⟨hcalls, hrest, hpre⟩ := hP
  obtain ⟨-, -, -, hnamed, -, -, -, hat⟩ := (Spec.applies_iff hf).mp happ
  obtain ⟨hg, hn⟩ := and_e (Cond.before_iff.mp (show (Jvm.Cond.and given_1 narrow_1).before args s = true from hpre))
  obtain ⟨k0, hg0⟩ := and_e hg
  obtain ⟨ka0, hg1⟩ := and_e hg0
  obtain ⟨ka1, hg2⟩ := and_e hg1
  obtain ⟨ka2, hg3⟩ := and_e hg2
  have ka3 := hg3
  obtain ⟨w0, w1, w2, w3, rfl⟩ : ∃ w0 w1 w2 w3 : Value, args = #[w0, w1, w2, w3] := by
    have hs : args.size = 4 := by simpa [Cond.value, given_1] using k0
    obtain ⟨L⟩ := args
    match L, hs with
    | [w0, w1, w2, w3], _ => exact ⟨w0, w1, w2, w3, rfl⟩
  have hw := fun d (hd : d ∈ tables_1) => atoms_spec (ws := Jvm.Cond.code x code maxLocals ret :: tables_1) hat d (List.mem_cons_of_mem _ hd)
  have hfit : Fit s := fun {y c} hc i hi => by
    obtain ⟨ha, rfl⟩ := Array.getElem?_eq_some_iff.mp hc
    have q := List.all_eq_true.mp ((Array.all_eq_true_iff_forall_mem.mp hF) _ (Array.getElem_mem ha)) i (List.mem_range.mpr hi)
    simpa [Array.getElem?_eq_getElem hi] using q
  obtain ⟨i0, ie0⟩ := is_v ka0
  obtain rfl : w0 = (.int i0) := Option.some.inj ie0
  obtain ⟨i1, ie1⟩ := is_v ka1
  obtain rfl : w1 = (.int i1) := Option.some.inj ie1
  obtain ⟨i2, ie2⟩ := is_v ka2
  obtain rfl : w2 = (.int i2) := Option.some.inj ie2
  obtain ⟨i3, ie3⟩ := is_v ka3
  obtain rfl : w3 = (.int i3) := Option.some.inj ie3
  obtain ⟨ru, Su, Eu, evu⟩ := own_sta hn ((hw _ (List.mem_of_getElem? (i := 40) rfl))) ((hw _ (List.mem_of_getElem? (i := 41) rfl)))
  obtain ⟨n, o, h1, h2, h3, _, L, rfl, ⟨rfl, N⟩, hq⟩ := rm0 l s _ hw i0 i1 i2 i3 s.heap s.heap.size (Nat.le_refl _) ru Su tables_1 p e ha hc hk s m _ below hf ((Spec.applies_iff_loose hf).mp happ).1 ⟨rfl, State.Warmed39.refl s, rfl⟩ trivial
  refine ⟨n, _, h1, h2, h3, hpost _ _ _ _ _ _ ⟨Cond.after_iff.mpr rfl, Cond.after_iff.mpr (eq_i res_at (Term.int_eval (1)) rfl), trivial⟩ ⟨hq.1, hq.2.1, (hq.2.2.sift fun y hy => Or.inr (N y hy)).mono (by decide) (by decide)⟩⟩
theorem main_1_1 : Claimed_1_1 := comes_1 fun _ _ _ _ _ _ h hF => ⟨h.1, hF⟩
theorem main_1_2 : Claimed_1_2 := comes_1 fun _ _ _ _ _ _ h hF => ⟨h.2.1, hF⟩
end Jvm.Pilot.@@N@@
namespace Jvm.Pilot.@@N@@
open Jvm Jvm.ClassFile Sem Op Lib Jvm.Free Jvm.Stand Jvm.Pilot.@@N@@.Jvm.D
/-! MADE BY PROGRAM (witnessworld.py) out of the Statement's table words and the real class files: 14 classes; the members and pool entries that the words name. The judged class is class 1, her method 1. -/
namespace start1
open Jvm.ClassFile
def u (s : String) : CpInfo := .utf8 (stringToUtf16 s)
/-- a pool by its gaps: so many unusable entries, then the entry; so many at the end -/
def gap : Nat → List CpInfo → List CpInfo
  | 0, r => r
  | n + 1, r => .unusable :: gap n r
def poolList (es : List (Nat × CpInfo)) (last : Nat) : List CpInfo := es.foldr (fun e r => gap e.1 (e.2 :: r)) (gap last [])
def pool (es : List (Nat × CpInfo)) (last : Nat) : Array CpInfo := ⟨poolList es last⟩
def fileOf (pool : Array CpInfo) (this : Nat) (attrs : Array Attribute := #[]) (ms : Array MethodInfo := #[]) (fl : Nat := 33) (sup : Nat := 0) (ifs : Array Nat := #[]) (fds : Array FieldInfo := #[]) : ClassFile where
  minorVersion := 0
  majorVersion := 65
  constantPool := pool
  accessFlags := fl
  thisClass := this
  superClass := sup
  interfaces := ifs
  fields := fds
  methods := ms
  attributes := attrs
def plain (name : String) (sup : Option ClassId) : Class where
  name := name
  kind := .ordinary
  loader := none
  accessFlags := 33
  super := sup
  interfaces := #[]
  cf := none
  fields := #[]
  methods := #[]
  instanceTypes := #[]
  staticTypes := #[]
  resolved := #[]
  callSites := []
  init := .initialized
  statics := none
  mirror := none

def pool0 : Array CpInfo := pool [(5, u "<init>"), (0, u "()V"), (1, .class_ 10), (1, u "java/lang/Object")] 113

def k0c0 : Code := { maxStack := 0, maxLocals := 1, code := object_method_1_code, exceptionTable := #[], attributes := #[] }
def k0m0 : Method := { name := "<init>", desc := "()V", sig := { parameters := [], returnType := none }, accessFlags := 1, code := some k0c0 }
/-- java/lang/Object -/
def k0 : Class := { plain "java/lang/Object" none with
  accessFlags := 33
  interfaces := #[]
  cf := some (fileOf pool0 8 #[] #[{ accessFlags := 1, nameIndex := 5, descriptorIndex := 6, attributes := #[] }] 33 0 #[] #[])
  fields := #[]
  methods := #[k0m0]
  instanceTypes := #[]
  staticTypes := #[]
  resolved := Array.replicate 124 none
  statics := none }

def pool1 : Array CpInfo := pool [(2, .class_ 4), (1, u "java/lang/Object"), (0, u "<init>"), (0, u "()V"), (0, .methodref 8 9), (0, .class_ 10), (0, .nameAndType 11 12), (0, u "java/lang/Math"), (0, u "min"), (0, u "(II)I"), (0, .methodref 14 15), (0, .class_ 16), (0, .nameAndType 17 18), (0, u "com/example/brevidns/brevidns/CborReaderAtEndPinLaw"), (0, u "allocate"), (0, u "(I)[B"), (0, .methodref 14 20), (0, .nameAndType 21 22), (0, u "put"), (0, u "([BIZI)I"), (0, .class_ 24), (0, u "com/example/brevidns/brevidns/CborReader"), (0, .methodref 23 26), (0, .nameAndType 5 27), (0, u "([B)V"), (0, .methodref 23 29), (0, .nameAndType 30 31), (0, u "atEnd"), (0, u "()Z"), (0, .methodref 23 33), (0, .nameAndType 34 35), (0, u "readUnsigned"), (0, u "()J"), (0, .integer 2147483647), (2, u "law"), (0, u "(IIII)Z")] 8

def k1m0 : Method := { name := "<init>", desc := "()V", sig := { parameters := [], returnType := none }, accessFlags := 1, code := none }
def k1c1 : Code := { maxStack := 4, maxLocals := 16, code := code, exceptionTable := #[], attributes := #[] }
def k1m1 : Method := { name := "law", desc := "(IIII)Z", sig := { parameters := [.int, .int, .int, .int], returnType := some .boolean }, accessFlags := 9, code := some k1c1 }
def k1c2 : Code := { maxStack := 4, maxLocals := 4, code := method_3_code, exceptionTable := #[], attributes := #[] }
def k1m2 : Method := { name := "put", desc := "([BIZI)I", sig := { parameters := [(.array .byte), .int, .boolean, .int], returnType := some .int }, accessFlags := 10, code := some k1c2 }
def k1c3 : Code := { maxStack := 2, maxLocals := 1, code := method_4_code, exceptionTable := #[], attributes := #[] }
def k1m3 : Method := { name := "allocate", desc := "(I)[B", sig := { parameters := [.int], returnType := some (.array .byte) }, accessFlags := 10, code := some k1c3 }
/-- com/example/brevidns/brevidns/CborReaderAtEndPinLaw -/
def k1 : Class := { plain "com/example/brevidns/brevidns/CborReaderAtEndPinLaw" (some 0) with
  accessFlags := 49
  interfaces := #[]
  cf := some (fileOf pool1 14 #[] #[{ accessFlags := 1, nameIndex := 5, descriptorIndex := 6, attributes := #[] }, { accessFlags := 9, nameIndex := 39, descriptorIndex := 40, attributes := #[] }, { accessFlags := 10, nameIndex := 21, descriptorIndex := 22, attributes := #[] }, { accessFlags := 10, nameIndex := 17, descriptorIndex := 18, attributes := #[] }] 49 2 #[] #[])
  fields := #[]
  methods := #[k1m0, k1m1, k1m2, k1m3]
  instanceTypes := #[]
  staticTypes := #[]
  resolved := Array.replicate 49 none
  statics := none }

def pool2 : Array CpInfo := pool [(1, .class_ 2), (0, u "java/lang/Math"), (1, .class_ 6), (1, u "java/lang/Object"), (0, u "<init>"), (0, u "()V"), (89, .class_ 100), (1, u "java/lang/Math$RandomNumberGeneratorHolder"), (71, u "negativeZeroFloatBits"), (0, u "J"), (2, u "negativeZeroDoubleBits"), (24, u "min"), (43, u "$assertionsDisabled"), (0, u "Z"), (88, u "(II)I"), (2, u "twoToTheDoubleScaleDown"), (0, u "D"), (4, u "twoToTheDoubleScaleUp"), (9, u "E"), (3, u "PI"), (2, u "TAU"), (2, u "DEGREES_TO_RADIANS"), (0, u "RADIANS_TO_DEGREES")] 94

def k2m0 : Method := { name := "<init>", desc := "()V", sig := { parameters := [], returnType := none }, accessFlags := 2, code := none }
def k2c1 : Code := { maxStack := 2, maxLocals := 2, code := jdk_29_method_69_code, exceptionTable := #[], attributes := #[] }
def k2m1 : Method := { name := "min", desc := "(II)I", sig := { parameters := [.int, .int], returnType := some .int }, accessFlags := 9, code := some k2c1 }
/-- java/lang/Math -/
def k2 : Class := { plain "java/lang/Math" (some 0) with
  accessFlags := 49
  interfaces := #[]
  cf := some (fileOf pool2 1 #[.nestMembers #[98]] #[{ accessFlags := 2, nameIndex := 7, descriptorIndex := 8, attributes := #[] }, { accessFlags := 9, nameIndex := 201, descriptorIndex := 335, attributes := #[] }] 49 4 #[] #[{ accessFlags := 25, nameIndex := 354, descriptorIndex := 339, attributes := #[] }, { accessFlags := 25, nameIndex := 358, descriptorIndex := 339, attributes := #[] }, { accessFlags := 25, nameIndex := 361, descriptorIndex := 339, attributes := #[] }, { accessFlags := 26, nameIndex := 364, descriptorIndex := 339, attributes := #[] }, { accessFlags := 26, nameIndex := 365, descriptorIndex := 339, attributes := #[] }, { accessFlags := 26, nameIndex := 172, descriptorIndex := 173, attributes := #[] }, { accessFlags := 26, nameIndex := 176, descriptorIndex := 173, attributes := #[] }, { accessFlags := 8, nameIndex := 344, descriptorIndex := 339, attributes := #[] }, { accessFlags := 8, nameIndex := 338, descriptorIndex := 339, attributes := #[] }, { accessFlags := 4120, nameIndex := 245, descriptorIndex := 246, attributes := #[] }])
  fields := #[{ name := "E", type := .double, accessFlags := 25, slot := 0, constantValue := 0 }, { name := "PI", type := .double, accessFlags := 25, slot := 1, constantValue := 0 }, { name := "TAU", type := .double, accessFlags := 25, slot := 2, constantValue := 0 }, { name := "DEGREES_TO_RADIANS", type := .double, accessFlags := 26, slot := 3, constantValue := 0 }, { name := "RADIANS_TO_DEGREES", type := .double, accessFlags := 26, slot := 4, constantValue := 0 }, { name := "negativeZeroFloatBits", type := .long, accessFlags := 26, slot := 5, constantValue := 0 }, { name := "negativeZeroDoubleBits", type := .long, accessFlags := 26, slot := 6, constantValue := 0 }, { name := "twoToTheDoubleScaleUp", type := .double, accessFlags := 8, slot := 7, constantValue := 0 }, { name := "twoToTheDoubleScaleDown", type := .double, accessFlags := 8, slot := 8, constantValue := 0 }, { name := "$assertionsDisabled", type := .boolean, accessFlags := 4120, slot := 9, constantValue := 0 }]
  methods := #[k2m0, k2m1]
  instanceTypes := #[]
  staticTypes := #[.double, .double, .double, .double, .double, .long, .long, .double, .double, .boolean]
  resolved := Array.replicate 460 none
  statics := none }

def pool3 : Array CpInfo := pool [(1, .methodref 2 3), (0, .class_ 4), (0, .nameAndType 5 6), (0, u "java/lang/Object"), (0, u "<init>"), (0, u "()V"), (0, .fieldref 8 9), (0, .class_ 10), (0, .nameAndType 11 12), (0, u "com/example/brevidns/brevidns/CborReader"), (0, u "itemsLeft"), (0, u "[I"), (0, .fieldref 8 14), (0, .nameAndType 15 16), (0, u "input"), (0, u "[B"), (0, .fieldref 8 18), (0, .nameAndType 19 20), (0, u "position"), (0, u "I"), (0, .methodref 8 22), (0, .nameAndType 23 6), (0, u "checkInsideContainer"), (0, .methodref 8 25), (0, .nameAndType 26 27), (0, u "atEnd"), (0, u "()Z"), (21, .fieldref 50 51), (0, .class_ 52), (0, .nameAndType 53 54), (0, u "com/example/brevidns/brevidns/CborReader$Kind"), (0, u "UNSIGNED_INTEGER"), (0, u "Lcom/example/brevidns/brevidns/CborReader$Kind;"), (39, .methodref 8 95), (0, .nameAndType 96 97), (0, u "readHead"), (0, u "(Lcom/example/brevidns/brevidns/CborReader$Kind;)J"), (0, .methodref 8 99), (0, .nameAndType 100 101), (0, u "remaining"), (0, u "()I"), (13, .fieldref 8 116), (0, .nameAndType 117 20), (0, u "depth"), (29, .methodref 8 148), (0, .nameAndType 149 150), (0, u "peek"), (0, u "()Lcom/example/brevidns/brevidns/CborReader$Kind;"), (5, u "readUnsigned"), (0, u "()J"), (23, u "PAST_ANY_VALUE"), (0, u "Ljava/lang/String;"), (3, u "([B)V")] 57

def k3c0 : Code := { maxStack := 2, maxLocals := 2, code := prog_3_method_1_code, exceptionTable := #[], attributes := #[] }
def k3m0 : Method := { name := "<init>", desc := "([B)V", sig := { parameters := [(.array .byte)], returnType := none }, accessFlags := 0, code := some k3c0 }
def k3c1 : Code := { maxStack := 2, maxLocals := 1, code := prog_3_method_2_code, exceptionTable := #[], attributes := #[] }
def k3m1 : Method := { name := "atEnd", desc := "()Z", sig := { parameters := [], returnType := some .boolean }, accessFlags := 0, code := some k3c1 }
def k3c2 : Code := { maxStack := 4, maxLocals := 4, code := prog_3_method_4_code, exceptionTable := #[], attributes := #[] }
def k3m2 : Method := { name := "peek", desc := "()Lcom/example/brevidns/brevidns/CborReader$Kind;", sig := { parameters := [], returnType := some (.object "com/example/brevidns/brevidns/CborReader$Kind") }, accessFlags := 0, code := some k3c2 }
def k3c3 : Code := { maxStack := 5, maxLocals := 4, code := prog_3_method_12_code, exceptionTable := #[], attributes := #[] }
def k3m3 : Method := { name := "readUnsigned", desc := "()J", sig := { parameters := [], returnType := some .long }, accessFlags := 0, code := some k3c3 }
def k3c4 : Code := { maxStack := 5, maxLocals := 8, code := prog_3_method_20_code, exceptionTable := #[], attributes := #[] }
def k3m4 : Method := { name := "readHead", desc := "(Lcom/example/brevidns/brevidns/CborReader$Kind;)J", sig := { parameters := [(.object "com/example/brevidns/brevidns/CborReader$Kind")], returnType := some .long }, accessFlags := 2, code := some k3c4 }
def k3c5 : Code := { maxStack := 2, maxLocals := 1, code := prog_3_method_21_code, exceptionTable := #[], attributes := #[] }
def k3m5 : Method := { name := "remaining", desc := "()I", sig := { parameters := [], returnType := some .int }, accessFlags := 2, code := some k3c5 }
def k3c6 : Code := { maxStack := 3, maxLocals := 1, code := prog_3_method_22_code, exceptionTable := #[], attributes := #[] }
def k3m6 : Method := { name := "checkInsideContainer", desc := "()V", sig := { parameters := [], returnType := none }, accessFlags := 2, code := some k3c6 }
/-- com/example/brevidns/brevidns/CborReader -/
def k3 : Class := { plain "com/example/brevidns/brevidns/CborReader" (some 0) with
  accessFlags := 48
  interfaces := #[]
  cf := some (fileOf pool3 8 #[.nestMembers #[50]] #[{ accessFlags := 0, nameIndex := 5, descriptorIndex := 186, attributes := #[] }, { accessFlags := 0, nameIndex := 26, descriptorIndex := 27, attributes := #[] }, { accessFlags := 0, nameIndex := 149, descriptorIndex := 150, attributes := #[] }, { accessFlags := 0, nameIndex := 156, descriptorIndex := 157, attributes := #[] }, { accessFlags := 2, nameIndex := 96, descriptorIndex := 97, attributes := #[] }, { accessFlags := 2, nameIndex := 100, descriptorIndex := 101, attributes := #[] }, { accessFlags := 2, nameIndex := 23, descriptorIndex := 6, attributes := #[] }] 48 2 #[] #[{ accessFlags := 26, nameIndex := 181, descriptorIndex := 182, attributes := #[] }, { accessFlags := 18, nameIndex := 15, descriptorIndex := 16, attributes := #[] }, { accessFlags := 2, nameIndex := 19, descriptorIndex := 20, attributes := #[] }, { accessFlags := 2, nameIndex := 11, descriptorIndex := 12, attributes := #[] }, { accessFlags := 2, nameIndex := 117, descriptorIndex := 20, attributes := #[] }])
  fields := #[{ name := "PAST_ANY_VALUE", type := (.object "java/lang/String"), accessFlags := 26, slot := 0, constantValue := 0 }, { name := "input", type := (.array .byte), accessFlags := 18, slot := 0, constantValue := 0 }, { name := "position", type := .int, accessFlags := 2, slot := 1, constantValue := 0 }, { name := "itemsLeft", type := (.array .int), accessFlags := 2, slot := 2, constantValue := 0 }, { name := "depth", type := .int, accessFlags := 2, slot := 3, constantValue := 0 }]
  methods := #[k3m0, k3m1, k3m2, k3m3, k3m4, k3m5, k3m6]
  instanceTypes := #[(.array .byte), .int, (.array .int), .int]
  staticTypes := #[(.object "java/lang/String")]
  resolved := Array.replicate 244 none
  statics := none }

def pool4 : Array CpInfo := pool [(1, .class_ 2), (0, u "java/lang/constant/Constable"), (0, .class_ 4), (0, u "java/lang/Object")] 6

/-- java/lang/constant/Constable -/
def k4 : Class := { plain "java/lang/constant/Constable" (some 0) with
  accessFlags := 1537
  interfaces := #[]
  cf := some (fileOf pool4 1 #[] #[] 1537 3 #[] #[])
  fields := #[]
  methods := #[]
  instanceTypes := #[]
  staticTypes := #[]
  resolved := Array.replicate 11 none
  statics := none }

def pool5 : Array CpInfo := pool [(1, .class_ 2), (0, u "java/lang/Comparable"), (0, .class_ 4), (0, u "java/lang/Object")] 7

/-- java/lang/Comparable -/
def k5 : Class := { plain "java/lang/Comparable" (some 0) with
  accessFlags := 1537
  interfaces := #[]
  cf := some (fileOf pool5 1 #[] #[] 1537 3 #[] #[])
  fields := #[]
  methods := #[]
  instanceTypes := #[]
  staticTypes := #[]
  resolved := Array.replicate 12 none
  statics := none }

def pool6 : Array CpInfo := pool [(1, .class_ 2), (0, u "java/io/Serializable"), (0, .class_ 4), (0, u "java/lang/Object")] 2

/-- java/io/Serializable -/
def k6 : Class := { plain "java/io/Serializable" (some 0) with
  accessFlags := 1537
  interfaces := #[]
  cf := some (fileOf pool6 1 #[] #[] 1537 3 #[] #[])
  fields := #[]
  methods := #[]
  instanceTypes := #[]
  staticTypes := #[]
  resolved := Array.replicate 7 none
  statics := none }

def pool7 : Array CpInfo := pool [(2, .class_ 4), (1, u "java/lang/Enum"), (0, u "name"), (0, u "Ljava/lang/String;"), (2, u "ordinal"), (0, u "I"), (1, .class_ 14), (1, u "java/lang/Object"), (4, u "hash"), (86, .class_ 108), (1, u "java/lang/Enum$EnumDesc"), (2, .class_ 112), (0, u "java/lang/constant/Constable"), (0, .class_ 114), (0, u "java/lang/Comparable"), (0, .class_ 116), (0, u "java/io/Serializable")] 87

/-- java/lang/Enum -/
def k7 : Class := { plain "java/lang/Enum" (some 0) with
  accessFlags := 1057
  interfaces := #[4, 5, 6]
  cf := some (fileOf pool7 2 #[.nestMembers #[106]] #[] 1057 12 #[111, 113, 115] #[{ accessFlags := 18, nameIndex := 5, descriptorIndex := 6, attributes := #[] }, { accessFlags := 18, nameIndex := 9, descriptorIndex := 10, attributes := #[] }, { accessFlags := 2, nameIndex := 19, descriptorIndex := 10, attributes := #[] }])
  fields := #[{ name := "name", type := (.object "java/lang/String"), accessFlags := 18, slot := 0, constantValue := 0 }, { name := "ordinal", type := .int, accessFlags := 18, slot := 1, constantValue := 0 }, { name := "hash", type := .int, accessFlags := 2, slot := 2, constantValue := 0 }]
  methods := #[]
  instanceTypes := #[(.object "java/lang/String"), .int, .int]
  staticTypes := #[]
  resolved := Array.replicate 204 none
  statics := none }

def pool8 : Array CpInfo := pool [(1, .class_ 2), (0, u "com/example/brevidns/brevidns/CborReader$Kind"), (2, u "UNSIGNED_INTEGER"), (0, u "Lcom/example/brevidns/brevidns/CborReader$Kind;"), (2, u "NEGATIVE_INTEGER"), (2, u "BYTE_STRING"), (2, u "TEXT_STRING"), (2, u "ARRAY"), (2, u "MAP"), (2, u "TAG"), (2, u "BOOLEAN"), (2, u "SIMPLE_VALUE"), (2, u "FLOAT"), (2, u "$VALUES"), (0, u "[Lcom/example/brevidns/brevidns/CborReader$Kind;"), (6, .class_ 46), (1, u "java/lang/Enum"), (8, u "description"), (0, u "Ljava/lang/String;"), (52, .class_ 110), (0, u "com/example/brevidns/brevidns/CborReader")] 2

/-- com/example/brevidns/brevidns/CborReader$Kind -/
def k8 : Class := { plain "com/example/brevidns/brevidns/CborReader$Kind" (some 7) with
  accessFlags := 16432
  interfaces := #[]
  cf := some (fileOf pool8 1 #[.nestHost 109] #[] 16432 44 #[] #[{ accessFlags := 16409, nameIndex := 5, descriptorIndex := 6, attributes := #[] }, { accessFlags := 16409, nameIndex := 9, descriptorIndex := 6, attributes := #[] }, { accessFlags := 16409, nameIndex := 12, descriptorIndex := 6, attributes := #[] }, { accessFlags := 16409, nameIndex := 15, descriptorIndex := 6, attributes := #[] }, { accessFlags := 16409, nameIndex := 18, descriptorIndex := 6, attributes := #[] }, { accessFlags := 16409, nameIndex := 21, descriptorIndex := 6, attributes := #[] }, { accessFlags := 16409, nameIndex := 24, descriptorIndex := 6, attributes := #[] }, { accessFlags := 16409, nameIndex := 27, descriptorIndex := 6, attributes := #[] }, { accessFlags := 16409, nameIndex := 30, descriptorIndex := 6, attributes := #[] }, { accessFlags := 16409, nameIndex := 33, descriptorIndex := 6, attributes := #[] }, { accessFlags := 18, nameIndex := 55, descriptorIndex := 56, attributes := #[] }, { accessFlags := 4122, nameIndex := 36, descriptorIndex := 37, attributes := #[] }])
  fields := #[{ name := "UNSIGNED_INTEGER", type := (.object "com/example/brevidns/brevidns/CborReader$Kind"), accessFlags := 16409, slot := 0, constantValue := 0 }, { name := "NEGATIVE_INTEGER", type := (.object "com/example/brevidns/brevidns/CborReader$Kind"), accessFlags := 16409, slot := 1, constantValue := 0 }, { name := "BYTE_STRING", type := (.object "com/example/brevidns/brevidns/CborReader$Kind"), accessFlags := 16409, slot := 2, constantValue := 0 }, { name := "TEXT_STRING", type := (.object "com/example/brevidns/brevidns/CborReader$Kind"), accessFlags := 16409, slot := 3, constantValue := 0 }, { name := "ARRAY", type := (.object "com/example/brevidns/brevidns/CborReader$Kind"), accessFlags := 16409, slot := 4, constantValue := 0 }, { name := "MAP", type := (.object "com/example/brevidns/brevidns/CborReader$Kind"), accessFlags := 16409, slot := 5, constantValue := 0 }, { name := "TAG", type := (.object "com/example/brevidns/brevidns/CborReader$Kind"), accessFlags := 16409, slot := 6, constantValue := 0 }, { name := "BOOLEAN", type := (.object "com/example/brevidns/brevidns/CborReader$Kind"), accessFlags := 16409, slot := 7, constantValue := 0 }, { name := "SIMPLE_VALUE", type := (.object "com/example/brevidns/brevidns/CborReader$Kind"), accessFlags := 16409, slot := 8, constantValue := 0 }, { name := "FLOAT", type := (.object "com/example/brevidns/brevidns/CborReader$Kind"), accessFlags := 16409, slot := 9, constantValue := 0 }, { name := "description", type := (.object "java/lang/String"), accessFlags := 18, slot := 3, constantValue := 0 }, { name := "$VALUES", type := (.array (.object "com/example/brevidns/brevidns/CborReader$Kind")), accessFlags := 4122, slot := 10, constantValue := 0 }]
  methods := #[]
  instanceTypes := #[(.object "java/lang/String"), .int, .int, (.object "java/lang/String")]
  staticTypes := #[(.object "com/example/brevidns/brevidns/CborReader$Kind"), (.object "com/example/brevidns/brevidns/CborReader$Kind"), (.object "com/example/brevidns/brevidns/CborReader$Kind"), (.object "com/example/brevidns/brevidns/CborReader$Kind"), (.object "com/example/brevidns/brevidns/CborReader$Kind"), (.object "com/example/brevidns/brevidns/CborReader$Kind"), (.object "com/example/brevidns/brevidns/CborReader$Kind"), (.object "com/example/brevidns/brevidns/CborReader$Kind"), (.object "com/example/brevidns/brevidns/CborReader$Kind"), (.object "com/example/brevidns/brevidns/CborReader$Kind"), (.array (.object "com/example/brevidns/brevidns/CborReader$Kind"))]
  resolved := Array.replicate 113 none
  statics := some 0 }

def pool9 : Array CpInfo := pool [(1, u "java/lang/Cloneable"), (0, .class_ 1), (0, u "java/lang/Object"), (0, .class_ 3)] 3

/-- java/lang/Cloneable -/
def k9 : Class := { plain "java/lang/Cloneable" (some 0) with
  accessFlags := 1537
  interfaces := #[]
  cf := some (fileOf pool9 2 #[] #[] 1537 4 #[] #[])
  fields := #[]
  methods := #[]
  instanceTypes := #[]
  staticTypes := #[]
  resolved := Array.replicate 8 none
  statics := none }

/-- the primitive byte -/
def k10 : Class := { plain "byte" none with kind := .primitive 'B', accessFlags := 0x411 }
/-- [B -/
def k11 : Class := { plain "[B" (some 0) with kind := .array 10 .byte, interfaces := #[9, 6], accessFlags := 1041 }

/-- the primitive int -/
def k12 : Class := { plain "int" none with kind := .primitive 'I', accessFlags := 0x411 }
/-- [I -/
def k13 : Class := { plain "[I" (some 0) with kind := .array 12 .int, interfaces := #[9, 6], accessFlags := 1041 }

def heap : Heap := #[{ cls := 8, slots := #[.ref 1, .null, .null, .null, .null, .null, .null, .null, .null, .null, .null], vm := .statics 8 },
  { cls := 8, slots := #[.null, .int 0, .int 0, .null], vm := .none }]
def classes : Array Class := #[k0, k1, k2, k3, k4, k5, k6, k7, k8, k9, k10, k11, k12, k13]
def interned : List (Array UInt16 × Addr) := []
def slotsUsed : Nat := 15
def theMethod : MethodId := ⟨1, 1⟩
def args0 : Array Value := #[.int 5, .int 300, .int 7, .int 700]
def aboutOver (below : List Frame) : State where
  vm := { classes := classes, interned := interned.toArray }
  heap := heap
  slotsUsed := slotsUsed
  threads := #[{ frames := .invoking theMethod args0 :: below }]
def below0 : List Frame := [.native { method := ⟨0, 0⟩, args := #[] }]
def about1 : State := aboutOver below0
def p0 : Program := .bare "" "" ""
def e0 : Env := launch0.env 0 0 0
theorem w_frames : about1.frames = Frame.invoking theMethod args0 :: below0 := rfl
set_option maxRecDepth 65536 in
theorem w_args : argsFit about1.vm theMethod args0 = true := by decide +kernel
set_option maxRecDepth 65536 in
theorem w_heap : heapFits about1 = true := by decide +kernel
set_option maxRecDepth 65536 in
theorem w_runnable : about1.curStatus? = some .runnable := by decide +kernel
set_option maxRecDepth 65536 in
theorem w_alone : about1.alone = true := by decide +kernel
set_option maxRecDepth 65536 in
theorem w_named : about1.methodNamed? x = some theMethod := by decide +kernel
set_option maxRecDepth 65536 in
theorem w_hears : about1.hears theMethod below0 = true := by decide +kernel
set_option maxRecDepth 65536 in
theorem w_ripe : about1.ripe theMethod args0 below0 = true := by decide +kernel
theorem w_running : about1.status = .running := rfl
set_option maxRecDepth 65536 in
theorem w_room : about1.hasRoom e0.platform room_1 = true :=
  launch0.hasRoom_least _ room_1 (by decide +kernel) (by decide +kernel) (by decide +kernel) (by decide +kernel) (by decide +kernel) (by decide +kernel)
theorem allAtoms_all (ts : List Jvm.Cond) (a : Array Jvm.Value) (st : Jvm.State) : (allAtoms ts).before a st = ts.all (fun c => c.before a st) := by
  induction ts with
  | nil => rfl
  | cons c t ih =>
    show (Jvm.Cond.and c (allAtoms t)).before a st = _
    rw [Jvm.Cond.before_and, ih, List.all_cons]
def words1 : List Jvm.Cond := Jvm.Cond.code x code maxLocals ret :: tables_1
/-- a 'code' word, met by the world's own term for the bytes: nothing is compared byte by byte -/
theorem code_word {y : MethodName} {bytes : ByteArray} {mx : Nat} {rt : Option FieldType} {a : Array Value} {s : State} {m : MethodId} {meth : Method} {c : Code} (h1 : s.methodNamed? y = some m) (h2 : s.vm.method? m = some meth) (h3 : meth.code = some c) (h4 : c.code = bytes)
    (h5 : (c.maxLocals == mx && c.exceptionTable.isEmpty && decide (c.maxStack ≤ mostOperands) && decide (meth.sig.returnType = rt) && !meth.locks && decide (parseMethodDescriptor y.desc = some meth.sig)) = true) : (Jvm.Cond.code y bytes mx rt).before a s = true := by
  simp only [Bool.and_eq_true, beq_iff_eq, Bool.not_eq_true', decide_eq_true_eq] at h5
  obtain ⟨⟨⟨⟨⟨g1, g2⟩, g3⟩, g4⟩, g5⟩, g6⟩ := h5
  simp [Cond.before, Cond.holds, Cond.value, h1, h2, h3, h4, g1, g2, g3, g4, g5, g6]
def isCode : Jvm.Cond → Bool
  | .code _ _ _ _ => true
  | _ => false
theorem all_split {L : List Jvm.Cond} {P : Jvm.Cond → Bool} (h1 : L.all (fun c => isCode c || P c) = true) (h2 : ∀ c ∈ L.filter isCode, P c = true) : L.all P = true := by
  refine List.all_eq_true.mpr fun c hc => ?_
  have h := List.all_eq_true.mp h1 c hc
  rcases Bool.eq_false_or_eq_true (isCode c) with hi | hi
  · exact h2 c (List.mem_filter.mpr ⟨hc, hi⟩)
  · simpa [hi] using h
set_option maxRecDepth 65536 in
theorem w_c0 : (Jvm.Cond.code x code maxLocals ret).before args0 about1 = true := code_word (m := ⟨1, 1⟩) (meth := k1m1) (c := k1c1) (by decide +kernel) rfl rfl rfl (by decide +kernel)
set_option maxRecDepth 65536 in
theorem w_c1 : (Jvm.Cond.code ({ cls := "java/lang/Math", name := "min", desc := "(II)I" } : Jvm.MethodName) jdk_29_method_69_code (2 : Nat) (Option.some Jvm.ClassFile.FieldType.int)).before args0 about1 = true := code_word (m := ⟨2, 1⟩) (meth := k2m1) (c := k2c1) (by decide +kernel) rfl rfl rfl (by decide +kernel)
set_option maxRecDepth 65536 in
theorem w_c2 : (Jvm.Cond.code ({ cls := "com/example/brevidns/brevidns/CborReaderAtEndPinLaw", name := "allocate", desc := "(I)[B" } : Jvm.MethodName) method_4_code (1 : Nat) (Option.some (Jvm.ClassFile.FieldType.array Jvm.ClassFile.FieldType.byte))).before args0 about1 = true := code_word (m := ⟨1, 3⟩) (meth := k1m3) (c := k1c3) (by decide +kernel) rfl rfl rfl (by decide +kernel)
set_option maxRecDepth 65536 in
theorem w_c3 : (Jvm.Cond.code ({ cls := "com/example/brevidns/brevidns/CborReader", name := "<init>", desc := "([B)V" } : Jvm.MethodName) prog_3_method_1_code (2 : Nat) (Option.none : Option Jvm.ClassFile.FieldType)).before args0 about1 = true := code_word (m := ⟨3, 0⟩) (meth := k3m0) (c := k3c0) (by decide +kernel) rfl rfl rfl (by decide +kernel)
set_option maxRecDepth 65536 in
theorem w_c4 : (Jvm.Cond.code ({ cls := "java/lang/Object", name := "<init>", desc := "()V" } : Jvm.MethodName) object_method_1_code (1 : Nat) (Option.none : Option Jvm.ClassFile.FieldType)).before args0 about1 = true := code_word (m := ⟨0, 0⟩) (meth := k0m0) (c := k0c0) (by decide +kernel) rfl rfl rfl (by decide +kernel)
set_option maxRecDepth 65536 in
theorem w_c5 : (Jvm.Cond.code ({ cls := "com/example/brevidns/brevidns/CborReader", name := "atEnd", desc := "()Z" } : Jvm.MethodName) prog_3_method_2_code (1 : Nat) (Option.some Jvm.ClassFile.FieldType.boolean)).before args0 about1 = true := code_word (m := ⟨3, 1⟩) (meth := k3m1) (c := k3c1) (by decide +kernel) rfl rfl rfl (by decide +kernel)
set_option maxRecDepth 65536 in
theorem w_c6 : (Jvm.Cond.code ({ cls := "com/example/brevidns/brevidns/CborReaderAtEndPinLaw", name := "put", desc := "([BIZI)I" } : Jvm.MethodName) method_3_code (4 : Nat) (Option.some Jvm.ClassFile.FieldType.int)).before args0 about1 = true := code_word (m := ⟨1, 2⟩) (meth := k1m2) (c := k1c2) (by decide +kernel) rfl rfl rfl (by decide +kernel)
set_option maxRecDepth 65536 in
theorem w_c7 : (Jvm.Cond.code ({ cls := "com/example/brevidns/brevidns/CborReader", name := "readUnsigned", desc := "()J" } : Jvm.MethodName) prog_3_method_12_code (4 : Nat) (Option.some Jvm.ClassFile.FieldType.long)).before args0 about1 = true := code_word (m := ⟨3, 3⟩) (meth := k3m3) (c := k3c3) (by decide +kernel) rfl rfl rfl (by decide +kernel)
set_option maxRecDepth 65536 in
theorem w_c8 : (Jvm.Cond.code ({ cls := "com/example/brevidns/brevidns/CborReader", name := "readHead", desc := "(Lcom/example/brevidns/brevidns/CborReader$Kind;)J" } : Jvm.MethodName) prog_3_method_20_code (8 : Nat) (Option.some Jvm.ClassFile.FieldType.long)).before args0 about1 = true := code_word (m := ⟨3, 4⟩) (meth := k3m4) (c := k3c4) (by decide +kernel) rfl rfl rfl (by decide +kernel)
set_option maxRecDepth 65536 in
theorem w_c9 : (Jvm.Cond.code ({ cls := "com/example/brevidns/brevidns/CborReader", name := "peek", desc := "()Lcom/example/brevidns/brevidns/CborReader$Kind;" } : Jvm.MethodName) prog_3_method_4_code (4 : Nat) (Option.some (Jvm.ClassFile.FieldType.object "com/example/brevidns/brevidns/CborReader$Kind"))).before args0 about1 = true := code_word (m := ⟨3, 2⟩) (meth := k3m2) (c := k3c2) (by decide +kernel) rfl rfl rfl (by decide +kernel)
set_option maxRecDepth 65536 in
theorem w_c10 : (Jvm.Cond.code ({ cls := "com/example/brevidns/brevidns/CborReader", name := "checkInsideContainer", desc := "()V" } : Jvm.MethodName) prog_3_method_22_code (1 : Nat) (Option.none : Option Jvm.ClassFile.FieldType)).before args0 about1 = true := code_word (m := ⟨3, 6⟩) (meth := k3m6) (c := k3c6) (by decide +kernel) rfl rfl rfl (by decide +kernel)
set_option maxRecDepth 65536 in
theorem w_c11 : (Jvm.Cond.code ({ cls := "com/example/brevidns/brevidns/CborReader", name := "remaining", desc := "()I" } : Jvm.MethodName) prog_3_method_21_code (1 : Nat) (Option.some Jvm.ClassFile.FieldType.int)).before args0 about1 = true := code_word (m := ⟨3, 5⟩) (meth := k3m5) (c := k3c5) (by decide +kernel) rfl rfl rfl (by decide +kernel)
def codes1 : List Jvm.Cond := [Jvm.Cond.code x code maxLocals ret, Jvm.Cond.code ({ cls := "java/lang/Math", name := "min", desc := "(II)I" } : Jvm.MethodName) jdk_29_method_69_code (2 : Nat) (Option.some Jvm.ClassFile.FieldType.int), Jvm.Cond.code ({ cls := "com/example/brevidns/brevidns/CborReaderAtEndPinLaw", name := "allocate", desc := "(I)[B" } : Jvm.MethodName) method_4_code (1 : Nat) (Option.some (Jvm.ClassFile.FieldType.array Jvm.ClassFile.FieldType.byte)), Jvm.Cond.code ({ cls := "com/example/brevidns/brevidns/CborReader", name := "<init>", desc := "([B)V" } : Jvm.MethodName) prog_3_method_1_code (2 : Nat) (Option.none : Option Jvm.ClassFile.FieldType), Jvm.Cond.code ({ cls := "java/lang/Object", name := "<init>", desc := "()V" } : Jvm.MethodName) object_method_1_code (1 : Nat) (Option.none : Option Jvm.ClassFile.FieldType), Jvm.Cond.code ({ cls := "com/example/brevidns/brevidns/CborReader", name := "atEnd", desc := "()Z" } : Jvm.MethodName) prog_3_method_2_code (1 : Nat) (Option.some Jvm.ClassFile.FieldType.boolean), Jvm.Cond.code ({ cls := "com/example/brevidns/brevidns/CborReaderAtEndPinLaw", name := "put", desc := "([BIZI)I" } : Jvm.MethodName) method_3_code (4 : Nat) (Option.some Jvm.ClassFile.FieldType.int), Jvm.Cond.code ({ cls := "com/example/brevidns/brevidns/CborReader", name := "readUnsigned", desc := "()J" } : Jvm.MethodName) prog_3_method_12_code (4 : Nat) (Option.some Jvm.ClassFile.FieldType.long), Jvm.Cond.code ({ cls := "com/example/brevidns/brevidns/CborReader", name := "readHead", desc := "(Lcom/example/brevidns/brevidns/CborReader$Kind;)J" } : Jvm.MethodName) prog_3_method_20_code (8 : Nat) (Option.some Jvm.ClassFile.FieldType.long), Jvm.Cond.code ({ cls := "com/example/brevidns/brevidns/CborReader", name := "peek", desc := "()Lcom/example/brevidns/brevidns/CborReader$Kind;" } : Jvm.MethodName) prog_3_method_4_code (4 : Nat) (Option.some (Jvm.ClassFile.FieldType.object "com/example/brevidns/brevidns/CborReader$Kind")), Jvm.Cond.code ({ cls := "com/example/brevidns/brevidns/CborReader", name := "checkInsideContainer", desc := "()V" } : Jvm.MethodName) prog_3_method_22_code (1 : Nat) (Option.none : Option Jvm.ClassFile.FieldType), Jvm.Cond.code ({ cls := "com/example/brevidns/brevidns/CborReader", name := "remaining", desc := "()I" } : Jvm.MethodName) prog_3_method_21_code (1 : Nat) (Option.some Jvm.ClassFile.FieldType.int)]
set_option maxRecDepth 65536 in
theorem codes_eq : words1.filter isCode = codes1 := rfl
theorem w_codes : ∀ c ∈ words1.filter isCode, c.before args0 about1 = true := by
  rw [codes_eq]
  intro c hc
  simp only [codes1, List.mem_cons, List.not_mem_nil, or_false] at hc
  rcases hc with rfl | rfl | rfl | rfl | rfl | rfl | rfl | rfl | rfl | rfl | rfl | rfl
  · exact w_c0
  · exact w_c1
  · exact w_c2
  · exact w_c3
  · exact w_c4
  · exact w_c5
  · exact w_c6
  · exact w_c7
  · exact w_c8
  · exact w_c9
  · exact w_c10
  · exact w_c11
set_option maxRecDepth 65536 in
theorem w_t1 : (words1.take 24).all (fun c => isCode c || c.before args0 about1) = true := by decide +kernel
set_option maxRecDepth 65536 in
theorem w_t2 : ((words1.drop 24).take 24).all (fun c => isCode c || c.before args0 about1) = true := by decide +kernel
set_option maxRecDepth 65536 in
theorem w_t3 : ((words1.drop 24).drop 24).all (fun c => isCode c || c.before args0 about1) = true := by decide +kernel
theorem w_tables : (allAtoms (Jvm.Cond.code x code maxLocals ret :: tables_1)).before args0 about1 = true := by
  rw [allAtoms_all]
  show words1.all (fun c => c.before args0 about1) = true
  refine all_split ?_ w_codes
  rw [← List.take_append_drop 24 words1, List.all_append, w_t1, ← List.take_append_drop 24 (words1.drop 24), List.all_append, w_t2, w_t3]
  rfl
set_option maxRecDepth 65536 in
theorem w_case : (Jvm.Cond.and given_1 narrow_1).before args0 about1 = true := by decide +kernel
theorem w_applies : (headSpec (Jvm.Cond.code x code maxLocals ret :: tables_1) room_1).applies x e0.platform about1 = true :=
  (Spec.applies_iff w_frames).mpr ⟨w_running, w_runnable, w_alone, w_named, w_hears, w_ripe, w_room, w_tables⟩
theorem atStart : AtStart classFile x code maxLocals ret World_1 tables_1 room_1 Calls_1 rest_1 Pre_1 launch0 p0 e0 about1 theMethod args0 below0 :=
  ⟨lists_1, trivial, launch0.admits_env _ _ _, launch0.least_env, fairChoices_fair.cas, fairChoices_fair.clock, w_frames, w_args, w_heap, w_applies, trivial, trivial, w_case⟩
end start1
theorem witness_1 : WitnessClaimed_1 := ⟨start1.p0, start1.e0, start1.about1, start1.theMethod, start1.args0, start1.below0, start1.atStart⟩
end Jvm.Pilot.@@N@@
