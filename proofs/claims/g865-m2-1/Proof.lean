import JvmDerived
import JvmDerived.Pilot.@@N@@Statement
import JvmDerived.Pilot.@@N@@Code
set_option linter.unusedVariables false
set_option linter.unusedSimpArgs false
namespace Jvm.Pilot.@@N@@
open Jvm Jvm.ClassFile Sem Op Lib Jvm.Free Jvm.Stand Jvm.LawKit Jvm.RoadKit Bundle Jvm.Pilot.@@N@@.Jvm.D
section Own
variable {p : Program} {l : Launch} {e : Env} {R : Room} {s : State} {m : MethodId} {args : Array Value} {below : List Frame} {meth : Method} {c : Code} {T : State} {locs : List Loc} {cells slots : Nat} {Z : State} {a0 : Array Value} {h : Heap}
/-- the goal of a walk is a predicate that may be carried back over steps -/
def Go (p : Program) (e : Env) (below : List Frame) (G : State → Prop) : Prop := ∀ F F' : State, (∀ t, Steps p.tables e below F' t → Steps p.tables e below F t) → G F' → G F
/-- how a walk ends: it returns v -/
def Rt (p : Program) (l : Launch) (e : Env) (R : Room) (s : State) (m : MethodId) (args : Array Value) (below : List Frame) (meth : Method) (c : Code) (Q : Option Value → Heap → List Loc → Prop) (kc ks : Nat) (G : State → Prop) : Prop :=
  ∀ (T : State) (locs : List Loc) (cells slots : Nat) (v : Option Value) (F : State), Stand p l e R s m args below meth c T locs cells slots → cells ≤ kc → slots ≤ ks → (meth.sig.returnType = none → v = none) → Q v T.heap locs →
    (∀ fs, (∀ (f : JFrame) (acts : List Action), f.method = m → f.locked = none → f.entered = [] → (doReturn e (T.setTop f) acts v).1 = T.setFrames fs) → Steps p.tables e below F (T.setFrames fs)) → G F
def Gl (p : Program) (e : Env) (below : List Frame) (s : State) (Q : Option Value → Heap → List Loc → Prop) (kc ks : Nat) (F : State) : Prop :=
  ∃ s₂ o, Steps p.tables e below F s₂ ∧ s₂.status = .running ∧ Ended s₂ below o ∧ ∃ v L, o = .returned v ∧ Q v s₂.heap L ∧ FrameEnd s o s₂ L kc ks
theorem gl_go {Q : Option Value → Heap → List Loc → Prop} {kc ks : Nat} : Go p e below (Gl p e below s Q kc ks) := fun F F' h g => by
  obtain ⟨s₂, o, h1, h2⟩ := g
  exact ⟨s₂, o, h _ h1, h2⟩
theorem gl_rt {Q : Option Value → Heap → List Loc → Prop} {kc ks : Nat} (hlk : meth.locks = false) : Rt p l e R s m args below meth c Q kc ks (Gl p e below s Q kc ks) := fun T locs cells slots v F X hc hs hv hQ st => by
  obtain ⟨fs, hr, hrun, hended, hW, hsame⟩ := X.leave (v := v) hv hlk
  exact ⟨_, _, st fs hr, hrun, hended, v, locs, rfl, hQ, ⟨_, rfl⟩, hW, hsame.mono hc hs⟩
/-- a method's contract, at given arguments and a given heap -/
def Con (l : Launch) (Z : State) (y : MethodName) (bytes : ByteArray) (maxL : Nat) (ret : Option FieldType) (rm : Room) (as' : Array Value) (h : Heap) (Q : Option Value → Heap → List Loc → Prop) : Prop :=
  ∀ ws, MetFree l y (head1 (Jvm.Cond.code y bytes maxL ret :: ws) rm) (fun a U => a = as' ∧ Z.Warmed39 U.vm ∧ U.heap = h) (fun _ _ _ _ _ => True) (fun _ U o U' => ∃ v L, o = .returned v ∧ Q v U'.heap L ∧ FrameEnd U o U' L rm.cells rm.slots)
theorem own_body {y : MethodName} {bytes : ByteArray} {maxL : Nat} {ret : Option FieldType} {rm : Room} {as' : Array Value} {h0 : Heap} {Q : Option Value → Heap → List Loc → Prop} (hp : plainName y.cls = true)
    (k : ∀ (p : Program) (e : Env) (s : State) (m : MethodId) (below : List Frame) (meth : Method) (c : Code) (s₁ : State), p.tables.exec = Jvm.exec → c.code = bytes → c.maxLocals = maxL → s.vm.findClass y.cls = some m.cls → meth.name = y.name → meth.sig.returnType = ret → Z.Warmed39 s.vm → s₁.heap = h0 →
      Stand p l e rm s m as' below meth c s₁ [] 0 0 → ∀ G : State → Prop, Go p e below G → Rt p l e rm s m as' below meth c Q rm.cells rm.slots G → G (s₁.setTop (entryFrame m as' maxL))) : Con l Z y bytes maxL ret rm as' h0 Q := fun ws => by
  refine MetFree.of_bodySF (plainFor_of_name hp) hisR ?_
  intro p e s m args below meth c s₁ Bd hml0 hP hK
  obtain ⟨rfl, hZ, hh⟩ := hP
  exact k p e s m below meth c s₁ Bd.exec Bd.bytes hml0 (findClass_of_methodNamed Bd.named) (name_of_methodNamed Bd.named Bd.method).1 Bd.returns hZ (by rw [← hh, Bd.state]; rfl) (Stand.of_body Bd) (Gl p e below s Q rm.cells rm.slots) gl_go (gl_rt Bd.notSynchronized)
section Rets
variable {Q : Option Value → Heap → List Loc → Prop} {kc ks : Nat} {G : State → Prop}
theorem own_retI (rt : Rt p l e R s m args below meth c Q kc ks G) (X : Stand p l e R s m args below meth c T locs cells slots) (hx : p.tables.exec = Jvm.exec) {pc : Nat} {Ls : Array Slot} {rest : List Value} (hret : meth.sig.returnType = some .int) {z : Int32} (hd : decode c.code pc = .ok (.ireturn, 1)) (hc : cells ≤ kc) (hs : slots ≤ ks) (hQ : Q (some (.int z)) T.heap locs) : G (T.setTop (mkF m pc Ls (.int z :: rest))) :=
  rt T locs cells slots _ _ X hc hs (fun h => by rw [hret] at h; cases h) hQ fun fs hr => retOut X hx hret rfl (Or.inl ⟨rfl, Or.inl rfl, _, rfl⟩) hd hr
theorem own_retZ (rt : Rt p l e R s m args below meth c Q kc ks G) (X : Stand p l e R s m args below meth c T locs cells slots) (hx : p.tables.exec = Jvm.exec) {pc : Nat} {Ls : Array Slot} {rest : List Value} {t : FieldType} (hret : meth.sig.returnType = some t) (ht : t = .boolean ∨ t = .byte ∨ t = .char ∨ t = .short) {z : Int32} (hd : decode c.code pc = .ok (.ireturn, 1)) (hc : cells ≤ kc) (hs : slots ≤ ks) (hQ : Q (some (.int (nar t z))) T.heap locs) : G (T.setTop (mkF m pc Ls (.int z :: rest))) :=
  rt T locs cells slots _ _ X hc hs (fun h => by rw [hret] at h; cases h) hQ fun fs hr => retN X hx hret ht hd hr
theorem own_retJ (rt : Rt p l e R s m args below meth c Q kc ks G) (X : Stand p l e R s m args below meth c T locs cells slots) (hx : p.tables.exec = Jvm.exec) {pc : Nat} {Ls : Array Slot} {rest : List Value} (hret : meth.sig.returnType = some .long) {z : Int64} (hd : decode c.code pc = .ok (.lreturn, 1)) (hc : cells ≤ kc) (hs : slots ≤ ks) (hQ : Q (some (.long z)) T.heap locs) : G (T.setTop (mkF m pc Ls (.long z :: rest))) :=
  rt T locs cells slots _ _ X hc hs (fun h => by rw [hret] at h; cases h) hQ fun fs hr => retOut X hx hret rfl (Or.inr (Or.inl ⟨rfl, rfl, _, rfl⟩)) hd hr
theorem own_retA (rt : Rt p l e R s m args below meth c Q kc ks G) (X : Stand p l e R s m args below meth c T locs cells slots) (hx : p.tables.exec = Jvm.exec) {pc : Nat} {Ls : Array Slot} {rest : List Value} {t : FieldType} (hret : meth.sig.returnType = some t) (ht : t.isReference = true) {v : Value} (hv : v.isRef = true) (hd : decode c.code pc = .ok (.areturn, 1)) (hc : cells ≤ kc) (hs : slots ≤ ks) (hQ : Q (some v) T.heap locs) : G (T.setTop (mkF m pc Ls (v :: rest))) :=
  rt T locs cells slots _ _ X hc hs (fun h => by rw [hret] at h; cases h) hQ fun fs hr => retOut X hx hret (by cases t <;> cases v <;> first | rfl | (simp [FieldType.isReference, Value.isRef] at ht hv)) (Or.inr (Or.inr (Or.inr (Or.inr ⟨rfl, ht, hv⟩)))) hd hr
theorem own_retV (rt : Rt p l e R s m args below meth c Q kc ks G) (X : Stand p l e R s m args below meth c T locs cells slots) (hx : p.tables.exec = Jvm.exec) {pc : Nat} {Ls : Array Slot} {rest : List Value} (hret : meth.sig.returnType = none) (hd : decode c.code pc = .ok (.return_, 1)) (hc : cells ≤ kc) (hs : slots ≤ ks) (hQ : Q none T.heap locs) : G (T.setTop (mkF m pc Ls [])) :=
  rt T locs cells slots _ _ X hc hs (fun _ => rfl) hQ fun fs hr => X.returnOut hx hret hd hr
end Rets
section Calls
variable {G : State → Prop}
theorem own_static (go : Go p e below G) (X : Stand p l e R s m args below meth c T locs cells slots) (hx : p.tables.exec = Jvm.exec) (hZ : Z.Warmed39 s.vm) (eT : T.heap = h) {own : String} {index : Nat} {y : MethodName} {bytes : ByteArray} {maxL : Nat} {ret : Option FieldType} {rm : Room} {as' : Array Value} {Q : Option Value → Heap → List Loc → Prop} (hown : s.vm.findClass own = some m.cls) (w1 : (Cond.methodLink own index y).before a0 Z = true) (w2 : (Cond.static y).before a0 Z = true) (w3 : (Cond.initialized y.cls).before a0 Z = true) (w4 : (Cond.code y bytes maxL ret).before a0 Z = true)
    (hy : y.cls ≠ "java/lang/invoke/MethodHandle" ∧ y.cls ≠ "java/lang/invoke/VarHandle") (hM : Con l Z y bytes maxL ret rm as' h Q) (W : Nat) (hf : rm.frames + 1 ≤ R.frames) (hl : W + (maxL + 11) + rm.locals ≤ R.locals) (hc : cells + rm.cells ≤ R.cells) (hs : slots + rm.slots ≤ R.slots)
    {g : JFrame} (hg : g.method = m) (hsize : g.locals.size = c.maxLocals) (argsL rest : List Value) (has : argsL.toArray = as') (hlen : ∀ sig, parseMethodDescriptor y.desc = some sig → argsL.length = sig.parameters.length)
    (hstack : g.stack = argsL.reverse ++ rest) (hW : 2 * g.monitorRoom + (rest.map fun v => v.category).sum ≤ W) (hd : decode c.code g.pc = .ok (.invokestatic index, 3))
    (k : ∀ (T' : State) (L' : List Loc) (v : Option Value), Stand p l e R s m args below meth c T' (locs ++ L') (cells + rm.cells) (slots + rm.slots) → Q v T'.heap L' → G (T'.setTop { g with pc := g.pc + 3, stack := v.toList ++ rest })) : G (T.setTop g) := by
  obtain ⟨v, _, ⟨T1, L1, k1, n1⟩, -, X1, ⟨Lc, hQ, l1, y1, z1⟩, st⟩ := Jvm.LawKit.callS X hx hown (mvT hZ w1) (mvT hZ w2) (mvT hZ w3) (mvT hZ w4) hy (backOf (R := R) (W := W) (hM []) hZ w4 w3 hf hl) hg hsize hlen hstack hW hd (fun _ _ => ⟨has, eT, hc, hs⟩)
  dsimp only [Pt.U, Pt.locs, Pt.cells, Pt.slots] at X1 l1 y1 z1 st hQ
  subst l1 y1 z1
  exact go _ _ st (k T1 Lc v X1 hQ)
theorem own_init (go : Go p e below G) (X : Stand p l e R s m args below meth c T locs cells slots) (hx : p.tables.exec = Jvm.exec) (hZ : Z.Warmed39 s.vm) (eT : T.heap = h) {own : String} {index : Nat} {y : MethodName} {bytes : ByteArray} {maxL : Nat} {ret : Option FieldType} {rm : Room} {as' : Array Value} {Q : Option Value → Heap → List Loc → Prop} (hy1 : y.name = "<init>") (hown : s.vm.findClass own = some m.cls) (w1 : (Cond.methodLink own index y).before a0 Z = true) (w2 : (Cond.instanceMethod y).before a0 Z = true) (w3 : (Cond.initialized y.cls).before a0 Z = true) (w4 : (Cond.code y bytes maxL none).before a0 Z = true)
    (hy : y.cls ≠ "java/lang/invoke/MethodHandle" ∧ y.cls ≠ "java/lang/invoke/VarHandle") (hM : Con l Z y bytes maxL none rm as' h Q) (W : Nat) (hf : rm.frames + 1 ≤ R.frames) (hl : W + (maxL + 11) + rm.locals ≤ R.locals) (hc : cells + rm.cells ≤ R.cells) (hs : slots + rm.slots ≤ R.slots)
    {g : JFrame} (hg : g.method = m) (hsize : g.locals.size = c.maxLocals) (a : Addr) (argsL rest : List Value) (has : (.ref a :: argsL).toArray = as') (hlen : ∀ sig, parseMethodDescriptor y.desc = some sig → argsL.length = sig.parameters.length)
    (hstack : g.stack = argsL.reverse ++ .ref a :: rest) (hW : 2 * g.monitorRoom + (rest.map fun v => v.category).sum ≤ W) (hd : decode c.code g.pc = .ok (.invokespecial index, 3))
    (k : ∀ (T' : State) (L' : List Loc) (v : Option Value), Stand p l e R s m args below meth c T' (locs ++ L') (cells + rm.cells) (slots + rm.slots) → Q v T'.heap L' → G (T'.setTop { g with pc := g.pc + 3, stack := v.toList ++ rest })) : G (T.setTop g) := by
  obtain ⟨v, _, ⟨T1, L1, k1, n1⟩, -, X1, ⟨Lc, hQ, l1, y1, z1⟩, st⟩ := X.specialBack hx hy1 hown (mvT hZ w1) (mvT hZ w2) (mvT hZ w4) hy (backOf (R := R) (W := W) (hM []) hZ w4 w3 hf hl) hg hsize (Steps.refl _) (a := a) hlen hstack hW hd (fun _ _ => ⟨has, eT, hc, hs⟩)
  dsimp only [Pt.U, Pt.locs, Pt.cells, Pt.slots] at X1 l1 y1 z1 st hQ
  subst l1 y1 z1
  exact go _ _ (fun t k => st.trans k) (k T1 Lc v X1 hQ)
theorem own_virtual (go : Go p e below G) (X : Stand p l e R s m args below meth c T locs cells slots) (hx : p.tables.exec = Jvm.exec) (hZ : Z.Warmed39 s.vm) (eT : T.heap = h) {own : String} {index : Nat} {y : MethodName} {bytes : ByteArray} {maxL : Nat} {ret : Option FieldType} {rm : Room} {as' : Array Value} {Q : Option Value → Heap → List Loc → Prop} {C : String} {z : MethodName} (hown : s.vm.findClass own = some m.cls) (w1 : (Cond.methodLink own index y).before a0 Z = true) (w2 : (Cond.declares y).before a0 Z = true) (hnf : NotFace s y) (w3 : (Cond.selects C y z).before a0 Z = true) (w4 : (Cond.instanceMethod z).before a0 Z = true) (w5 : (Cond.initialized z.cls).before a0 Z = true) (w6 : (Cond.code z bytes maxL ret).before a0 Z = true)
    (hy : y.cls ≠ "java/lang/invoke/MethodHandle" ∧ y.cls ≠ "java/lang/invoke/VarHandle") (hM : Con l Z z bytes maxL ret rm as' h Q) (W : Nat) (hf : rm.frames + 1 ≤ R.frames) (hl : W + (maxL + 11) + rm.locals ≤ R.locals) (hc : cells + rm.cells ≤ R.cells) (hs : slots + rm.slots ≤ R.slots)
    {a : Addr} (E : Exa Z h a C) {g : JFrame} (hg : g.method = m) (hsize : g.locals.size = c.maxLocals) (argsL rest : List Value) (has : (.ref a :: argsL).toArray = as') (hlen : ∀ sig, parseMethodDescriptor y.desc = some sig → argsL.length = sig.parameters.length)
    (hstack : g.stack = argsL.reverse ++ .ref a :: rest) (hW : 2 * g.monitorRoom + (rest.map fun v => v.category).sum ≤ W) (hd : decode c.code g.pc = .ok (.invokevirtual index, 3))
    (k : ∀ (T' : State) (L' : List Loc) (v : Option Value), Stand p l e R s m args below meth c T' (locs ++ L') (cells + rm.cells) (slots + rm.slots) → Q v T'.heap L' → G (T'.setTop { g with pc := g.pc + 3, stack := v.toList ++ rest })) : G (T.setTop g) := by
  obtain ⟨cq, kq, qa, qb, qc⟩ := isOf hZ eT E
  obtain ⟨v, _, ⟨T1, L1, k1, n1⟩, -, X1, ⟨Lc, hQ, l1, y1, z1⟩, st⟩ := X.virtualBack hx hown (mvT hZ w1) (mvT hZ w2) hnf (mvT hZ w3) (mvT hZ w4) hy (backOf (R := R) (W := W) (hM []) hZ w6 w5 hf hl) qa qc hg hsize (Steps.refl _) hlen hstack hW hd (fun _ _ => ⟨has, eT, hc, hs⟩)
  dsimp only [Pt.U, Pt.locs, Pt.cells, Pt.slots] at X1 l1 y1 z1 st hQ
  subst l1 y1 z1
  exact go _ _ (fun t k => st.trans k) (k T1 Lc v X1 hQ)
theorem own_private (go : Go p e below G) (X : Stand p l e R s m args below meth c T locs cells slots) (hx : p.tables.exec = Jvm.exec) (hZ : Z.Warmed39 s.vm) (eT : T.heap = h) {own : String} {index : Nat} {y : MethodName} {bytes : ByteArray} {maxL : Nat} {ret : Option FieldType} {rm : Room} {as' : Array Value} {Q : Option Value → Heap → List Loc → Prop} (hown : s.vm.findClass own = some m.cls) (w1 : (Cond.methodLink own index y).before a0 Z = true) (w2 : (Cond.instanceMethod y).before a0 Z = true) (w3 : (Cond.selects y.cls y y).before a0 Z = true) (w4 : (Cond.privateMethod y).before a0 Z = true) (w5 : (Cond.initialized y.cls).before a0 Z = true) (w6 : (Cond.code y bytes maxL ret).before a0 Z = true)
    (hy : y.cls ≠ "java/lang/invoke/MethodHandle" ∧ y.cls ≠ "java/lang/invoke/VarHandle") (hM : Con l Z y bytes maxL ret rm as' h Q) (W : Nat) (hf : rm.frames + 1 ≤ R.frames) (hl : W + (maxL + 11) + rm.locals ≤ R.locals) (hc : cells + rm.cells ≤ R.cells) (hs : slots + rm.slots ≤ R.slots)
    {a : Addr} {C : String} (E : Exa Z h a C) {g : JFrame} (hg : g.method = m) (hsize : g.locals.size = c.maxLocals) (argsL rest : List Value) (has : (.ref a :: argsL).toArray = as') (hlen : ∀ sig, parseMethodDescriptor y.desc = some sig → argsL.length = sig.parameters.length)
    (hstack : g.stack = argsL.reverse ++ .ref a :: rest) (hW : 2 * g.monitorRoom + (rest.map fun v => v.category).sum ≤ W) (hd : decode c.code g.pc = .ok (.invokevirtual index, 3))
    (k : ∀ (T' : State) (L' : List Loc) (v : Option Value), Stand p l e R s m args below meth c T' (locs ++ L') (cells + rm.cells) (slots + rm.slots) → Q v T'.heap L' → G (T'.setTop { g with pc := g.pc + 3, stack := v.toList ++ rest })) : G (T.setTop g) := by
  obtain ⟨cq, q1, q2⟩ := E.cell
  obtain ⟨v, _, ⟨T1, L1, k1, n1⟩, -, X1, ⟨Lc, hQ, l1, y1, z1⟩, st⟩ := X.privateBack hx hown (mvT hZ w1) (mvT hZ w2) (mvT hZ w3) (Cond.privateMethod_at (mvP hZ w4 (args := #[]))) (mvT hZ w6) hy (backOf (R := R) (W := W) (hM []) hZ w6 w5 hf hl) hg hsize (Steps.refl _) (a := a) (by rw [eT]; exact q1) q2 hlen hstack hW hd (fun _ _ => ⟨has, eT, hc, hs⟩)
  dsimp only [Pt.U, Pt.locs, Pt.cells, Pt.slots] at X1 l1 y1 z1 st hQ
  subst l1 y1 z1
  exact go _ _ (fun t k => st.trans k) (k T1 Lc v X1 hQ)
end Calls
end Own
section OwnArr
variable {p : Program} {l : Launch} {e : Env} {R : Room} {s : State} {m : MethodId} {args : Array Value} {below : List Frame} {meth : Method} {c : Code} {T : State} {locs : List Loc} {cells slots : Nat} {Z : State} {a0 : Array Value} {h h' : Heap} {a b : Addr} {ty : FieldType} {n sl : Nat} {f : Nat → Value} {v w : Value} {ws : List Addr}
/-- an array: its kind, its length, what lies in it -/
def Ary (Z : State) (h : Heap) (a : Addr) (ty : FieldType) (n : Nat) (f : Nat → Value) : Prop := ∃ c : Cell, Arr Z h a c ty ∧ c.slots.size = n ∧ n < 2147483648 ∧ (∀ i, i < n → c.slots[i]? = some (f i)) ∧ ∀ i, i < n → fits ty (f i) = true
theorem Ary.lt (F : Ary Z h a ty n f) : a < h.size := by obtain ⟨c, A, -⟩ := F; exact A.lt
theorem Ary.ext (F : Ary Z h a ty n f) (E : Ext h h') : Ary Z h' a ty n f := by obtain ⟨c, A, r⟩ := F; exact ⟨c, A.ext E, r⟩
theorem Ary.other (F : Ary Z h b ty n f) (W : Wr h h' a sl v) (q : b ≠ a) : Ary Z h' b ty n f := by obtain ⟨c, A, r⟩ := F; exact ⟨c, A.other W q, r⟩
theorem Ary.keep (F : Ary Z h a ty n f) (K : Keep h h' ws) (q : a ∉ ws) : Ary Z h' a ty n f := by obtain ⟨c, A, r⟩ := F; exact ⟨c, ⟨K.2.1 a c A.1 q, A.2⟩, r⟩
theorem Ary.cong {g : Nat → Value} (F : Ary Z h a ty n f) (q : ∀ i, i < n → f i = g i) : Ary Z h a ty n g := by
  obtain ⟨c, A, r1, r2, r3, r4⟩ := F
  exact ⟨c, A, r1, r2, fun i hi => by rw [← q i hi]; exact r3 i hi, fun i hi => by rw [← q i hi]; exact r4 i hi⟩
theorem Ary.same (W : Wr h h' a sl v) (F : Ary Z h a ty n f) (hv : fits ty v = true) : Ary Z h' a ty n (fun q => if q = sl then v else f q) := by
  obtain ⟨c, A, r1, r2, r3, r4⟩ := F
  refine ⟨_, A.same W, (sz_set _ _ _).trans r1, r2, fun i hi => ?_, fun i hi => ?_⟩
  · show (c.slots.setIfInBounds sl v)[i]? = _
    by_cases q : i = sl
    · subst q; simp [r1, hi]
    · rw [Array.getElem?_setIfInBounds_ne (fun z => q z.symm), r3 i hi]; simp [q]
  · show fits ty (if i = sl then v else f i) = true
    by_cases q : i = sl
    · simp [q, hv]
    · simp [q, r4 i hi]
theorem Ary.new {cA : ClassId} {z : Int32} (A : Arr Z h a (newA cA ty z) ty) (q : ¬ z < 0) : Ary Z h a ty z.toNatClampNeg (fun _ => defaultValue ty) :=
  ⟨_, A, sz_new _ _ _, (back32 q).2, fun i hi => by simp [newA, hi], fun i _ => by cases ty <;> rfl⟩
theorem ix_of {j : Int32} {i : Nat} (hi : j.toInt = i) : j.toNatClampNeg = i := by simp [Int32.toNatClampNeg, hi]
theorem ix_in {j : Int32} {i k : Nat} (hi : j.toInt = i) (hk : i < k) : ¬ (j < 0 ∨ k ≤ j.toNatClampNeg) := by
  rw [ix_of hi]
  intro q
  rcases q with q | q
  · rw [Int32.lt_iff_toInt_lt, hi] at q
    have : (0 : Int32).toInt = 0 := rfl
    omega
  · omega
section St
variable {G : State → Prop}
theorem own_iastore (go : Go p e below G) (X : Stand p l e R s m args below meth c T locs cells slots) (hx : p.tables.exec = Jvm.exec) (hZ : Z.Warmed39 s.vm) (eT : T.heap = h) {j x : Int32} (i : Nat) (hi : j.toInt = i) (hlt : i < n) {g : JFrame} (hg : g.method = m) {rest : List Value} (F : Ary Z h a .int n f) (hs : g.stack = .int x :: .int j :: .ref a :: rest) (hd : decode c.code g.pc = .ok (.iastore, 1))
    (k : ∀ (T' : State) (h' : Heap), Stand p l e R s m args below meth c T' (locs ++ [⟨a, i⟩]) cells slots → T'.heap = h' → Wr h h' a i (.int x) → Ary Z h' a .int n (fun q => if q = i then .int x else f q) → G (T'.setTop { g with pc := g.pc + 1, stack := rest })) : G (T.setTop g) := by
  obtain ⟨cl, A, r1, r2, r3, r4⟩ := F
  have hj : ¬ (j < 0 ∨ cl.slots.size ≤ j.toNatClampNeg) := by rw [r1]; exact ix_in hi hlt
  obtain ⟨T1, h1, X1, e1, W1, st⟩ := stI X hx hZ eT A hj hg hs hd
  rw [ix_of hi] at X1 W1
  exact go _ _ st (k T1 h1 X1 e1 W1 (Ary.same W1 ⟨cl, A, r1, r2, r3, r4⟩ rfl))
theorem own_bastore (go : Go p e below G) (X : Stand p l e R s m args below meth c T locs cells slots) (hx : p.tables.exec = Jvm.exec) (hZ : Z.Warmed39 s.vm) (eT : T.heap = h) {j x : Int32} (i : Nat) (hi : j.toInt = i) (hlt : i < n) {g : JFrame} (hg : g.method = m) {rest : List Value} (F : Ary Z h a .byte n f) (hs : g.stack = .int x :: .int j :: .ref a :: rest) (hd : decode c.code g.pc = .ok (.bastore, 1))
    (k : ∀ (T' : State) (h' : Heap), Stand p l e R s m args below meth c T' (locs ++ [⟨a, i⟩]) cells slots → T'.heap = h' → Wr h h' a i (.int (nar .byte x)) → Ary Z h' a .byte n (fun q => if q = i then .int (nar .byte x) else f q) → G (T'.setTop { g with pc := g.pc + 1, stack := rest })) : G (T.setTop g) := by
  obtain ⟨cl, A, r1, r2, r3, r4⟩ := F
  have hj : ¬ (j < 0 ∨ cl.slots.size ≤ j.toNatClampNeg) := by rw [r1]; exact ix_in hi hlt
  obtain ⟨T1, h1, X1, e1, W1, st⟩ := stB X hx hZ eT A hj hg hs hd
  rw [ix_of hi] at X1 W1
  exact go _ _ st (k T1 h1 X1 e1 W1 (Ary.same W1 ⟨cl, A, r1, r2, r3, r4⟩ (fits_nar_byte _)))
theorem own_zastore (go : Go p e below G) (X : Stand p l e R s m args below meth c T locs cells slots) (hx : p.tables.exec = Jvm.exec) (hZ : Z.Warmed39 s.vm) (eT : T.heap = h) {j x : Int32} (i : Nat) (hi : j.toInt = i) (hlt : i < n) {g : JFrame} (hg : g.method = m) {rest : List Value} (F : Ary Z h a .boolean n f) (hs : g.stack = .int x :: .int j :: .ref a :: rest) (hd : decode c.code g.pc = .ok (.bastore, 1))
    (k : ∀ (T' : State) (h' : Heap), Stand p l e R s m args below meth c T' (locs ++ [⟨a, i⟩]) cells slots → T'.heap = h' → Wr h h' a i (.int (nar .boolean x)) → Ary Z h' a .boolean n (fun q => if q = i then .int (nar .boolean x) else f q) → G (T'.setTop { g with pc := g.pc + 1, stack := rest })) : G (T.setTop g) := by
  obtain ⟨cl, A, r1, r2, r3, r4⟩ := F
  have hj : ¬ (j < 0 ∨ cl.slots.size ≤ j.toNatClampNeg) := by rw [r1]; exact ix_in hi hlt
  obtain ⟨T1, h1, X1, e1, W1, st⟩ := stZ X hx hZ eT A hj hg hs hd
  rw [ix_of hi] at X1 W1
  exact go _ _ st (k T1 h1 X1 e1 W1 (Ary.same W1 ⟨cl, A, r1, r2, r3, r4⟩ (fits_nar_bool _)))
theorem own_iaload (go : Go p e below G) (X : Stand p l e R s m args below meth c T locs cells slots) (hx : p.tables.exec = Jvm.exec) (hZ : Z.Warmed39 s.vm) (eT : T.heap = h) {j : Int32} (i : Nat) (hi : j.toInt = i) (hlt : i < n) {g : JFrame} (hg : g.method = m) {rest : List Value} (F : Ary Z h a .int n f) (hs : g.stack = .int j :: .ref a :: rest) (hd : decode c.code g.pc = .ok (.iaload, 1)) (k : G (T.setTop { g with pc := g.pc + 1, stack := f i :: rest })) : G (T.setTop g) := by
  obtain ⟨cl, A, r1, r2, r3, r4⟩ := F
  have hj : ¬ (j < 0 ∨ cl.slots.size ≤ j.toNatClampNeg) := by rw [r1]; exact ix_in hi hlt
  exact go _ _ (fun t => X.iaload hx (by rw [eT]; exact A.1) (State.isArrayOf_alike hZ.alike A.2.1) A.2.2 hj (by rw [ix_of hi]; exact r3 i hlt) hg hs hd t) k
theorem own_baload (go : Go p e below G) (X : Stand p l e R s m args below meth c T locs cells slots) (hx : p.tables.exec = Jvm.exec) (hZ : Z.Warmed39 s.vm) (eT : T.heap = h) {j : Int32} (i : Nat) (hi : j.toInt = i) (hlt : i < n) {g : JFrame} (hg : g.method = m) {rest : List Value} (F : Ary Z h a .byte n f) (hs : g.stack = .int j :: .ref a :: rest) (hd : decode c.code g.pc = .ok (.baload, 1)) (k : G (T.setTop { g with pc := g.pc + 1, stack := f i :: rest })) : G (T.setTop g) := by
  obtain ⟨cl, A, r1, r2, r3, r4⟩ := F
  have hj : ¬ (j < 0 ∨ cl.slots.size ≤ j.toNatClampNeg) := by rw [r1]; exact ix_in hi hlt
  exact go _ _ (fun t => X.baloadBytes hx (by rw [eT]; exact A.1) (State.isArrayOf_alike hZ.alike A.2.1) A.2.2 hj (by rw [ix_of hi]; exact r3 i hlt) hg hs hd t) k
theorem own_zaload (go : Go p e below G) (X : Stand p l e R s m args below meth c T locs cells slots) (hx : p.tables.exec = Jvm.exec) (hZ : Z.Warmed39 s.vm) (eT : T.heap = h) {j : Int32} (i : Nat) (hi : j.toInt = i) (hlt : i < n) {g : JFrame} (hg : g.method = m) {rest : List Value} (F : Ary Z h a .boolean n f) (hs : g.stack = .int j :: .ref a :: rest) (hd : decode c.code g.pc = .ok (.baload, 1)) (k : G (T.setTop { g with pc := g.pc + 1, stack := f i :: rest })) : G (T.setTop g) := by
  obtain ⟨cl, A, r1, r2, r3, r4⟩ := F
  have hj : ¬ (j < 0 ∨ cl.slots.size ≤ j.toNatClampNeg) := by rw [r1]; exact ix_in hi hlt
  exact go _ _ (fun t => X.baloadBooleans hx (by rw [eT]; exact A.1) (State.isArrayOf_alike hZ.alike A.2.1) A.2.2 hj (by rw [ix_of hi]; exact r3 i hlt) hg hs hd t) k
theorem own_arrlen (go : Go p e below G) (X : Stand p l e R s m args below meth c T locs cells slots) (hx : p.tables.exec = Jvm.exec) (hZ : Z.Warmed39 s.vm) (eT : T.heap = h) {g : JFrame} (hg : g.method = m) {rest : List Value} (F : Ary Z h a ty n f) (hs : g.stack = .ref a :: rest) (hd : decode c.code g.pc = .ok (.arraylength, 1)) (k : G (T.setTop { g with pc := g.pc + 1, stack := .int n.toInt32 :: rest })) : G (T.setTop g) := by
  obtain ⟨cl, A, r1, r2, r3, r4⟩ := F
  subst r1
  exact go _ _ (fun t => X.arraylength hx (by rw [eT]; exact A.1) (State.isArrayOf_alike hZ.alike A.2.1) hg hs hd t) k
theorem own_newarr (go : Go p e below G) (X : Stand p l e R s m args below meth c T locs cells slots) (hx : p.tables.exec = Jvm.exec) (hZ : Z.Warmed39 s.vm) (eT : T.heap = h) {g : JFrame} (hg : g.method = m) {rest : List Value} {aty : ArrayType} (w : (Cond.arrayClass (newarray.typeOf aty)).before a0 Z = true) {z : Int32} (nn : Nat) (hz : z.toInt = nn) (hd : decode c.code g.pc = .ok (.newarray aty, 2)) (hs : g.stack = .int z :: rest)
    (cap : Nat) (hcap : nn ≤ cap) (hb : cap * 8 ≤ 536870912) (hc : cells + 1 ≤ R.cells) (hl : slots + cap ≤ R.slots)
    (k : ∀ (T' : State) (h' : Heap) (a : Addr), Stand p l e R s m args below meth c T' locs (cells + 1) (slots + cap) → T'.heap = h' → Ext h h' → a = h.size → Ary Z h' a (newarray.typeOf aty) nn (fun _ => defaultValue (newarray.typeOf aty)) → G (T'.setTop { g with pc := g.pc + 2, stack := .ref a :: rest })) : G (T.setTop g) := by
  have q : ¬ z < 0 := by
    rw [Int32.lt_iff_toInt_lt, hz]
    have : (0 : Int32).toInt = 0 := rfl
    omega
  obtain ⟨T1, h1, cA, X1, e1, E1, A1, st⟩ := newP X hx hZ w eT hg hd hs q (cap := cap) (by rw [ix_of hz]; exact hcap) hb hc hl
  have F := Ary.new A1 q
  rw [ix_of hz] at F
  exact go _ _ st (k T1 h1 _ X1 e1 E1 rfl F)
end St
end OwnArr
section OwnTab
variable {args : Array Value} {s : State} {C n d : String} {a : Addr} {c : Cell}
theorem own_len {t : Term} {k : Int32} (ev : t.eval args s none [] s = some (.ref a)) (hat : s.arrayAt? a = some c) (hq : (Jvm.Cond.eq (.length t) (.int k)).value args s none s [] = some true) : (c.slots.size : Int) = k.toInt ∧ c.slots.size < 2 ^ 31 := by
  obtain ⟨x, y, ex, ey, -, -⟩ := cmp_v (Or.inl hq)
  by_cases hl : c.slots.size < 2 ^ 31
  · have q := gotT (Cond.eq_ints (len_f ev hat hl) (Term.int_eval k)) hq
    rw [← q, len_toInt hl]
    exact ⟨rfl, hl⟩
  · simp [Term.eval, ev, hat, hl] at ex
theorem own_stat_idx {i : Nat} {v : Value} (ev : (Term.static C n d).eval args s none [] s = some v) : (Term.static C n d).eval args s none [i] s = some v := ev
theorem own_idx_eval (i : Nat) : (Term.index 0).eval args s none [i] s = some (.int i.toInt32) := Term.index_eval _
theorem own_elem_at {i : Nat} {x : Int32} (ev : (Term.static C n d).eval args s none [] s = some (.ref a)) (hat : s.arrayAt? a = some c) (hl : c.slots.size < 2 ^ 31) (hi : i < c.slots.size) (hv : c.slots[i]? = some (.int x)) : (Term.elem (.static C n d) (.index 0)).eval args s none [i] s = some (.int x) := by
  have e := len_toInt (n := i) (by omega)
  have e2 : i.toInt32.toNatClampNeg = i := ix_of e
  have hn : ¬ i.toInt32 < 0 := by
    rw [Int32.lt_iff_toInt_lt, e]
    have : (0 : Int32).toInt = 0 := rfl
    omega
  rw [elem_f (own_stat_idx ev) (own_idx_eval i) hat hn, e2, hv]
theorem own_elem_k {k x : Int32} {i : Nat} (hk : k.toInt = i) (ev : (Term.static C n d).eval args s none [] s = some (.ref a)) (hat : s.arrayAt? a = some c) (hv : c.slots[i]? = some (.int x)) {v : Int32} (hq : (Jvm.Cond.eq (Term.elem (.static C n d) (.int k)) (.int v)).value args s none s [] = some true) : x = v := by
  have hn : ¬ k < 0 := by
    rw [Int32.lt_iff_toInt_lt, hk]
    have : (0 : Int32).toInt = 0 := rfl
    omega
  have e : (Term.elem (.static C n d) (.int k)).eval args s none [] s = some (.int x) := by rw [elem_f ev (Term.int_eval k) hat hn, ix_of hk, hv]
  exact gotT (Cond.eq_ints e (Term.int_eval v)) hq
section All
theorem own_all3 (ev : (Term.static C n d).eval args s none [] s = some (.ref a)) (hat : s.arrayAt? a = some c) (hl : c.slots.size < 2 ^ 31) {i : Nat} {x : Int32} (hi : i < c.slots.size) (hv : c.slots[i]? = some (.int x)) {v k1 k2 : Int32} (h : (Jvm.Cond.all (.static C n d) (.or (.lt (.index 0) (.int k1)) (.or (.le (.int k2) (.index 0)) (.eq (.elem (.static C n d) (.index 0)) (.int v))))).value args s none s [] = some true) : (i : Int) < k1.toInt ∨ k2.toInt ≤ i ∨ x = v := by
  have q := Cond.all_elim ev hat h i hi
  have e := len_toInt (n := i) (by omega)
  rcases or3 q (Cond.lt_ints (own_idx_eval i) (Term.int_eval k1)) (Cond.le_ints (Term.int_eval k2) (own_idx_eval i)) (Cond.eq_ints (own_elem_at ev hat hl hi hv) (Term.int_eval v)) with r | r | r
  · rw [Int32.lt_iff_toInt_lt, e] at r; exact Or.inl r
  · rw [Int32.lt_iff_toInt_lt, e] at r; exact Or.inr (Or.inl (by omega))
  · exact Or.inr (Or.inr r)
theorem own_all_le (ev : (Term.static C n d).eval args s none [] s = some (.ref a)) (hat : s.arrayAt? a = some c) (hl : c.slots.size < 2 ^ 31) {i : Nat} {x : Int32} (hi : i < c.slots.size) (hv : c.slots[i]? = some (.int x)) {v k2 : Int32} (h : (Jvm.Cond.all (.static C n d) (.or (.le (.int k2) (.index 0)) (.eq (.elem (.static C n d) (.index 0)) (.int v)))).value args s none s [] = some true) : k2.toInt ≤ i ∨ x = v := by
  have q := Cond.all_elim ev hat h i hi
  have e := len_toInt (n := i) (by omega)
  rcases or_e2 (Cond.le_ints (Term.int_eval k2) (own_idx_eval i)) (Cond.eq_ints (own_elem_at ev hat hl hi hv) (Term.int_eval v)) q with r | r
  · rw [Int32.le_iff_toInt_le, e] at r; exact Or.inl r
  · exact Or.inr r
theorem own_all_lt (ev : (Term.static C n d).eval args s none [] s = some (.ref a)) (hat : s.arrayAt? a = some c) (hl : c.slots.size < 2 ^ 31) {i : Nat} {x : Int32} (hi : i < c.slots.size) (hv : c.slots[i]? = some (.int x)) {v k1 : Int32} (h : (Jvm.Cond.all (.static C n d) (.or (.lt (.index 0) (.int k1)) (.eq (.elem (.static C n d) (.index 0)) (.int v)))).value args s none s [] = some true) : (i : Int) < k1.toInt ∨ x = v := by
  have q := Cond.all_elim ev hat h i hi
  have e := len_toInt (n := i) (by omega)
  rcases or_e2 (Cond.lt_ints (own_idx_eval i) (Term.int_eval k1)) (Cond.eq_ints (own_elem_at ev hat hl hi hv) (Term.int_eval v)) q with r | r
  · rw [Int32.lt_iff_toInt_lt, e] at r; exact Or.inl r
  · exact Or.inr r
end All
end OwnTab
def wpP (q : Int) : Prop := q = 45 ∨ (48 ≤ q ∧ q < 58) ∨ (65 ≤ q ∧ q < 91) ∨ (97 ≤ q ∧ q < 123)
instance (q : Int) : Decidable (wpP q) := by unfold wpP; infer_instance
def wp (q : Nat) : Int32 := if wpP q then 1 else 0
theorem own_exp (u : Int32) : (¬ u < 97 ∧ ¬ 122 < u) ∨ (¬ u < 65 ∧ ¬ 90 < u) ∨ (¬ u < 48 ∧ ¬ 57 < u) ∨ u = 45 ↔ wpP u.toInt := by
  have e1 : (97 : Int32).toInt = 97 := rfl
  have e2 : (122 : Int32).toInt = 122 := rfl
  have e3 : (65 : Int32).toInt = 65 := rfl
  have e4 : (90 : Int32).toInt = 90 := rfl
  have e5 : (48 : Int32).toInt = 48 := rfl
  have e6 : (57 : Int32).toInt = 57 := rfl
  have e7 : (45 : Int32).toInt = 45 := rfl
  simp only [Int32.lt_iff_toInt_lt, ← Int32.toInt_inj, wpP, e1, e2, e3, e4, e5, e6, e7]
  omega

theorem own_fin_t {P : Prop} [Decidable P] (h : P) : some (Value.int (nar .boolean 1)) = some (Value.int (if P then 1 else 0)) := by rw [if_pos h]; rfl
theorem own_fin_f {P : Prop} [Decidable P] (h : ¬ P) : some (Value.int (nar .boolean 0)) = some (Value.int (if P then 1 else 0)) := by rw [if_neg h]; rfl
theorem own_ix {u : Int32} (h1 : ¬ u < 0) (h2 : u < 128) : ∃ i : Nat, u.toInt = i ∧ i < 128 := by
  rw [Int32.lt_iff_toInt_lt] at h1 h2
  have e1 : (128 : Int32).toInt = 128 := rfl
  have e0 : (0 : Int32).toInt = 0 := rfl
  exact ⟨u.toInt.toNat, by omega, by omega⟩
theorem own_wp_out {u : Int32} (h : u < 0 ∨ ¬ u < 128) : ¬ wpP u.toInt := by
  simp only [Int32.lt_iff_toInt_lt] at h
  have e1 : (128 : Int32).toInt = 128 := rfl
  have e0 : (0 : Int32).toInt = 0 := rfl
  unfold wpP
  omega
theorem own_wp_int {u : Int32} {i : Nat} (h : u.toInt = i) (q : ¬ wp i = 0) : wpP u.toInt := by
  rw [h]; unfold wp at q
  by_cases z : wpP i
  · exact z
  · rw [if_neg z] at q; exact absurd rfl q
theorem own_wp_inf {u : Int32} {i : Nat} (h : u.toInt = i) (q : wp i = 0) : ¬ wpP u.toInt := by
  rw [h]; unfold wp at q
  intro z
  rw [if_pos z] at q; exact absurd q (by decide)
theorem d1_0 : decode prog_25_method_44_code 0 = .ok (.iload_n 0, 1) := by decide +kernel
theorem d1_1 : decode prog_25_method_44_code 1 = .ok (.ifCond .lt 23, 3) := by decide +kernel
theorem d1_4 : decode prog_25_method_44_code 4 = .ok (.iload_n 0, 1) := by decide +kernel
theorem d1_5 : decode prog_25_method_44_code 5 = .ok (.getstatic 341, 3) := by decide +kernel
theorem d1_8 : decode prog_25_method_44_code 8 = .ok (.arraylength, 1) := by decide +kernel
theorem d1_9 : decode prog_25_method_44_code 9 = .ok (.if_icmp .ge 15, 3) := by decide +kernel
theorem d1_12 : decode prog_25_method_44_code 12 = .ok (.getstatic 341, 3) := by decide +kernel
theorem d1_15 : decode prog_25_method_44_code 15 = .ok (.iload_n 0, 1) := by decide +kernel
theorem d1_16 : decode prog_25_method_44_code 16 = .ok (.baload, 1) := by decide +kernel
theorem d1_17 : decode prog_25_method_44_code 17 = .ok (.ifCond .eq 7, 3) := by decide +kernel
theorem d1_20 : decode prog_25_method_44_code 20 = .ok (.iconst 1, 1) := by decide +kernel
theorem d1_21 : decode prog_25_method_44_code 21 = .ok (.goto 4, 3) := by decide +kernel
theorem d1_24 : decode prog_25_method_44_code 24 = .ok (.iconst 0, 1) := by decide +kernel
theorem d1_25 : decode prog_25_method_44_code 25 = .ok (.ireturn, 1) := by decide +kernel
theorem d2_0 : decode method_3_code 0 = .ok (.iload_n 0, 1) := by decide +kernel
theorem d2_1 : decode method_3_code 1 = .ok (.bipush 97, 2) := by decide +kernel
theorem d2_3 : decode method_3_code 3 = .ok (.if_icmp .lt 11, 3) := by decide +kernel
theorem d2_6 : decode method_3_code 6 = .ok (.iload_n 0, 1) := by decide +kernel
theorem d2_7 : decode method_3_code 7 = .ok (.bipush 122, 2) := by decide +kernel
theorem d2_9 : decode method_3_code 9 = .ok (.if_icmp .gt 5, 3) := by decide +kernel
theorem d2_12 : decode method_3_code 12 = .ok (.iconst 1, 1) := by decide +kernel
theorem d2_13 : decode method_3_code 13 = .ok (.ireturn, 1) := by decide +kernel
theorem d2_14 : decode method_3_code 14 = .ok (.iload_n 0, 1) := by decide +kernel
theorem d2_15 : decode method_3_code 15 = .ok (.bipush 65, 2) := by decide +kernel
theorem d2_17 : decode method_3_code 17 = .ok (.if_icmp .lt 11, 3) := by decide +kernel
theorem d2_20 : decode method_3_code 20 = .ok (.iload_n 0, 1) := by decide +kernel
theorem d2_21 : decode method_3_code 21 = .ok (.bipush 90, 2) := by decide +kernel
theorem d2_23 : decode method_3_code 23 = .ok (.if_icmp .gt 5, 3) := by decide +kernel
theorem d2_26 : decode method_3_code 26 = .ok (.iconst 1, 1) := by decide +kernel
theorem d2_27 : decode method_3_code 27 = .ok (.ireturn, 1) := by decide +kernel
theorem d2_28 : decode method_3_code 28 = .ok (.iload_n 0, 1) := by decide +kernel
theorem d2_29 : decode method_3_code 29 = .ok (.bipush 48, 2) := by decide +kernel
theorem d2_31 : decode method_3_code 31 = .ok (.if_icmp .lt 11, 3) := by decide +kernel
theorem d2_34 : decode method_3_code 34 = .ok (.iload_n 0, 1) := by decide +kernel
theorem d2_35 : decode method_3_code 35 = .ok (.bipush 57, 2) := by decide +kernel
theorem d2_37 : decode method_3_code 37 = .ok (.if_icmp .gt 5, 3) := by decide +kernel
theorem d2_40 : decode method_3_code 40 = .ok (.iconst 1, 1) := by decide +kernel
theorem d2_41 : decode method_3_code 41 = .ok (.ireturn, 1) := by decide +kernel
theorem d2_42 : decode method_3_code 42 = .ok (.iload_n 0, 1) := by decide +kernel
theorem d2_43 : decode method_3_code 43 = .ok (.bipush 45, 2) := by decide +kernel
theorem d2_45 : decode method_3_code 45 = .ok (.if_icmp .ne 7, 3) := by decide +kernel
theorem d2_48 : decode method_3_code 48 = .ok (.iconst 1, 1) := by decide +kernel
theorem d2_49 : decode method_3_code 49 = .ok (.goto 4, 3) := by decide +kernel
theorem d2_52 : decode method_3_code 52 = .ok (.iconst 0, 1) := by decide +kernel
theorem d2_53 : decode method_3_code 53 = .ok (.ireturn, 1) := by decide +kernel
theorem pd_0 : parseMethodDescriptor "(I)Z" = some ⟨[.int], some .boolean⟩ := by decide +kernel
theorem pn_1 : plainName "com/example/clearbrace/clearbrace/gser/GserCursor" = true := by first | (simp [plainName, overriddenIn]; done) | decide +kernel
theorem ef_rm1 (m : MethodId) (x0 : Int32) : entryFrame m #[(.int x0)] 1 = mkF m 0 #[.val (.int x0)] [] := by first | (simp [entryFrame, mkF, argsToLocals, Value.category]; done) | rfl
set_option maxRecDepth 65536 in
set_option maxHeartbeats 40000000 in
theorem rm1 (l : Launch) (Z : State) (a0 : Array Value) (hw : ∀ d ∈ tables_1, d.before a0 Z = true) (u0 : Int32) (r0 : Addr) (h0 : Heap) (n0 : Nat) (Z0 : n0 ≤ h0.size) (S0 : Sta Z h0 "com/example/clearbrace/clearbrace/gser/GserCursor" "WORD_PARTS" "[Z" (.ref r0)) (A0 : Ary Z h0 r0 .boolean 128 (fun i => .int (wp i))) :
    Con l Z (⟨"com/example/clearbrace/clearbrace/gser/GserCursor", "isWordPart", "(I)Z"⟩ : MethodName) prog_25_method_44_code 1 (some .boolean) ({ frames := 0, cells := 0, slots := 0, locals := 0 } : Room) #[(.int u0)] h0 (fun v h L => v = some (.int (if wpP u0.toInt then 1 else 0)) ∧ Fr n0 L ∧ h = h0) := by
  refine own_body pn_1 ?_
  intro p e s m below meth c s₁ hx hby hml hown hnm hret hZ e0 X0 G go rt
  have N0 := Fr.nil n0
  rw [ef_rm1 m u0]
  show G (s₁.setTop (mkF m 0 #[.val (.int u0)] []))
  refine go _ _ (fun t' k' => XS.iloadN X0.here hx rfl (hb hby d1_0) rfl  k') ?_
  show G (s₁.setTop (mkF m 1 #[.val (.int u0)] [(.int u0)]))
  by_cases c1 : u0 < (0 : Int32)
  · refine go _ _ (fun t' k' => XS.ifYes X0.here hx rfl (pc0 := 1) (pc' := 24) rfl (hb hby d1_1) rfl (Free.XT.i0_lt_t c1) (by decide) (by decide) k') ?_
    show G (s₁.setTop (mkF m 24 #[.val (.int u0)] []))
    refine go _ _ (fun t' k' => XS.iconst X0.here hx rfl (hb hby d1_24) k') ?_
    show G (s₁.setTop (mkF m 25 #[.val (.int u0)] [(.int (0 : Int32))]))
    refine own_retZ rt X0 hx (t := .boolean) hret (by simp) (hb hby d1_25) (by decide) (by decide) ?_
    refine ⟨?_, N0, e0⟩
    exact own_fin_f (by exact own_wp_out (Or.inl c1))
  · refine go _ _ (fun t' k' => XS.ifNo X0.here hx rfl (hb hby d1_1) rfl (Free.XT.i0_lt_f c1) k') ?_
    show G (s₁.setTop (mkF m 4 #[.val (.int u0)] []))
    refine go _ _ (fun t' k' => XS.iloadN X0.here hx rfl (hb hby d1_4) rfl  k') ?_
    show G (s₁.setTop (mkF m 5 #[.val (.int u0)] [(.int u0)]))
    obtain ⟨T2, X2, e2, st2⟩ := getS X0 hx hZ hown (host := "") (hw _ (List.mem_of_getElem? (i := 4) rfl)) Via.refl e0 S0 (g := (mkF m 5 #[.val (.int u0)] [(.int u0)])) rfl (hb hby d1_5)
    refine go _ _ st2 ?_
    show G (T2.setTop (mkF m 8 #[.val (.int u0)] [(.ref r0), (.int u0)]))
    refine own_arrlen go X2 hx hZ e2 (g := (mkF m 8 #[.val (.int u0)] [(.ref r0), (.int u0)])) rfl A0 rfl (hb hby d1_8) ?_
    show G (T2.setTop (mkF m 9 #[.val (.int u0)] [(.int (128 : Int32)), (.int u0)]))
    by_cases c3 : u0 < (128 : Int32)
    · refine go _ _ (fun t' k' => XS.icmpNo X2.here hx rfl (hb hby d1_9) rfl (Free.XT.ii_ge_f c3) k') ?_
      show G (T2.setTop (mkF m 12 #[.val (.int u0)] []))
      obtain ⟨ii, hii, lii⟩ := own_ix c1 c3
      obtain ⟨T4, X4, e4, st4⟩ := getS X2 hx hZ hown (host := "") (hw _ (List.mem_of_getElem? (i := 4) rfl)) Via.refl e2 S0 (g := (mkF m 12 #[.val (.int u0)] [])) rfl (hb hby d1_12)
      refine go _ _ st4 ?_
      show G (T4.setTop (mkF m 15 #[.val (.int u0)] [(.ref r0)]))
      refine go _ _ (fun t' k' => XS.iloadN X4.here hx rfl (hb hby d1_15) rfl  k') ?_
      show G (T4.setTop (mkF m 16 #[.val (.int u0)] [(.int u0), (.ref r0)]))
      refine own_zaload go X4 hx hZ e4 ii hii lii (g := (mkF m 16 #[.val (.int u0)] [(.int u0), (.ref r0)])) rfl A0 rfl (hb hby d1_16) ?_
      show G (T4.setTop (mkF m 17 #[.val (.int u0)] [(.int (wp ii))]))
      by_cases c5 : (wp ii) = (0 : Int32)
      · refine go _ _ (fun t' k' => XS.ifYes X4.here hx rfl (pc0 := 17) (pc' := 24) rfl (hb hby d1_17) rfl (Free.XT.i0_eq_t c5) (by decide) (by decide) k') ?_
        show G (T4.setTop (mkF m 24 #[.val (.int u0)] []))
        refine go _ _ (fun t' k' => XS.iconst X4.here hx rfl (hb hby d1_24) k') ?_
        show G (T4.setTop (mkF m 25 #[.val (.int u0)] [(.int (0 : Int32))]))
        refine own_retZ rt X4 hx (t := .boolean) hret (by simp) (hb hby d1_25) (by decide) (by decide) ?_
        refine ⟨?_, N0, e4⟩
        exact own_fin_f (by exact own_wp_inf hii c5)
      · refine go _ _ (fun t' k' => XS.ifNo X4.here hx rfl (hb hby d1_17) rfl (Free.XT.i0_eq_f c5) k') ?_
        show G (T4.setTop (mkF m 20 #[.val (.int u0)] []))
        refine go _ _ (fun t' k' => XS.iconst X4.here hx rfl (hb hby d1_20) k') ?_
        show G (T4.setTop (mkF m 21 #[.val (.int u0)] [(.int (1 : Int32))]))
        refine go _ _ (fun t' k' => XS.goto X4.here hx rfl (pc0 := 21) (pc' := 25) rfl (hb hby d1_21) (by decide) (by decide) k') ?_
        show G (T4.setTop (mkF m 25 #[.val (.int u0)] [(.int (1 : Int32))]))
        refine own_retZ rt X4 hx (t := .boolean) hret (by simp) (hb hby d1_25) (by decide) (by decide) ?_
        refine ⟨?_, N0, e4⟩
        exact own_fin_t (by exact own_wp_int hii c5)
    · refine go _ _ (fun t' k' => XS.icmpYes X2.here hx rfl (pc0 := 9) (pc' := 24) rfl (hb hby d1_9) rfl (Free.XT.ii_ge_t c3) (by decide) (by decide) k') ?_
      show G (T2.setTop (mkF m 24 #[.val (.int u0)] []))
      refine go _ _ (fun t' k' => XS.iconst X2.here hx rfl (hb hby d1_24) k') ?_
      show G (T2.setTop (mkF m 25 #[.val (.int u0)] [(.int (0 : Int32))]))
      refine own_retZ rt X2 hx (t := .boolean) hret (by simp) (hb hby d1_25) (by decide) (by decide) ?_
      refine ⟨?_, N0, e2⟩
      exact own_fin_f (by exact own_wp_out (Or.inr c3))
theorem pn_2 : plainName "com/example/clearbrace/clearbrace/gser/GserCursorIsWordPartPinLaw" = true := by first | (simp [plainName, overriddenIn]; done) | decide +kernel
theorem ef_rm2 (m : MethodId) (x0 : Int32) : entryFrame m #[(.int x0)] 1 = mkF m 0 #[.val (.int x0)] [] := by first | (simp [entryFrame, mkF, argsToLocals, Value.category]; done) | rfl
set_option maxRecDepth 65536 in
set_option maxHeartbeats 40000000 in
theorem rm2 (l : Launch) (Z : State) (a0 : Array Value) (hw : ∀ d ∈ tables_1, d.before a0 Z = true) (u0 : Int32) (h0 : Heap) (n0 : Nat) (Z0 : n0 ≤ h0.size)  :
    Con l Z (⟨"com/example/clearbrace/clearbrace/gser/GserCursorIsWordPartPinLaw", "expected", "(I)Z"⟩ : MethodName) method_3_code 1 (some .boolean) ({ frames := 0, cells := 0, slots := 0, locals := 0 } : Room) #[(.int u0)] h0 (fun v h L => v = some (.int (if wpP u0.toInt then 1 else 0)) ∧ Fr n0 L ∧ h = h0) := by
  refine own_body pn_2 ?_
  intro p e s m below meth c s₁ hx hby hml hown hnm hret hZ e0 X0 G go rt
  have N0 := Fr.nil n0
  rw [ef_rm2 m u0]
  show G (s₁.setTop (mkF m 0 #[.val (.int u0)] []))
  refine go _ _ (fun t' k' => XS.iloadN X0.here hx rfl (hb hby d2_0) rfl  k') ?_
  show G (s₁.setTop (mkF m 1 #[.val (.int u0)] [(.int u0)]))
  refine go _ _ (fun t' k' => XS.bipush X0.here hx rfl (hb hby d2_1) k') ?_
  show G (s₁.setTop (mkF m 3 #[.val (.int u0)] [(.int (97 : Int32)), (.int u0)]))
  by_cases c6 : u0 < (97 : Int32)
  · refine go _ _ (fun t' k' => XS.icmpYes X0.here hx rfl (pc0 := 3) (pc' := 14) rfl (hb hby d2_3) rfl (Free.XT.ii_lt_t c6) (by decide) (by decide) k') ?_
    show G (s₁.setTop (mkF m 14 #[.val (.int u0)] []))
    refine go _ _ (fun t' k' => XS.iloadN X0.here hx rfl (hb hby d2_14) rfl  k') ?_
    show G (s₁.setTop (mkF m 15 #[.val (.int u0)] [(.int u0)]))
    refine go _ _ (fun t' k' => XS.bipush X0.here hx rfl (hb hby d2_15) k') ?_
    show G (s₁.setTop (mkF m 17 #[.val (.int u0)] [(.int (65 : Int32)), (.int u0)]))
    by_cases c7 : u0 < (65 : Int32)
    · refine go _ _ (fun t' k' => XS.icmpYes X0.here hx rfl (pc0 := 17) (pc' := 28) rfl (hb hby d2_17) rfl (Free.XT.ii_lt_t c7) (by decide) (by decide) k') ?_
      show G (s₁.setTop (mkF m 28 #[.val (.int u0)] []))
      refine go _ _ (fun t' k' => XS.iloadN X0.here hx rfl (hb hby d2_28) rfl  k') ?_
      show G (s₁.setTop (mkF m 29 #[.val (.int u0)] [(.int u0)]))
      refine go _ _ (fun t' k' => XS.bipush X0.here hx rfl (hb hby d2_29) k') ?_
      show G (s₁.setTop (mkF m 31 #[.val (.int u0)] [(.int (48 : Int32)), (.int u0)]))
      by_cases c8 : u0 < (48 : Int32)
      · refine go _ _ (fun t' k' => XS.icmpYes X0.here hx rfl (pc0 := 31) (pc' := 42) rfl (hb hby d2_31) rfl (Free.XT.ii_lt_t c8) (by decide) (by decide) k') ?_
        show G (s₁.setTop (mkF m 42 #[.val (.int u0)] []))
        refine go _ _ (fun t' k' => XS.iloadN X0.here hx rfl (hb hby d2_42) rfl  k') ?_
        show G (s₁.setTop (mkF m 43 #[.val (.int u0)] [(.int u0)]))
        refine go _ _ (fun t' k' => XS.bipush X0.here hx rfl (hb hby d2_43) k') ?_
        show G (s₁.setTop (mkF m 45 #[.val (.int u0)] [(.int (45 : Int32)), (.int u0)]))
        by_cases c9 : u0 = (45 : Int32)
        · refine go _ _ (fun t' k' => XS.icmpNo X0.here hx rfl (hb hby d2_45) rfl (Free.XT.ii_ne_f c9) k') ?_
          show G (s₁.setTop (mkF m 48 #[.val (.int u0)] []))
          refine go _ _ (fun t' k' => XS.iconst X0.here hx rfl (hb hby d2_48) k') ?_
          show G (s₁.setTop (mkF m 49 #[.val (.int u0)] [(.int (1 : Int32))]))
          refine go _ _ (fun t' k' => XS.goto X0.here hx rfl (pc0 := 49) (pc' := 53) rfl (hb hby d2_49) (by decide) (by decide) k') ?_
          show G (s₁.setTop (mkF m 53 #[.val (.int u0)] [(.int (1 : Int32))]))
          refine own_retZ rt X0 hx (t := .boolean) hret (by simp) (hb hby d2_53) (by decide) (by decide) ?_
          refine ⟨?_, N0, e0⟩
          exact own_fin_t (by rw [← own_exp]; simp only [c6, c7, c8, c9, not_true, not_false_iff, true_and, false_and, and_true, and_false, true_or, or_true, false_or, or_false, or_self])
        · refine go _ _ (fun t' k' => XS.icmpYes X0.here hx rfl (pc0 := 45) (pc' := 52) rfl (hb hby d2_45) rfl (Free.XT.ii_ne_t c9) (by decide) (by decide) k') ?_
          show G (s₁.setTop (mkF m 52 #[.val (.int u0)] []))
          refine go _ _ (fun t' k' => XS.iconst X0.here hx rfl (hb hby d2_52) k') ?_
          show G (s₁.setTop (mkF m 53 #[.val (.int u0)] [(.int (0 : Int32))]))
          refine own_retZ rt X0 hx (t := .boolean) hret (by simp) (hb hby d2_53) (by decide) (by decide) ?_
          refine ⟨?_, N0, e0⟩
          exact own_fin_f (by rw [← own_exp]; simp only [c6, c7, c8, c9, not_true, not_false_iff, true_and, false_and, and_true, and_false, true_or, or_true, false_or, or_false, or_self])
      · refine go _ _ (fun t' k' => XS.icmpNo X0.here hx rfl (hb hby d2_31) rfl (Free.XT.ii_lt_f c8) k') ?_
        show G (s₁.setTop (mkF m 34 #[.val (.int u0)] []))
        refine go _ _ (fun t' k' => XS.iloadN X0.here hx rfl (hb hby d2_34) rfl  k') ?_
        show G (s₁.setTop (mkF m 35 #[.val (.int u0)] [(.int u0)]))
        refine go _ _ (fun t' k' => XS.bipush X0.here hx rfl (hb hby d2_35) k') ?_
        show G (s₁.setTop (mkF m 37 #[.val (.int u0)] [(.int (57 : Int32)), (.int u0)]))
        by_cases c10 : (57 : Int32) < u0
        · refine go _ _ (fun t' k' => XS.icmpYes X0.here hx rfl (pc0 := 37) (pc' := 42) rfl (hb hby d2_37) rfl (Free.XT.ii_gt_t c10) (by decide) (by decide) k') ?_
          show G (s₁.setTop (mkF m 42 #[.val (.int u0)] []))
          refine go _ _ (fun t' k' => XS.iloadN X0.here hx rfl (hb hby d2_42) rfl  k') ?_
          show G (s₁.setTop (mkF m 43 #[.val (.int u0)] [(.int u0)]))
          refine go _ _ (fun t' k' => XS.bipush X0.here hx rfl (hb hby d2_43) k') ?_
          show G (s₁.setTop (mkF m 45 #[.val (.int u0)] [(.int (45 : Int32)), (.int u0)]))
          by_cases c11 : u0 = (45 : Int32)
          · refine go _ _ (fun t' k' => XS.icmpNo X0.here hx rfl (hb hby d2_45) rfl (Free.XT.ii_ne_f c11) k') ?_
            show G (s₁.setTop (mkF m 48 #[.val (.int u0)] []))
            refine go _ _ (fun t' k' => XS.iconst X0.here hx rfl (hb hby d2_48) k') ?_
            show G (s₁.setTop (mkF m 49 #[.val (.int u0)] [(.int (1 : Int32))]))
            refine go _ _ (fun t' k' => XS.goto X0.here hx rfl (pc0 := 49) (pc' := 53) rfl (hb hby d2_49) (by decide) (by decide) k') ?_
            show G (s₁.setTop (mkF m 53 #[.val (.int u0)] [(.int (1 : Int32))]))
            refine own_retZ rt X0 hx (t := .boolean) hret (by simp) (hb hby d2_53) (by decide) (by decide) ?_
            refine ⟨?_, N0, e0⟩
            exact own_fin_t (by rw [← own_exp]; simp only [c10, c11, c6, c7, c8, not_true, not_false_iff, true_and, false_and, and_true, and_false, true_or, or_true, false_or, or_false, or_self])
          · refine go _ _ (fun t' k' => XS.icmpYes X0.here hx rfl (pc0 := 45) (pc' := 52) rfl (hb hby d2_45) rfl (Free.XT.ii_ne_t c11) (by decide) (by decide) k') ?_
            show G (s₁.setTop (mkF m 52 #[.val (.int u0)] []))
            refine go _ _ (fun t' k' => XS.iconst X0.here hx rfl (hb hby d2_52) k') ?_
            show G (s₁.setTop (mkF m 53 #[.val (.int u0)] [(.int (0 : Int32))]))
            refine own_retZ rt X0 hx (t := .boolean) hret (by simp) (hb hby d2_53) (by decide) (by decide) ?_
            refine ⟨?_, N0, e0⟩
            exact own_fin_f (by rw [← own_exp]; simp only [c10, c11, c6, c7, c8, not_true, not_false_iff, true_and, false_and, and_true, and_false, true_or, or_true, false_or, or_false, or_self])
        · refine go _ _ (fun t' k' => XS.icmpNo X0.here hx rfl (hb hby d2_37) rfl (Free.XT.ii_gt_f c10) k') ?_
          show G (s₁.setTop (mkF m 40 #[.val (.int u0)] []))
          refine go _ _ (fun t' k' => XS.iconst X0.here hx rfl (hb hby d2_40) k') ?_
          show G (s₁.setTop (mkF m 41 #[.val (.int u0)] [(.int (1 : Int32))]))
          refine own_retZ rt X0 hx (t := .boolean) hret (by simp) (hb hby d2_41) (by decide) (by decide) ?_
          refine ⟨?_, N0, e0⟩
          exact own_fin_t (by rw [← own_exp]; simp only [c10, c6, c7, c8, not_true, not_false_iff, true_and, false_and, and_true, and_false, true_or, or_true, false_or, or_false, or_self])
    · refine go _ _ (fun t' k' => XS.icmpNo X0.here hx rfl (hb hby d2_17) rfl (Free.XT.ii_lt_f c7) k') ?_
      show G (s₁.setTop (mkF m 20 #[.val (.int u0)] []))
      refine go _ _ (fun t' k' => XS.iloadN X0.here hx rfl (hb hby d2_20) rfl  k') ?_
      show G (s₁.setTop (mkF m 21 #[.val (.int u0)] [(.int u0)]))
      refine go _ _ (fun t' k' => XS.bipush X0.here hx rfl (hb hby d2_21) k') ?_
      show G (s₁.setTop (mkF m 23 #[.val (.int u0)] [(.int (90 : Int32)), (.int u0)]))
      by_cases c12 : (90 : Int32) < u0
      · refine go _ _ (fun t' k' => XS.icmpYes X0.here hx rfl (pc0 := 23) (pc' := 28) rfl (hb hby d2_23) rfl (Free.XT.ii_gt_t c12) (by decide) (by decide) k') ?_
        show G (s₁.setTop (mkF m 28 #[.val (.int u0)] []))
        refine go _ _ (fun t' k' => XS.iloadN X0.here hx rfl (hb hby d2_28) rfl  k') ?_
        show G (s₁.setTop (mkF m 29 #[.val (.int u0)] [(.int u0)]))
        refine go _ _ (fun t' k' => XS.bipush X0.here hx rfl (hb hby d2_29) k') ?_
        show G (s₁.setTop (mkF m 31 #[.val (.int u0)] [(.int (48 : Int32)), (.int u0)]))
        by_cases c13 : u0 < (48 : Int32)
        · refine go _ _ (fun t' k' => XS.icmpYes X0.here hx rfl (pc0 := 31) (pc' := 42) rfl (hb hby d2_31) rfl (Free.XT.ii_lt_t c13) (by decide) (by decide) k') ?_
          show G (s₁.setTop (mkF m 42 #[.val (.int u0)] []))
          refine go _ _ (fun t' k' => XS.iloadN X0.here hx rfl (hb hby d2_42) rfl  k') ?_
          show G (s₁.setTop (mkF m 43 #[.val (.int u0)] [(.int u0)]))
          refine go _ _ (fun t' k' => XS.bipush X0.here hx rfl (hb hby d2_43) k') ?_
          show G (s₁.setTop (mkF m 45 #[.val (.int u0)] [(.int (45 : Int32)), (.int u0)]))
          by_cases c14 : u0 = (45 : Int32)
          · refine go _ _ (fun t' k' => XS.icmpNo X0.here hx rfl (hb hby d2_45) rfl (Free.XT.ii_ne_f c14) k') ?_
            show G (s₁.setTop (mkF m 48 #[.val (.int u0)] []))
            refine go _ _ (fun t' k' => XS.iconst X0.here hx rfl (hb hby d2_48) k') ?_
            show G (s₁.setTop (mkF m 49 #[.val (.int u0)] [(.int (1 : Int32))]))
            refine go _ _ (fun t' k' => XS.goto X0.here hx rfl (pc0 := 49) (pc' := 53) rfl (hb hby d2_49) (by decide) (by decide) k') ?_
            show G (s₁.setTop (mkF m 53 #[.val (.int u0)] [(.int (1 : Int32))]))
            refine own_retZ rt X0 hx (t := .boolean) hret (by simp) (hb hby d2_53) (by decide) (by decide) ?_
            refine ⟨?_, N0, e0⟩
            exact own_fin_t (by rw [← own_exp]; simp only [c12, c13, c14, c6, c7, not_true, not_false_iff, true_and, false_and, and_true, and_false, true_or, or_true, false_or, or_false, or_self])
          · refine go _ _ (fun t' k' => XS.icmpYes X0.here hx rfl (pc0 := 45) (pc' := 52) rfl (hb hby d2_45) rfl (Free.XT.ii_ne_t c14) (by decide) (by decide) k') ?_
            show G (s₁.setTop (mkF m 52 #[.val (.int u0)] []))
            refine go _ _ (fun t' k' => XS.iconst X0.here hx rfl (hb hby d2_52) k') ?_
            show G (s₁.setTop (mkF m 53 #[.val (.int u0)] [(.int (0 : Int32))]))
            refine own_retZ rt X0 hx (t := .boolean) hret (by simp) (hb hby d2_53) (by decide) (by decide) ?_
            refine ⟨?_, N0, e0⟩
            exact own_fin_f (by rw [← own_exp]; simp only [c12, c13, c14, c6, c7, not_true, not_false_iff, true_and, false_and, and_true, and_false, true_or, or_true, false_or, or_false, or_self])
        · refine go _ _ (fun t' k' => XS.icmpNo X0.here hx rfl (hb hby d2_31) rfl (Free.XT.ii_lt_f c13) k') ?_
          show G (s₁.setTop (mkF m 34 #[.val (.int u0)] []))
          refine go _ _ (fun t' k' => XS.iloadN X0.here hx rfl (hb hby d2_34) rfl  k') ?_
          show G (s₁.setTop (mkF m 35 #[.val (.int u0)] [(.int u0)]))
          refine go _ _ (fun t' k' => XS.bipush X0.here hx rfl (hb hby d2_35) k') ?_
          show G (s₁.setTop (mkF m 37 #[.val (.int u0)] [(.int (57 : Int32)), (.int u0)]))
          by_cases c15 : (57 : Int32) < u0
          · refine go _ _ (fun t' k' => XS.icmpYes X0.here hx rfl (pc0 := 37) (pc' := 42) rfl (hb hby d2_37) rfl (Free.XT.ii_gt_t c15) (by decide) (by decide) k') ?_
            show G (s₁.setTop (mkF m 42 #[.val (.int u0)] []))
            refine go _ _ (fun t' k' => XS.iloadN X0.here hx rfl (hb hby d2_42) rfl  k') ?_
            show G (s₁.setTop (mkF m 43 #[.val (.int u0)] [(.int u0)]))
            refine go _ _ (fun t' k' => XS.bipush X0.here hx rfl (hb hby d2_43) k') ?_
            show G (s₁.setTop (mkF m 45 #[.val (.int u0)] [(.int (45 : Int32)), (.int u0)]))
            by_cases c16 : u0 = (45 : Int32)
            · refine go _ _ (fun t' k' => XS.icmpNo X0.here hx rfl (hb hby d2_45) rfl (Free.XT.ii_ne_f c16) k') ?_
              show G (s₁.setTop (mkF m 48 #[.val (.int u0)] []))
              refine go _ _ (fun t' k' => XS.iconst X0.here hx rfl (hb hby d2_48) k') ?_
              show G (s₁.setTop (mkF m 49 #[.val (.int u0)] [(.int (1 : Int32))]))
              refine go _ _ (fun t' k' => XS.goto X0.here hx rfl (pc0 := 49) (pc' := 53) rfl (hb hby d2_49) (by decide) (by decide) k') ?_
              show G (s₁.setTop (mkF m 53 #[.val (.int u0)] [(.int (1 : Int32))]))
              refine own_retZ rt X0 hx (t := .boolean) hret (by simp) (hb hby d2_53) (by decide) (by decide) ?_
              refine ⟨?_, N0, e0⟩
              exact own_fin_t (by rw [← own_exp]; simp only [c12, c13, c15, c16, c6, c7, not_true, not_false_iff, true_and, false_and, and_true, and_false, true_or, or_true, false_or, or_false, or_self])
            · refine go _ _ (fun t' k' => XS.icmpYes X0.here hx rfl (pc0 := 45) (pc' := 52) rfl (hb hby d2_45) rfl (Free.XT.ii_ne_t c16) (by decide) (by decide) k') ?_
              show G (s₁.setTop (mkF m 52 #[.val (.int u0)] []))
              refine go _ _ (fun t' k' => XS.iconst X0.here hx rfl (hb hby d2_52) k') ?_
              show G (s₁.setTop (mkF m 53 #[.val (.int u0)] [(.int (0 : Int32))]))
              refine own_retZ rt X0 hx (t := .boolean) hret (by simp) (hb hby d2_53) (by decide) (by decide) ?_
              refine ⟨?_, N0, e0⟩
              exact own_fin_f (by rw [← own_exp]; simp only [c12, c13, c15, c16, c6, c7, not_true, not_false_iff, true_and, false_and, and_true, and_false, true_or, or_true, false_or, or_false, or_self])
          · refine go _ _ (fun t' k' => XS.icmpNo X0.here hx rfl (hb hby d2_37) rfl (Free.XT.ii_gt_f c15) k') ?_
            show G (s₁.setTop (mkF m 40 #[.val (.int u0)] []))
            refine go _ _ (fun t' k' => XS.iconst X0.here hx rfl (hb hby d2_40) k') ?_
            show G (s₁.setTop (mkF m 41 #[.val (.int u0)] [(.int (1 : Int32))]))
            refine own_retZ rt X0 hx (t := .boolean) hret (by simp) (hb hby d2_41) (by decide) (by decide) ?_
            refine ⟨?_, N0, e0⟩
            exact own_fin_t (by rw [← own_exp]; simp only [c12, c13, c15, c6, c7, not_true, not_false_iff, true_and, false_and, and_true, and_false, true_or, or_true, false_or, or_false, or_self])
      · refine go _ _ (fun t' k' => XS.icmpNo X0.here hx rfl (hb hby d2_23) rfl (Free.XT.ii_gt_f c12) k') ?_
        show G (s₁.setTop (mkF m 26 #[.val (.int u0)] []))
        refine go _ _ (fun t' k' => XS.iconst X0.here hx rfl (hb hby d2_26) k') ?_
        show G (s₁.setTop (mkF m 27 #[.val (.int u0)] [(.int (1 : Int32))]))
        refine own_retZ rt X0 hx (t := .boolean) hret (by simp) (hb hby d2_27) (by decide) (by decide) ?_
        refine ⟨?_, N0, e0⟩
        exact own_fin_t (by rw [← own_exp]; simp only [c12, c6, c7, not_true, not_false_iff, true_and, false_and, and_true, and_false, true_or, or_true, false_or, or_false, or_self])
  · refine go _ _ (fun t' k' => XS.icmpNo X0.here hx rfl (hb hby d2_3) rfl (Free.XT.ii_lt_f c6) k') ?_
    show G (s₁.setTop (mkF m 6 #[.val (.int u0)] []))
    refine go _ _ (fun t' k' => XS.iloadN X0.here hx rfl (hb hby d2_6) rfl  k') ?_
    show G (s₁.setTop (mkF m 7 #[.val (.int u0)] [(.int u0)]))
    refine go _ _ (fun t' k' => XS.bipush X0.here hx rfl (hb hby d2_7) k') ?_
    show G (s₁.setTop (mkF m 9 #[.val (.int u0)] [(.int (122 : Int32)), (.int u0)]))
    by_cases c17 : (122 : Int32) < u0
    · refine go _ _ (fun t' k' => XS.icmpYes X0.here hx rfl (pc0 := 9) (pc' := 14) rfl (hb hby d2_9) rfl (Free.XT.ii_gt_t c17) (by decide) (by decide) k') ?_
      show G (s₁.setTop (mkF m 14 #[.val (.int u0)] []))
      refine go _ _ (fun t' k' => XS.iloadN X0.here hx rfl (hb hby d2_14) rfl  k') ?_
      show G (s₁.setTop (mkF m 15 #[.val (.int u0)] [(.int u0)]))
      refine go _ _ (fun t' k' => XS.bipush X0.here hx rfl (hb hby d2_15) k') ?_
      show G (s₁.setTop (mkF m 17 #[.val (.int u0)] [(.int (65 : Int32)), (.int u0)]))
      by_cases c18 : u0 < (65 : Int32)
      · refine go _ _ (fun t' k' => XS.icmpYes X0.here hx rfl (pc0 := 17) (pc' := 28) rfl (hb hby d2_17) rfl (Free.XT.ii_lt_t c18) (by decide) (by decide) k') ?_
        show G (s₁.setTop (mkF m 28 #[.val (.int u0)] []))
        refine go _ _ (fun t' k' => XS.iloadN X0.here hx rfl (hb hby d2_28) rfl  k') ?_
        show G (s₁.setTop (mkF m 29 #[.val (.int u0)] [(.int u0)]))
        refine go _ _ (fun t' k' => XS.bipush X0.here hx rfl (hb hby d2_29) k') ?_
        show G (s₁.setTop (mkF m 31 #[.val (.int u0)] [(.int (48 : Int32)), (.int u0)]))
        by_cases c19 : u0 < (48 : Int32)
        · refine go _ _ (fun t' k' => XS.icmpYes X0.here hx rfl (pc0 := 31) (pc' := 42) rfl (hb hby d2_31) rfl (Free.XT.ii_lt_t c19) (by decide) (by decide) k') ?_
          show G (s₁.setTop (mkF m 42 #[.val (.int u0)] []))
          refine go _ _ (fun t' k' => XS.iloadN X0.here hx rfl (hb hby d2_42) rfl  k') ?_
          show G (s₁.setTop (mkF m 43 #[.val (.int u0)] [(.int u0)]))
          refine go _ _ (fun t' k' => XS.bipush X0.here hx rfl (hb hby d2_43) k') ?_
          show G (s₁.setTop (mkF m 45 #[.val (.int u0)] [(.int (45 : Int32)), (.int u0)]))
          by_cases c20 : u0 = (45 : Int32)
          · refine go _ _ (fun t' k' => XS.icmpNo X0.here hx rfl (hb hby d2_45) rfl (Free.XT.ii_ne_f c20) k') ?_
            show G (s₁.setTop (mkF m 48 #[.val (.int u0)] []))
            refine go _ _ (fun t' k' => XS.iconst X0.here hx rfl (hb hby d2_48) k') ?_
            show G (s₁.setTop (mkF m 49 #[.val (.int u0)] [(.int (1 : Int32))]))
            refine go _ _ (fun t' k' => XS.goto X0.here hx rfl (pc0 := 49) (pc' := 53) rfl (hb hby d2_49) (by decide) (by decide) k') ?_
            show G (s₁.setTop (mkF m 53 #[.val (.int u0)] [(.int (1 : Int32))]))
            refine own_retZ rt X0 hx (t := .boolean) hret (by simp) (hb hby d2_53) (by decide) (by decide) ?_
            refine ⟨?_, N0, e0⟩
            exact own_fin_t (by rw [← own_exp]; simp only [c17, c18, c19, c20, c6, not_true, not_false_iff, true_and, false_and, and_true, and_false, true_or, or_true, false_or, or_false, or_self])
          · refine go _ _ (fun t' k' => XS.icmpYes X0.here hx rfl (pc0 := 45) (pc' := 52) rfl (hb hby d2_45) rfl (Free.XT.ii_ne_t c20) (by decide) (by decide) k') ?_
            show G (s₁.setTop (mkF m 52 #[.val (.int u0)] []))
            refine go _ _ (fun t' k' => XS.iconst X0.here hx rfl (hb hby d2_52) k') ?_
            show G (s₁.setTop (mkF m 53 #[.val (.int u0)] [(.int (0 : Int32))]))
            refine own_retZ rt X0 hx (t := .boolean) hret (by simp) (hb hby d2_53) (by decide) (by decide) ?_
            refine ⟨?_, N0, e0⟩
            exact own_fin_f (by rw [← own_exp]; simp only [c17, c18, c19, c20, c6, not_true, not_false_iff, true_and, false_and, and_true, and_false, true_or, or_true, false_or, or_false, or_self])
        · refine go _ _ (fun t' k' => XS.icmpNo X0.here hx rfl (hb hby d2_31) rfl (Free.XT.ii_lt_f c19) k') ?_
          show G (s₁.setTop (mkF m 34 #[.val (.int u0)] []))
          refine go _ _ (fun t' k' => XS.iloadN X0.here hx rfl (hb hby d2_34) rfl  k') ?_
          show G (s₁.setTop (mkF m 35 #[.val (.int u0)] [(.int u0)]))
          refine go _ _ (fun t' k' => XS.bipush X0.here hx rfl (hb hby d2_35) k') ?_
          show G (s₁.setTop (mkF m 37 #[.val (.int u0)] [(.int (57 : Int32)), (.int u0)]))
          by_cases c21 : (57 : Int32) < u0
          · refine go _ _ (fun t' k' => XS.icmpYes X0.here hx rfl (pc0 := 37) (pc' := 42) rfl (hb hby d2_37) rfl (Free.XT.ii_gt_t c21) (by decide) (by decide) k') ?_
            show G (s₁.setTop (mkF m 42 #[.val (.int u0)] []))
            refine go _ _ (fun t' k' => XS.iloadN X0.here hx rfl (hb hby d2_42) rfl  k') ?_
            show G (s₁.setTop (mkF m 43 #[.val (.int u0)] [(.int u0)]))
            refine go _ _ (fun t' k' => XS.bipush X0.here hx rfl (hb hby d2_43) k') ?_
            show G (s₁.setTop (mkF m 45 #[.val (.int u0)] [(.int (45 : Int32)), (.int u0)]))
            by_cases c22 : u0 = (45 : Int32)
            · refine go _ _ (fun t' k' => XS.icmpNo X0.here hx rfl (hb hby d2_45) rfl (Free.XT.ii_ne_f c22) k') ?_
              show G (s₁.setTop (mkF m 48 #[.val (.int u0)] []))
              refine go _ _ (fun t' k' => XS.iconst X0.here hx rfl (hb hby d2_48) k') ?_
              show G (s₁.setTop (mkF m 49 #[.val (.int u0)] [(.int (1 : Int32))]))
              refine go _ _ (fun t' k' => XS.goto X0.here hx rfl (pc0 := 49) (pc' := 53) rfl (hb hby d2_49) (by decide) (by decide) k') ?_
              show G (s₁.setTop (mkF m 53 #[.val (.int u0)] [(.int (1 : Int32))]))
              refine own_retZ rt X0 hx (t := .boolean) hret (by simp) (hb hby d2_53) (by decide) (by decide) ?_
              refine ⟨?_, N0, e0⟩
              exact own_fin_t (by rw [← own_exp]; simp only [c17, c18, c19, c21, c22, c6, not_true, not_false_iff, true_and, false_and, and_true, and_false, true_or, or_true, false_or, or_false, or_self])
            · refine go _ _ (fun t' k' => XS.icmpYes X0.here hx rfl (pc0 := 45) (pc' := 52) rfl (hb hby d2_45) rfl (Free.XT.ii_ne_t c22) (by decide) (by decide) k') ?_
              show G (s₁.setTop (mkF m 52 #[.val (.int u0)] []))
              refine go _ _ (fun t' k' => XS.iconst X0.here hx rfl (hb hby d2_52) k') ?_
              show G (s₁.setTop (mkF m 53 #[.val (.int u0)] [(.int (0 : Int32))]))
              refine own_retZ rt X0 hx (t := .boolean) hret (by simp) (hb hby d2_53) (by decide) (by decide) ?_
              refine ⟨?_, N0, e0⟩
              exact own_fin_f (by rw [← own_exp]; simp only [c17, c18, c19, c21, c22, c6, not_true, not_false_iff, true_and, false_and, and_true, and_false, true_or, or_true, false_or, or_false, or_self])
          · refine go _ _ (fun t' k' => XS.icmpNo X0.here hx rfl (hb hby d2_37) rfl (Free.XT.ii_gt_f c21) k') ?_
            show G (s₁.setTop (mkF m 40 #[.val (.int u0)] []))
            refine go _ _ (fun t' k' => XS.iconst X0.here hx rfl (hb hby d2_40) k') ?_
            show G (s₁.setTop (mkF m 41 #[.val (.int u0)] [(.int (1 : Int32))]))
            refine own_retZ rt X0 hx (t := .boolean) hret (by simp) (hb hby d2_41) (by decide) (by decide) ?_
            refine ⟨?_, N0, e0⟩
            exact own_fin_t (by rw [← own_exp]; simp only [c17, c18, c19, c21, c6, not_true, not_false_iff, true_and, false_and, and_true, and_false, true_or, or_true, false_or, or_false, or_self])
      · refine go _ _ (fun t' k' => XS.icmpNo X0.here hx rfl (hb hby d2_17) rfl (Free.XT.ii_lt_f c18) k') ?_
        show G (s₁.setTop (mkF m 20 #[.val (.int u0)] []))
        refine go _ _ (fun t' k' => XS.iloadN X0.here hx rfl (hb hby d2_20) rfl  k') ?_
        show G (s₁.setTop (mkF m 21 #[.val (.int u0)] [(.int u0)]))
        refine go _ _ (fun t' k' => XS.bipush X0.here hx rfl (hb hby d2_21) k') ?_
        show G (s₁.setTop (mkF m 23 #[.val (.int u0)] [(.int (90 : Int32)), (.int u0)]))
        by_cases c23 : (90 : Int32) < u0
        · refine go _ _ (fun t' k' => XS.icmpYes X0.here hx rfl (pc0 := 23) (pc' := 28) rfl (hb hby d2_23) rfl (Free.XT.ii_gt_t c23) (by decide) (by decide) k') ?_
          show G (s₁.setTop (mkF m 28 #[.val (.int u0)] []))
          refine go _ _ (fun t' k' => XS.iloadN X0.here hx rfl (hb hby d2_28) rfl  k') ?_
          show G (s₁.setTop (mkF m 29 #[.val (.int u0)] [(.int u0)]))
          refine go _ _ (fun t' k' => XS.bipush X0.here hx rfl (hb hby d2_29) k') ?_
          show G (s₁.setTop (mkF m 31 #[.val (.int u0)] [(.int (48 : Int32)), (.int u0)]))
          by_cases c24 : u0 < (48 : Int32)
          · refine go _ _ (fun t' k' => XS.icmpYes X0.here hx rfl (pc0 := 31) (pc' := 42) rfl (hb hby d2_31) rfl (Free.XT.ii_lt_t c24) (by decide) (by decide) k') ?_
            show G (s₁.setTop (mkF m 42 #[.val (.int u0)] []))
            refine go _ _ (fun t' k' => XS.iloadN X0.here hx rfl (hb hby d2_42) rfl  k') ?_
            show G (s₁.setTop (mkF m 43 #[.val (.int u0)] [(.int u0)]))
            refine go _ _ (fun t' k' => XS.bipush X0.here hx rfl (hb hby d2_43) k') ?_
            show G (s₁.setTop (mkF m 45 #[.val (.int u0)] [(.int (45 : Int32)), (.int u0)]))
            by_cases c25 : u0 = (45 : Int32)
            · refine go _ _ (fun t' k' => XS.icmpNo X0.here hx rfl (hb hby d2_45) rfl (Free.XT.ii_ne_f c25) k') ?_
              show G (s₁.setTop (mkF m 48 #[.val (.int u0)] []))
              refine go _ _ (fun t' k' => XS.iconst X0.here hx rfl (hb hby d2_48) k') ?_
              show G (s₁.setTop (mkF m 49 #[.val (.int u0)] [(.int (1 : Int32))]))
              refine go _ _ (fun t' k' => XS.goto X0.here hx rfl (pc0 := 49) (pc' := 53) rfl (hb hby d2_49) (by decide) (by decide) k') ?_
              show G (s₁.setTop (mkF m 53 #[.val (.int u0)] [(.int (1 : Int32))]))
              refine own_retZ rt X0 hx (t := .boolean) hret (by simp) (hb hby d2_53) (by decide) (by decide) ?_
              refine ⟨?_, N0, e0⟩
              exact own_fin_t (by rw [← own_exp]; simp only [c17, c18, c23, c24, c25, c6, not_true, not_false_iff, true_and, false_and, and_true, and_false, true_or, or_true, false_or, or_false, or_self])
            · refine go _ _ (fun t' k' => XS.icmpYes X0.here hx rfl (pc0 := 45) (pc' := 52) rfl (hb hby d2_45) rfl (Free.XT.ii_ne_t c25) (by decide) (by decide) k') ?_
              show G (s₁.setTop (mkF m 52 #[.val (.int u0)] []))
              refine go _ _ (fun t' k' => XS.iconst X0.here hx rfl (hb hby d2_52) k') ?_
              show G (s₁.setTop (mkF m 53 #[.val (.int u0)] [(.int (0 : Int32))]))
              refine own_retZ rt X0 hx (t := .boolean) hret (by simp) (hb hby d2_53) (by decide) (by decide) ?_
              refine ⟨?_, N0, e0⟩
              exact own_fin_f (by rw [← own_exp]; simp only [c17, c18, c23, c24, c25, c6, not_true, not_false_iff, true_and, false_and, and_true, and_false, true_or, or_true, false_or, or_false, or_self])
          · refine go _ _ (fun t' k' => XS.icmpNo X0.here hx rfl (hb hby d2_31) rfl (Free.XT.ii_lt_f c24) k') ?_
            show G (s₁.setTop (mkF m 34 #[.val (.int u0)] []))
            refine go _ _ (fun t' k' => XS.iloadN X0.here hx rfl (hb hby d2_34) rfl  k') ?_
            show G (s₁.setTop (mkF m 35 #[.val (.int u0)] [(.int u0)]))
            refine go _ _ (fun t' k' => XS.bipush X0.here hx rfl (hb hby d2_35) k') ?_
            show G (s₁.setTop (mkF m 37 #[.val (.int u0)] [(.int (57 : Int32)), (.int u0)]))
            by_cases c26 : (57 : Int32) < u0
            · refine go _ _ (fun t' k' => XS.icmpYes X0.here hx rfl (pc0 := 37) (pc' := 42) rfl (hb hby d2_37) rfl (Free.XT.ii_gt_t c26) (by decide) (by decide) k') ?_
              show G (s₁.setTop (mkF m 42 #[.val (.int u0)] []))
              refine go _ _ (fun t' k' => XS.iloadN X0.here hx rfl (hb hby d2_42) rfl  k') ?_
              show G (s₁.setTop (mkF m 43 #[.val (.int u0)] [(.int u0)]))
              refine go _ _ (fun t' k' => XS.bipush X0.here hx rfl (hb hby d2_43) k') ?_
              show G (s₁.setTop (mkF m 45 #[.val (.int u0)] [(.int (45 : Int32)), (.int u0)]))
              by_cases c27 : u0 = (45 : Int32)
              · refine go _ _ (fun t' k' => XS.icmpNo X0.here hx rfl (hb hby d2_45) rfl (Free.XT.ii_ne_f c27) k') ?_
                show G (s₁.setTop (mkF m 48 #[.val (.int u0)] []))
                refine go _ _ (fun t' k' => XS.iconst X0.here hx rfl (hb hby d2_48) k') ?_
                show G (s₁.setTop (mkF m 49 #[.val (.int u0)] [(.int (1 : Int32))]))
                refine go _ _ (fun t' k' => XS.goto X0.here hx rfl (pc0 := 49) (pc' := 53) rfl (hb hby d2_49) (by decide) (by decide) k') ?_
                show G (s₁.setTop (mkF m 53 #[.val (.int u0)] [(.int (1 : Int32))]))
                refine own_retZ rt X0 hx (t := .boolean) hret (by simp) (hb hby d2_53) (by decide) (by decide) ?_
                refine ⟨?_, N0, e0⟩
                exact own_fin_t (by rw [← own_exp]; simp only [c17, c18, c23, c24, c26, c27, c6, not_true, not_false_iff, true_and, false_and, and_true, and_false, true_or, or_true, false_or, or_false, or_self])
              · refine go _ _ (fun t' k' => XS.icmpYes X0.here hx rfl (pc0 := 45) (pc' := 52) rfl (hb hby d2_45) rfl (Free.XT.ii_ne_t c27) (by decide) (by decide) k') ?_
                show G (s₁.setTop (mkF m 52 #[.val (.int u0)] []))
                refine go _ _ (fun t' k' => XS.iconst X0.here hx rfl (hb hby d2_52) k') ?_
                show G (s₁.setTop (mkF m 53 #[.val (.int u0)] [(.int (0 : Int32))]))
                refine own_retZ rt X0 hx (t := .boolean) hret (by simp) (hb hby d2_53) (by decide) (by decide) ?_
                refine ⟨?_, N0, e0⟩
                exact own_fin_f (by rw [← own_exp]; simp only [c17, c18, c23, c24, c26, c27, c6, not_true, not_false_iff, true_and, false_and, and_true, and_false, true_or, or_true, false_or, or_false, or_self])
            · refine go _ _ (fun t' k' => XS.icmpNo X0.here hx rfl (hb hby d2_37) rfl (Free.XT.ii_gt_f c26) k') ?_
              show G (s₁.setTop (mkF m 40 #[.val (.int u0)] []))
              refine go _ _ (fun t' k' => XS.iconst X0.here hx rfl (hb hby d2_40) k') ?_
              show G (s₁.setTop (mkF m 41 #[.val (.int u0)] [(.int (1 : Int32))]))
              refine own_retZ rt X0 hx (t := .boolean) hret (by simp) (hb hby d2_41) (by decide) (by decide) ?_
              refine ⟨?_, N0, e0⟩
              exact own_fin_t (by rw [← own_exp]; simp only [c17, c18, c23, c24, c26, c6, not_true, not_false_iff, true_and, false_and, and_true, and_false, true_or, or_true, false_or, or_false, or_self])
        · refine go _ _ (fun t' k' => XS.icmpNo X0.here hx rfl (hb hby d2_23) rfl (Free.XT.ii_gt_f c23) k') ?_
          show G (s₁.setTop (mkF m 26 #[.val (.int u0)] []))
          refine go _ _ (fun t' k' => XS.iconst X0.here hx rfl (hb hby d2_26) k') ?_
          show G (s₁.setTop (mkF m 27 #[.val (.int u0)] [(.int (1 : Int32))]))
          refine own_retZ rt X0 hx (t := .boolean) hret (by simp) (hb hby d2_27) (by decide) (by decide) ?_
          refine ⟨?_, N0, e0⟩
          exact own_fin_t (by rw [← own_exp]; simp only [c17, c18, c23, c6, not_true, not_false_iff, true_and, false_and, and_true, and_false, true_or, or_true, false_or, or_false, or_self])
    · refine go _ _ (fun t' k' => XS.icmpNo X0.here hx rfl (hb hby d2_9) rfl (Free.XT.ii_gt_f c17) k') ?_
      show G (s₁.setTop (mkF m 12 #[.val (.int u0)] []))
      refine go _ _ (fun t' k' => XS.iconst X0.here hx rfl (hb hby d2_12) k') ?_
      show G (s₁.setTop (mkF m 13 #[.val (.int u0)] [(.int (1 : Int32))]))
      refine own_retZ rt X0 hx (t := .boolean) hret (by simp) (hb hby d2_13) (by decide) (by decide) ?_
      refine ⟨?_, N0, e0⟩
      exact own_fin_t (by rw [← own_exp]; simp only [c17, c6, not_true, not_false_iff, true_and, false_and, and_true, and_false, true_or, or_true, false_or, or_false, or_self])
theorem pn_0 : plainName "com/example/clearbrace/clearbrace/gser/GserCursorIsWordPartPinLaw" = true := by first | (simp [plainName, overriddenIn]; done) | decide +kernel
theorem ef_rm0 (m : MethodId) (x0 : Int32) (x1 : Int32) : entryFrame m #[(.int x0), (.int x1)] maxLocals = mkF m 0 #[.val (.int x0), .val (.int x1), .unset, .unset, .unset, .unset, .unset] [] := by first | (simp [entryFrame, mkF, argsToLocals, Value.category, maxLocals]; done) | rfl
set_option maxRecDepth 65536 in
set_option maxHeartbeats 40000000 in
theorem rm0 (l : Launch) (Z : State) (a0 : Array Value) (hw : ∀ d ∈ tables_1, d.before a0 Z = true) (u0 u1 : Int32) (h0 : Heap) (n0 : Nat) (Z0 : n0 ≤ h0.size) (r0 : Addr) (S0 : Sta Z h0 "com/example/clearbrace/clearbrace/gser/GserCursor" "WORD_PARTS" "[Z" (.ref r0)) (A0 : Ary Z h0 r0 .boolean 128 (fun i => .int (wp i))) :
    Con l Z x code maxLocals ret room_1 #[(.int u0), (.int u1)] h0 (fun v h L => v = some (.int 1) ∧ Fr n0 L) := by
  refine own_body pn_0 ?_
  intro p e s m below meth c s₁ hx hby hml hown hnm hret hZ e0 X0 G go rt
  have N0 := Fr.nil n0
  rw [ef_rm0 m u0 u1]
  show G (s₁.setTop (mkF m 0 #[.val (.int u0), .val (.int u1), .unset, .unset, .unset, .unset, .unset] []))
  refine go _ _ (fun t' k' => XS.iloadN X0.here hx rfl (hb hby at_0) rfl  k') ?_
  show G (s₁.setTop (mkF m 1 #[.val (.int u0), .val (.int u1), .unset, .unset, .unset, .unset, .unset] [(.int u1)]))
  refine go _ _ (fun t' k' => XS.sipush X0.here hx rfl (hb hby at_1) k') ?_
  show G (s₁.setTop (mkF m 4 #[.val (.int u0), .val (.int u1), .unset, .unset, .unset, .unset, .unset] [(.int (255 : Int32)), (.int u1)]))
  refine go _ _ (fun t' k' => XS.iand X0.here hx rfl (hb hby at_4) rfl k') ?_
  show G (s₁.setTop (mkF m 5 #[.val (.int u0), .val (.int u1), .unset, .unset, .unset, .unset, .unset] [(.int (u1 &&& (255 : Int32)))]))
  refine go _ _ (fun t' k' => XS.istoreN X0.here hx rfl (hb hby at_5) rfl (l' := #[.val (.int u0), .val (.int u1), .val (.int (u1 &&& (255 : Int32))), .unset, .unset, .unset, .unset]) rfl k') ?_
  show G (s₁.setTop (mkF m 6 #[.val (.int u0), .val (.int u1), .val (.int (u1 &&& (255 : Int32))), .unset, .unset, .unset, .unset] []))
  refine go _ _ (fun t' k' => XS.iloadN X0.here hx rfl (hb hby at_6) rfl  k') ?_
  show G (s₁.setTop (mkF m 7 #[.val (.int u0), .val (.int u1), .val (.int (u1 &&& (255 : Int32))), .unset, .unset, .unset, .unset] [(.int u1)]))
  refine go _ _ (fun t' k' => XS.bipush X0.here hx rfl (hb hby at_7) k') ?_
  show G (s₁.setTop (mkF m 9 #[.val (.int u0), .val (.int u1), .val (.int (u1 &&& (255 : Int32))), .unset, .unset, .unset, .unset] [(.int (8 : Int32)), (.int u1)]))
  refine go _ _ (fun t' k' => XS.ishr X0.here hx rfl (hb hby at_9) rfl k') ?_
  show G (s₁.setTop (mkF m 10 #[.val (.int u0), .val (.int u1), .val (.int (u1 &&& (255 : Int32))), .unset, .unset, .unset, .unset] [(.int (u1 >>> ((8 : Int32) &&& 31)))]))
  refine go _ _ (fun t' k' => XS.sipush X0.here hx rfl (hb hby at_10) k') ?_
  show G (s₁.setTop (mkF m 13 #[.val (.int u0), .val (.int u1), .val (.int (u1 &&& (255 : Int32))), .unset, .unset, .unset, .unset] [(.int (255 : Int32)), (.int (u1 >>> ((8 : Int32) &&& 31)))]))
  refine go _ _ (fun t' k' => XS.iand X0.here hx rfl (hb hby at_13) rfl k') ?_
  show G (s₁.setTop (mkF m 14 #[.val (.int u0), .val (.int u1), .val (.int (u1 &&& (255 : Int32))), .unset, .unset, .unset, .unset] [(.int ((u1 >>> ((8 : Int32) &&& 31)) &&& (255 : Int32)))]))
  refine go _ _ (fun t' k' => XS.bipush X0.here hx rfl (hb hby at_14) k') ?_
  show G (s₁.setTop (mkF m 16 #[.val (.int u0), .val (.int u1), .val (.int (u1 &&& (255 : Int32))), .unset, .unset, .unset, .unset] [(.int (64 : Int32)), (.int ((u1 >>> ((8 : Int32) &&& 31)) &&& (255 : Int32)))]))
  refine go _ _ (fun t' k' => XS.isub X0.here hx rfl (hb hby at_16) rfl k') ?_
  show G (s₁.setTop (mkF m 17 #[.val (.int u0), .val (.int u1), .val (.int (u1 &&& (255 : Int32))), .unset, .unset, .unset, .unset] [(.int (((u1 >>> ((8 : Int32) &&& 31)) &&& (255 : Int32)) - (64 : Int32)))]))
  refine go _ _ (fun t' k' => XS.istoreN X0.here hx rfl (hb hby at_17) rfl (l' := #[.val (.int u0), .val (.int u1), .val (.int (u1 &&& (255 : Int32))), .val (.int (((u1 >>> ((8 : Int32) &&& 31)) &&& (255 : Int32)) - (64 : Int32))), .unset, .unset, .unset]) rfl k') ?_
  show G (s₁.setTop (mkF m 18 #[.val (.int u0), .val (.int u1), .val (.int (u1 &&& (255 : Int32))), .val (.int (((u1 >>> ((8 : Int32) &&& 31)) &&& (255 : Int32)) - (64 : Int32))), .unset, .unset, .unset] []))
  obtain ⟨y2, hy2⟩ : ∃ z, z = (u1 &&& (255 : Int32)) := ⟨_, rfl⟩
  rw [← hy2]
  show G (s₁.setTop (mkF m 18 #[.val (.int u0), .val (.int u1), .val (.int y2), .val (.int (((u1 >>> ((8 : Int32) &&& 31)) &&& (255 : Int32)) - (64 : Int32))), .unset, .unset, .unset] []))
  obtain ⟨y3, hy3⟩ : ∃ z, z = (((u1 >>> ((8 : Int32) &&& 31)) &&& (255 : Int32)) - (64 : Int32)) := ⟨_, rfl⟩
  rw [← hy3]
  show G (s₁.setTop (mkF m 18 #[.val (.int u0), .val (.int u1), .val (.int y2), .val (.int y3), .unset, .unset, .unset] []))
  refine go _ _ (fun t' k' => XS.iloadN X0.here hx rfl (hb hby at_18) rfl  k') ?_
  show G (s₁.setTop (mkF m 19 #[.val (.int u0), .val (.int u1), .val (.int y2), .val (.int y3), .unset, .unset, .unset] [(.int u0)]))
  refine own_static go X0 hx hZ e0 hown (hw _ (List.mem_of_getElem? (i := 0) rfl)) (hw _ (List.mem_of_getElem? (i := 1) rfl)) (hw _ (List.mem_of_getElem? (i := 2) rfl)) (hw _ (List.mem_of_getElem? (i := 3) rfl)) (by decide) (rm1 l Z a0 hw u0 r0 h0 n0 Z0 S0 A0) 0 (by decide) (by decide) (by decide) (by decide) (g := (mkF m 19 #[.val (.int u0), .val (.int u1), .val (.int y2), .val (.int y3), .unset, .unset, .unset] [(.int u0)])) rfl (by rw [hml]; rfl) [(.int u0)] [] rfl (lenOf pd_0 rfl) rfl (by show 2 * 0 + _ ≤ _; exact Nat.le_of_eq rfl) (hb hby at_19) ?_
  intro T28 L28 v28 X28 q28
  obtain ⟨rfl, N28, hh28⟩ := q28
  have N29 := Fr.app N0 N28
  show G (T28.setTop (mkF m 22 #[.val (.int u0), .val (.int u1), .val (.int y2), .val (.int y3), .unset, .unset, .unset] [(.int (if wpP u0.toInt then (1 : Int32) else 0))]))
  refine go _ _ (fun t' k' => XS.iloadN X28.here hx rfl (hb hby at_22) rfl  k') ?_
  show G (T28.setTop (mkF m 23 #[.val (.int u0), .val (.int u1), .val (.int y2), .val (.int y3), .unset, .unset, .unset] [(.int u0), (.int (if wpP u0.toInt then (1 : Int32) else 0))]))
  refine own_static go X28 hx hZ hh28 hown (hw _ (List.mem_of_getElem? (i := 6) rfl)) (hw _ (List.mem_of_getElem? (i := 7) rfl)) (hw _ (List.mem_of_getElem? (i := 8) rfl)) (hw _ (List.mem_of_getElem? (i := 9) rfl)) (by decide) (rm2 l Z a0 hw u0 h0 n0 Z0) 1 (by decide) (by decide) (by decide) (by decide) (g := (mkF m 23 #[.val (.int u0), .val (.int u1), .val (.int y2), .val (.int y3), .unset, .unset, .unset] [(.int u0), (.int (if wpP u0.toInt then (1 : Int32) else 0))])) rfl (by rw [hml]; rfl) [(.int u0)] [(.int (if wpP u0.toInt then (1 : Int32) else 0))] rfl (lenOf pd_0 rfl) rfl (by show 2 * 0 + _ ≤ _; exact Nat.le_of_eq rfl) (hb hby at_23) ?_
  intro T30 L30 v30 X30 q30
  obtain ⟨rfl, N30, hh30⟩ := q30
  have N31 := Fr.app N29 N30
  show G (T30.setTop (mkF m 26 #[.val (.int u0), .val (.int u1), .val (.int y2), .val (.int y3), .unset, .unset, .unset] [(.int (if wpP u0.toInt then (1 : Int32) else 0)), (.int (if wpP u0.toInt then (1 : Int32) else 0))]))
  refine go _ _ (fun t' k' => XS.icmpNo X30.here hx rfl (hb hby at_26) rfl (Free.XT.ii_ne_f rfl) k') ?_
  show G (T30.setTop (mkF m 29 #[.val (.int u0), .val (.int u1), .val (.int y2), .val (.int y3), .unset, .unset, .unset] []))
  refine go _ _ (fun t' k' => XS.iconst X30.here hx rfl (hb hby at_29) k') ?_
  show G (T30.setTop (mkF m 30 #[.val (.int u0), .val (.int u1), .val (.int y2), .val (.int y3), .unset, .unset, .unset] [(.int (1 : Int32))]))
  refine go _ _ (fun t' k' => XS.goto X30.here hx rfl (pc0 := 30) (pc' := 34) rfl (hb hby at_30) (by decide) (by decide) k') ?_
  show G (T30.setTop (mkF m 34 #[.val (.int u0), .val (.int u1), .val (.int y2), .val (.int y3), .unset, .unset, .unset] [(.int (1 : Int32))]))
  refine go _ _ (fun t' k' => XS.istore X30.here hx rfl (hb hby at_34) rfl (l' := #[.val (.int u0), .val (.int u1), .val (.int y2), .val (.int y3), .val (.int (1 : Int32)), .unset, .unset]) rfl k') ?_
  show G (T30.setTop (mkF m 36 #[.val (.int u0), .val (.int u1), .val (.int y2), .val (.int y3), .val (.int (1 : Int32)), .unset, .unset] []))
  refine go _ _ (fun t' k' => XS.iloadN X30.here hx rfl (hb hby at_36) rfl  k') ?_
  show G (T30.setTop (mkF m 37 #[.val (.int u0), .val (.int u1), .val (.int y2), .val (.int y3), .val (.int (1 : Int32)), .unset, .unset] [(.int y2)]))
  refine own_static go X30 hx hZ hh30 hown (hw _ (List.mem_of_getElem? (i := 0) rfl)) (hw _ (List.mem_of_getElem? (i := 1) rfl)) (hw _ (List.mem_of_getElem? (i := 2) rfl)) (hw _ (List.mem_of_getElem? (i := 3) rfl)) (by decide) (rm1 l Z a0 hw y2 r0 h0 n0 Z0 S0 A0) 0 (by decide) (by decide) (by decide) (by decide) (g := (mkF m 37 #[.val (.int u0), .val (.int u1), .val (.int y2), .val (.int y3), .val (.int (1 : Int32)), .unset, .unset] [(.int y2)])) rfl (by rw [hml]; rfl) [(.int y2)] [] rfl (lenOf pd_0 rfl) rfl (by show 2 * 0 + _ ≤ _; exact Nat.le_of_eq rfl) (hb hby at_37) ?_
  intro T32 L32 v32 X32 q32
  obtain ⟨rfl, N32, hh32⟩ := q32
  have N33 := Fr.app N31 N32
  show G (T32.setTop (mkF m 40 #[.val (.int u0), .val (.int u1), .val (.int y2), .val (.int y3), .val (.int (1 : Int32)), .unset, .unset] [(.int (if wpP y2.toInt then (1 : Int32) else 0))]))
  refine go _ _ (fun t' k' => XS.iloadN X32.here hx rfl (hb hby at_40) rfl  k') ?_
  show G (T32.setTop (mkF m 41 #[.val (.int u0), .val (.int u1), .val (.int y2), .val (.int y3), .val (.int (1 : Int32)), .unset, .unset] [(.int y2), (.int (if wpP y2.toInt then (1 : Int32) else 0))]))
  refine own_static go X32 hx hZ hh32 hown (hw _ (List.mem_of_getElem? (i := 6) rfl)) (hw _ (List.mem_of_getElem? (i := 7) rfl)) (hw _ (List.mem_of_getElem? (i := 8) rfl)) (hw _ (List.mem_of_getElem? (i := 9) rfl)) (by decide) (rm2 l Z a0 hw y2 h0 n0 Z0) 1 (by decide) (by decide) (by decide) (by decide) (g := (mkF m 41 #[.val (.int u0), .val (.int u1), .val (.int y2), .val (.int y3), .val (.int (1 : Int32)), .unset, .unset] [(.int y2), (.int (if wpP y2.toInt then (1 : Int32) else 0))])) rfl (by rw [hml]; rfl) [(.int y2)] [(.int (if wpP y2.toInt then (1 : Int32) else 0))] rfl (lenOf pd_0 rfl) rfl (by show 2 * 0 + _ ≤ _; exact Nat.le_of_eq rfl) (hb hby at_41) ?_
  intro T34 L34 v34 X34 q34
  obtain ⟨rfl, N34, hh34⟩ := q34
  have N35 := Fr.app N33 N34
  show G (T34.setTop (mkF m 44 #[.val (.int u0), .val (.int u1), .val (.int y2), .val (.int y3), .val (.int (1 : Int32)), .unset, .unset] [(.int (if wpP y2.toInt then (1 : Int32) else 0)), (.int (if wpP y2.toInt then (1 : Int32) else 0))]))
  refine go _ _ (fun t' k' => XS.icmpNo X34.here hx rfl (hb hby at_44) rfl (Free.XT.ii_ne_f rfl) k') ?_
  show G (T34.setTop (mkF m 47 #[.val (.int u0), .val (.int u1), .val (.int y2), .val (.int y3), .val (.int (1 : Int32)), .unset, .unset] []))
  refine go _ _ (fun t' k' => XS.iconst X34.here hx rfl (hb hby at_47) k') ?_
  show G (T34.setTop (mkF m 48 #[.val (.int u0), .val (.int u1), .val (.int y2), .val (.int y3), .val (.int (1 : Int32)), .unset, .unset] [(.int (1 : Int32))]))
  refine go _ _ (fun t' k' => XS.goto X34.here hx rfl (pc0 := 48) (pc' := 52) rfl (hb hby at_48) (by decide) (by decide) k') ?_
  show G (T34.setTop (mkF m 52 #[.val (.int u0), .val (.int u1), .val (.int y2), .val (.int y3), .val (.int (1 : Int32)), .unset, .unset] [(.int (1 : Int32))]))
  refine go _ _ (fun t' k' => XS.istore X34.here hx rfl (hb hby at_52) rfl (l' := #[.val (.int u0), .val (.int u1), .val (.int y2), .val (.int y3), .val (.int (1 : Int32)), .val (.int (1 : Int32)), .unset]) rfl k') ?_
  show G (T34.setTop (mkF m 54 #[.val (.int u0), .val (.int u1), .val (.int y2), .val (.int y3), .val (.int (1 : Int32)), .val (.int (1 : Int32)), .unset] []))
  refine go _ _ (fun t' k' => XS.iloadN X34.here hx rfl (hb hby at_54) rfl  k') ?_
  show G (T34.setTop (mkF m 55 #[.val (.int u0), .val (.int u1), .val (.int y2), .val (.int y3), .val (.int (1 : Int32)), .val (.int (1 : Int32)), .unset] [(.int y3)]))
  refine own_static go X34 hx hZ hh34 hown (hw _ (List.mem_of_getElem? (i := 0) rfl)) (hw _ (List.mem_of_getElem? (i := 1) rfl)) (hw _ (List.mem_of_getElem? (i := 2) rfl)) (hw _ (List.mem_of_getElem? (i := 3) rfl)) (by decide) (rm1 l Z a0 hw y3 r0 h0 n0 Z0 S0 A0) 0 (by decide) (by decide) (by decide) (by decide) (g := (mkF m 55 #[.val (.int u0), .val (.int u1), .val (.int y2), .val (.int y3), .val (.int (1 : Int32)), .val (.int (1 : Int32)), .unset] [(.int y3)])) rfl (by rw [hml]; rfl) [(.int y3)] [] rfl (lenOf pd_0 rfl) rfl (by show 2 * 0 + _ ≤ _; exact Nat.le_of_eq rfl) (hb hby at_55) ?_
  intro T36 L36 v36 X36 q36
  obtain ⟨rfl, N36, hh36⟩ := q36
  have N37 := Fr.app N35 N36
  show G (T36.setTop (mkF m 58 #[.val (.int u0), .val (.int u1), .val (.int y2), .val (.int y3), .val (.int (1 : Int32)), .val (.int (1 : Int32)), .unset] [(.int (if wpP y3.toInt then (1 : Int32) else 0))]))
  refine go _ _ (fun t' k' => XS.iloadN X36.here hx rfl (hb hby at_58) rfl  k') ?_
  show G (T36.setTop (mkF m 59 #[.val (.int u0), .val (.int u1), .val (.int y2), .val (.int y3), .val (.int (1 : Int32)), .val (.int (1 : Int32)), .unset] [(.int y3), (.int (if wpP y3.toInt then (1 : Int32) else 0))]))
  refine own_static go X36 hx hZ hh36 hown (hw _ (List.mem_of_getElem? (i := 6) rfl)) (hw _ (List.mem_of_getElem? (i := 7) rfl)) (hw _ (List.mem_of_getElem? (i := 8) rfl)) (hw _ (List.mem_of_getElem? (i := 9) rfl)) (by decide) (rm2 l Z a0 hw y3 h0 n0 Z0) 1 (by decide) (by decide) (by decide) (by decide) (g := (mkF m 59 #[.val (.int u0), .val (.int u1), .val (.int y2), .val (.int y3), .val (.int (1 : Int32)), .val (.int (1 : Int32)), .unset] [(.int y3), (.int (if wpP y3.toInt then (1 : Int32) else 0))])) rfl (by rw [hml]; rfl) [(.int y3)] [(.int (if wpP y3.toInt then (1 : Int32) else 0))] rfl (lenOf pd_0 rfl) rfl (by show 2 * 0 + _ ≤ _; exact Nat.le_of_eq rfl) (hb hby at_59) ?_
  intro T38 L38 v38 X38 q38
  obtain ⟨rfl, N38, hh38⟩ := q38
  have N39 := Fr.app N37 N38
  show G (T38.setTop (mkF m 62 #[.val (.int u0), .val (.int u1), .val (.int y2), .val (.int y3), .val (.int (1 : Int32)), .val (.int (1 : Int32)), .unset] [(.int (if wpP y3.toInt then (1 : Int32) else 0)), (.int (if wpP y3.toInt then (1 : Int32) else 0))]))
  refine go _ _ (fun t' k' => XS.icmpNo X38.here hx rfl (hb hby at_62) rfl (Free.XT.ii_ne_f rfl) k') ?_
  show G (T38.setTop (mkF m 65 #[.val (.int u0), .val (.int u1), .val (.int y2), .val (.int y3), .val (.int (1 : Int32)), .val (.int (1 : Int32)), .unset] []))
  refine go _ _ (fun t' k' => XS.iconst X38.here hx rfl (hb hby at_65) k') ?_
  show G (T38.setTop (mkF m 66 #[.val (.int u0), .val (.int u1), .val (.int y2), .val (.int y3), .val (.int (1 : Int32)), .val (.int (1 : Int32)), .unset] [(.int (1 : Int32))]))
  refine go _ _ (fun t' k' => XS.goto X38.here hx rfl (pc0 := 66) (pc' := 70) rfl (hb hby at_66) (by decide) (by decide) k') ?_
  show G (T38.setTop (mkF m 70 #[.val (.int u0), .val (.int u1), .val (.int y2), .val (.int y3), .val (.int (1 : Int32)), .val (.int (1 : Int32)), .unset] [(.int (1 : Int32))]))
  refine go _ _ (fun t' k' => XS.istore X38.here hx rfl (hb hby at_70) rfl (l' := #[.val (.int u0), .val (.int u1), .val (.int y2), .val (.int y3), .val (.int (1 : Int32)), .val (.int (1 : Int32)), .val (.int (1 : Int32))]) rfl k') ?_
  show G (T38.setTop (mkF m 72 #[.val (.int u0), .val (.int u1), .val (.int y2), .val (.int y3), .val (.int (1 : Int32)), .val (.int (1 : Int32)), .val (.int (1 : Int32))] []))
  refine go _ _ (fun t' k' => XS.iload X38.here hx rfl (hb hby at_72) rfl  k') ?_
  show G (T38.setTop (mkF m 74 #[.val (.int u0), .val (.int u1), .val (.int y2), .val (.int y3), .val (.int (1 : Int32)), .val (.int (1 : Int32)), .val (.int (1 : Int32))] [(.int (1 : Int32))]))
  refine go _ _ (fun t' k' => XS.ifNo X38.here hx rfl (hb hby at_74) rfl (Free.XT.i0_eq_f (by decide)) k') ?_
  show G (T38.setTop (mkF m 77 #[.val (.int u0), .val (.int u1), .val (.int y2), .val (.int y3), .val (.int (1 : Int32)), .val (.int (1 : Int32)), .val (.int (1 : Int32))] []))
  refine go _ _ (fun t' k' => XS.iload X38.here hx rfl (hb hby at_77) rfl  k') ?_
  show G (T38.setTop (mkF m 79 #[.val (.int u0), .val (.int u1), .val (.int y2), .val (.int y3), .val (.int (1 : Int32)), .val (.int (1 : Int32)), .val (.int (1 : Int32))] [(.int (1 : Int32))]))
  refine go _ _ (fun t' k' => XS.ifNo X38.here hx rfl (hb hby at_79) rfl (Free.XT.i0_eq_f (by decide)) k') ?_
  show G (T38.setTop (mkF m 82 #[.val (.int u0), .val (.int u1), .val (.int y2), .val (.int y3), .val (.int (1 : Int32)), .val (.int (1 : Int32)), .val (.int (1 : Int32))] []))
  refine go _ _ (fun t' k' => XS.iload X38.here hx rfl (hb hby at_82) rfl  k') ?_
  show G (T38.setTop (mkF m 84 #[.val (.int u0), .val (.int u1), .val (.int y2), .val (.int y3), .val (.int (1 : Int32)), .val (.int (1 : Int32)), .val (.int (1 : Int32))] [(.int (1 : Int32))]))
  refine go _ _ (fun t' k' => XS.ifNo X38.here hx rfl (hb hby at_84) rfl (Free.XT.i0_eq_f (by decide)) k') ?_
  show G (T38.setTop (mkF m 87 #[.val (.int u0), .val (.int u1), .val (.int y2), .val (.int y3), .val (.int (1 : Int32)), .val (.int (1 : Int32)), .val (.int (1 : Int32))] []))
  refine go _ _ (fun t' k' => XS.iconst X38.here hx rfl (hb hby at_87) k') ?_
  show G (T38.setTop (mkF m 88 #[.val (.int u0), .val (.int u1), .val (.int y2), .val (.int y3), .val (.int (1 : Int32)), .val (.int (1 : Int32)), .val (.int (1 : Int32))] [(.int (1 : Int32))]))
  refine go _ _ (fun t' k' => XS.goto X38.here hx rfl (pc0 := 88) (pc' := 92) rfl (hb hby at_88) (by decide) (by decide) k') ?_
  show G (T38.setTop (mkF m 92 #[.val (.int u0), .val (.int u1), .val (.int y2), .val (.int y3), .val (.int (1 : Int32)), .val (.int (1 : Int32)), .val (.int (1 : Int32))] [(.int (1 : Int32))]))
  refine own_retZ rt X38 hx (t := .boolean) hret (by simp) (hb hby at_92) (by decide) (by decide) ?_
  exact ⟨rfl, N39⟩
set_option maxRecDepth 65536 in
set_option maxHeartbeats 40000000 in
theorem comes_1 {Post : Tables → Env → Array Value → State → Outcome → State → Prop} (hpost : ∀ tb e args s v u, (limb_1_1.after args s (.returned v) u = true ∧ limb_1_2.after args s (.returned v) u = true ∧ True) → FrameEnd s (.returned v) u (Jvm.fieldLocs frame_1_writes args s ++ Jvm.arrayLocs frame_1_arrays args s ++ Jvm.staticLocs frame_1_statics s) 0 0 → Post tb e args s (.returned v) u) :
    ArmFor flags0 classFile x code maxLocals ret World_1 tables_1 room_1 Calls_1 rest_1 Pre_1 Post := by
  intro l hfl _ _ p e ha hc hk s m args below hf hA hF happ hP
  obtain ⟨hcalls, hrest, hpre⟩ := hP
  obtain ⟨-, -, -, hnamed, -, -, -, hat⟩ := (Spec.applies_iff hf).mp happ
  obtain ⟨hg, hn⟩ := and_e (Cond.before_iff.mp (show (Jvm.Cond.and given_1 narrow_1).before args s = true from hpre))
  obtain ⟨k0, hg0⟩ := and_e hg
  obtain ⟨ka0, hg1⟩ := and_e hg0
  have ka1 := hg1
  obtain ⟨w0, w1, rfl⟩ : ∃ w0 w1 : Value, args = #[w0, w1] := by
    have hs : args.size = 2 := by simpa [Cond.value, given_1] using k0
    obtain ⟨L⟩ := args
    match L, hs with
    | [w0, w1], _ => exact ⟨w0, w1, rfl⟩
  have hw := fun d (hd : d ∈ tables_1) => atoms_spec (ws := Jvm.Cond.code x code maxLocals ret :: tables_1) hat d (List.mem_cons_of_mem _ hd)
  have hfit : Fit s := fun {y c} hc i hi => by
    obtain ⟨ha, rfl⟩ := Array.getElem?_eq_some_iff.mp hc
    have q := List.all_eq_true.mp ((Array.all_eq_true_iff_forall_mem.mp hF) _ (Array.getElem_mem ha)) i (List.mem_range.mpr hi)
    simpa [Array.getElem?_eq_getElem hi] using q
  obtain ⟨i0, ie0⟩ := is_v ka0
  obtain rfl : w0 = (.int i0) := Option.some.inj ie0
  obtain ⟨i1, ie1⟩ := is_v ka1
  obtain rfl : w1 = (.int i1) := Option.some.inj ie1
  obtain ⟨na0, nb0⟩ := and_e hn
  obtain ⟨na1, nb1⟩ := and_e nb0
  obtain ⟨na2, nb2⟩ := and_e nb1
  obtain ⟨na3, nb3⟩ := and_e nb2
  obtain ⟨na4, nb4⟩ := and_e nb3
  obtain ⟨na5, nb5⟩ := and_e nb4
  obtain ⟨na6, nb6⟩ := and_e nb5
  obtain ⟨na7, nb7⟩ := and_e nb6
  obtain ⟨na8, nb8⟩ := and_e nb7
  obtain ⟨na9, nb9⟩ := and_e nb8
  obtain ⟨na10, nb10⟩ := and_e nb9
  have na11 := nb10
  obtain ⟨r0, ev⟩ := arr_v na0
  have S0 := Sta.start ev (Or.inr ⟨((hw _ (List.mem_of_getElem? (i := 2) rfl))), ((hw _ (List.mem_of_getElem? (i := 5) rfl)))⟩)
  obtain ⟨cl, Ar⟩ := Arr.start ev na0
  have hat0 : s.arrayAt? r0 = some cl := Arr.fin (State.Warmed39.refl s).alike Ar
  obtain ⟨hsz, hl⟩ := own_len ev hat0 na1
  have hsz' : cl.slots.size = 128 := by have : (128 : Int32).toInt = 128 := rfl; omega
  have A0 : Ary s s.heap r0 .boolean 128 (fun i => .int (wp i)) := by
    have key : ∀ i, i < 128 → cl.slots[i]? = some (.int (wp i)) ∧ fits .boolean (.int (wp i)) = true := by
      intro i hi
      have hi' : i < cl.slots.size := by omega
      have e := len_toInt (n := i) (by omega)
      have hj : ¬ (i.toInt32 < 0 ∨ cl.slots.size ≤ i.toInt32.toNatClampNeg) := ix_in e hi'
      obtain ⟨v, hv, hft⟩ := elem_fit hfit Ar hj
      rw [ix_of e] at hv
      obtain ⟨y, rfl⟩ := fit_I hft (by simp)
      have q2 := own_all_le ev hat0 hl hi' hv na2
      have q6 := own_all3 ev hat0 hl hi' hv na6
      have q7 := own_all3 ev hat0 hl hi' hv na7
      have q8 := own_all3 ev hat0 hl hi' hv na8
      have q9 := own_all3 ev hat0 hl hi' hv na9
      have q10 := own_all3 ev hat0 hl hi' hv na10
      have q11 := own_all_lt ev hat0 hl hi' hv na11
      have q3 : i = 45 → y = 1 := fun z => by subst z; exact own_elem_k (i := 45) rfl ev hat0 hv na3
      have q4 : i = 46 → y = 0 := fun z => by subst z; exact own_elem_k (i := 46) rfl ev hat0 hv na4
      have q5 : i = 47 → y = 0 := fun z => by subst z; exact own_elem_k (i := 47) rfl ev hat0 hv na5
      have hy : y = wp i := by
        simp only [show (45 : Int32).toInt = 45 from rfl, show (48 : Int32).toInt = 48 from rfl, show (58 : Int32).toInt = 58 from rfl, show (65 : Int32).toInt = 65 from rfl, show (91 : Int32).toInt = 91 from rfl, show (97 : Int32).toInt = 97 from rfl, show (123 : Int32).toInt = 123 from rfl] at q2 q6 q7 q8 q9 q10 q11
        unfold wp
        by_cases z : wpP i
        · rw [if_pos z]; unfold wpP at z
          rcases z with z | z | z | z
          · exact q3 (by omega)
          · exact (q6.resolve_left (by omega)).resolve_left (by omega)
          · exact (q8.resolve_left (by omega)).resolve_left (by omega)
          · exact (q10.resolve_left (by omega)).resolve_left (by omega)
        · rw [if_neg z]; unfold wpP at z
          by_cases c1 : i < 45
          · exact q2.resolve_left (by omega)
          by_cases c2 : i = 46
          · exact q4 c2
          by_cases c3 : i = 47
          · exact q5 c3
          by_cases c4 : i < 65
          · exact (q7.resolve_left (by omega)).resolve_left (by omega)
          by_cases c5 : i < 97
          · exact (q9.resolve_left (by omega)).resolve_left (by omega)
          · exact q11.resolve_left (by omega)
      exact ⟨hy ▸ hv, hy ▸ hft⟩
    exact ⟨cl, Ar, hsz', by decide, fun i hi => (key i hi).1, fun i hi => (key i hi).2⟩
  obtain ⟨n, o, h1, h2, h3, _, L, rfl, ⟨rfl, N⟩, hq⟩ := rm0 l s _ hw i0 i1 s.heap s.heap.size (Nat.le_refl _) r0 S0 A0 tables_1 p e ha hc hk s m _ below hf ((Spec.applies_iff_loose hf).mp happ).1 ⟨rfl, State.Warmed39.refl s, rfl⟩ trivial
  refine ⟨n, _, h1, h2, h3, hpost _ _ _ _ _ _ ⟨Cond.after_iff.mpr rfl, Cond.after_iff.mpr (eq_i res_at (Term.int_eval (1)) rfl), trivial⟩ ⟨hq.1, hq.2.1, (hq.2.2.sift fun y hy => Or.inr (N y hy)).mono (by decide) (by decide)⟩⟩
theorem main_1_1 : Claimed_1_1 := comes_1 fun _ _ _ _ _ _ h hF => ⟨h.1, hF⟩
theorem main_1_2 : Claimed_1_2 := comes_1 fun _ _ _ _ _ _ h hF => ⟨h.2.1, hF⟩
end Jvm.Pilot.@@N@@
namespace Jvm.Pilot.@@N@@
open Jvm Jvm.ClassFile Sem Op Lib Jvm.Free Jvm.Stand Jvm.Pilot.@@N@@.Jvm.D
/-! MADE BY PROGRAM (witnessworld.py) out of the Statement's table words and the real class files: 11 classes; the members and pool entries that the words name. The judged class is class 1, her method 1. -/
namespace start1
open Jvm.ClassFile
def u (s : String) : CpInfo := .utf8 (stringToUtf16 s)
/-- a pool by its gaps: so many unusable entries, then the entry; so many at the end -/
def gap : Nat → List CpInfo → List CpInfo
  | 0, r => r
  | n + 1, r => .unusable :: gap n r
def poolList (es : List (Nat × CpInfo)) (last : Nat) : List CpInfo := es.foldr (fun e r => gap e.1 (e.2 :: r)) (gap last [])
def pool (es : List (Nat × CpInfo)) (last : Nat) : Array CpInfo := ⟨poolList es last⟩
def fileOf (pool : Array CpInfo) (this : Nat) (attrs : Array Attribute := #[]) (ms : Array MethodInfo := #[]) (fl : Nat := 33) (sup : Nat := 0) (ifs : Array Nat := #[]) (fds : Array FieldInfo := #[]) : ClassFile where
  minorVersion := 0
  majorVersion := 65
  constantPool := pool
  accessFlags := fl
  thisClass := this
  superClass := sup
  interfaces := ifs
  fields := fds
  methods := ms
  attributes := attrs
def plain (name : String) (sup : Option ClassId) : Class where
  name := name
  kind := .ordinary
  loader := none
  accessFlags := 33
  super := sup
  interfaces := #[]
  cf := none
  fields := #[]
  methods := #[]
  instanceTypes := #[]
  staticTypes := #[]
  resolved := #[]
  callSites := []
  init := .initialized
  statics := none
  mirror := none

def pool0 : Array CpInfo := pool [(5, u "<init>"), (0, u "()V"), (1, .class_ 10), (1, u "java/lang/Object")] 113

def k0m0 : Method := { name := "<init>", desc := "()V", sig := { parameters := [], returnType := none }, accessFlags := 1, code := none }
/-- java/lang/Object -/
def k0 : Class := { plain "java/lang/Object" none with
  accessFlags := 33
  interfaces := #[]
  cf := some (fileOf pool0 8 #[] #[{ accessFlags := 1, nameIndex := 5, descriptorIndex := 6, attributes := #[] }] 33 0 #[] #[])
  fields := #[]
  methods := #[k0m0]
  instanceTypes := #[]
  staticTypes := #[]
  resolved := Array.replicate 124 none
  statics := none }

def pool1 : Array CpInfo := pool [(2, .class_ 4), (1, u "java/lang/Object"), (0, u "<init>"), (0, u "()V"), (0, .methodref 8 9), (0, .class_ 10), (0, .nameAndType 11 12), (0, u "com/example/clearbrace/clearbrace/gser/GserCursor"), (0, u "isWordPart"), (0, u "(I)Z"), (0, .methodref 14 15), (0, .class_ 16), (0, .nameAndType 17 12), (0, u "com/example/clearbrace/clearbrace/gser/GserCursorIsWordPartPinLaw"), (0, u "expected"), (2, u "law"), (0, u "(II)Z")] 3

def k1m0 : Method := { name := "<init>", desc := "()V", sig := { parameters := [], returnType := none }, accessFlags := 1, code := none }
def k1c1 : Code := { maxStack := 2, maxLocals := 7, code := code, exceptionTable := #[], attributes := #[] }
def k1m1 : Method := { name := "law", desc := "(II)Z", sig := { parameters := [.int, .int], returnType := some .boolean }, accessFlags := 9, code := some k1c1 }
def k1c2 : Code := { maxStack := 2, maxLocals := 1, code := method_3_code, exceptionTable := #[], attributes := #[] }
def k1m2 : Method := { name := "expected", desc := "(I)Z", sig := { parameters := [.int], returnType := some .boolean }, accessFlags := 10, code := some k1c2 }
/-- com/example/clearbrace/clearbrace/gser/GserCursorIsWordPartPinLaw -/
def k1 : Class := { plain "com/example/clearbrace/clearbrace/gser/GserCursorIsWordPartPinLaw" (some 0) with
  accessFlags := 49
  interfaces := #[]
  cf := some (fileOf pool1 14 #[] #[{ accessFlags := 1, nameIndex := 5, descriptorIndex := 6, attributes := #[] }, { accessFlags := 9, nameIndex := 20, descriptorIndex := 21, attributes := #[] }, { accessFlags := 10, nameIndex := 17, descriptorIndex := 12, attributes := #[] }] 49 2 #[] #[])
  fields := #[]
  methods := #[k1m0, k1m1, k1m2]
  instanceTypes := #[]
  staticTypes := #[]
  resolved := Array.replicate 25 none
  statics := none }

def pool2 : Array CpInfo := pool [(4, .class_ 6), (1, u "java/lang/Object"), (3, .class_ 12), (1, u "com/example/clearbrace/clearbrace/gser/GserCursor"), (0, u "_text"), (0, u "Ljava/lang/String;"), (2, u "_invalidUtf8"), (0, u "Lcom/example/clearbrace/clearbrace/TextException;"), (2, u "_maxDepth"), (0, u "I"), (2, u "_constrained"), (0, u "Z"), (2, u "_pos"), (38, u "_depth"), (67, u "(I)Z"), (2, u "isWordPart"), (201, .fieldref 10 342), (0, .nameAndType 343 344), (0, u "WORD_PARTS"), (0, u "[Z"), (2, u "HEX_DIGITS"), (0, u "[B"), (22, u "TOO_MANY_DIGITS"), (1, u "MAX_FIRST_ARC"), (1, u "MAX_SECOND_ARC"), (1, u "LONG_DIGITS"), (1, u "ARCS"), (1, u "LARGE"), (0, u "J")] 89

def k2c0 : Code := { maxStack := 2, maxLocals := 1, code := prog_25_method_44_code, exceptionTable := #[], attributes := #[] }
def k2m0 : Method := { name := "isWordPart", desc := "(I)Z", sig := { parameters := [.int], returnType := some .boolean }, accessFlags := 8, code := some k2c0 }
/-- com/example/clearbrace/clearbrace/gser/GserCursor -/
def k2 : Class := { plain "com/example/clearbrace/clearbrace/gser/GserCursor" (some 0) with
  accessFlags := 48
  interfaces := #[]
  cf := some (fileOf pool2 10 #[] #[{ accessFlags := 8, nameIndex := 139, descriptorIndex := 136, attributes := #[] }] 48 4 #[] #[{ accessFlags := 18, nameIndex := 13, descriptorIndex := 14, attributes := #[] }, { accessFlags := 18, nameIndex := 17, descriptorIndex := 18, attributes := #[] }, { accessFlags := 18, nameIndex := 21, descriptorIndex := 22, attributes := #[] }, { accessFlags := 18, nameIndex := 25, descriptorIndex := 26, attributes := #[] }, { accessFlags := 2, nameIndex := 29, descriptorIndex := 22, attributes := #[] }, { accessFlags := 2, nameIndex := 68, descriptorIndex := 22, attributes := #[] }, { accessFlags := 24, nameIndex := 371, descriptorIndex := 14, attributes := #[] }, { accessFlags := 26, nameIndex := 373, descriptorIndex := 22, attributes := #[] }, { accessFlags := 26, nameIndex := 375, descriptorIndex := 22, attributes := #[] }, { accessFlags := 26, nameIndex := 377, descriptorIndex := 22, attributes := #[] }, { accessFlags := 26, nameIndex := 379, descriptorIndex := 22, attributes := #[] }, { accessFlags := 26, nameIndex := 381, descriptorIndex := 382, attributes := #[] }, { accessFlags := 26, nameIndex := 347, descriptorIndex := 348, attributes := #[] }, { accessFlags := 26, nameIndex := 343, descriptorIndex := 344, attributes := #[] }])
  fields := #[{ name := "_text", type := (.object "java/lang/String"), accessFlags := 18, slot := 0, constantValue := 0 }, { name := "_invalidUtf8", type := (.object "com/example/clearbrace/clearbrace/TextException"), accessFlags := 18, slot := 1, constantValue := 0 }, { name := "_maxDepth", type := .int, accessFlags := 18, slot := 2, constantValue := 0 }, { name := "_constrained", type := .boolean, accessFlags := 18, slot := 3, constantValue := 0 }, { name := "_pos", type := .int, accessFlags := 2, slot := 4, constantValue := 0 }, { name := "_depth", type := .int, accessFlags := 2, slot := 5, constantValue := 0 }, { name := "TOO_MANY_DIGITS", type := (.object "java/lang/String"), accessFlags := 24, slot := 0, constantValue := 0 }, { name := "MAX_FIRST_ARC", type := .int, accessFlags := 26, slot := 1, constantValue := 0 }, { name := "MAX_SECOND_ARC", type := .int, accessFlags := 26, slot := 2, constantValue := 0 }, { name := "LONG_DIGITS", type := .int, accessFlags := 26, slot := 3, constantValue := 0 }, { name := "ARCS", type := .int, accessFlags := 26, slot := 4, constantValue := 0 }, { name := "LARGE", type := .long, accessFlags := 26, slot := 5, constantValue := 0 }, { name := "HEX_DIGITS", type := (.array .byte), accessFlags := 26, slot := 6, constantValue := 0 }, { name := "WORD_PARTS", type := (.array .boolean), accessFlags := 26, slot := 7, constantValue := 0 }]
  methods := #[k2m0]
  instanceTypes := #[(.object "java/lang/String"), (.object "com/example/clearbrace/clearbrace/TextException"), .int, .boolean, .int, .int]
  staticTypes := #[(.object "java/lang/String"), .int, .int, .int, .int, .long, (.array .byte), (.array .boolean)]
  resolved := Array.replicate 472 none
  statics := some 0 }

def pool3 : Array CpInfo := pool [(1, u "java/lang/Cloneable"), (0, .class_ 1), (0, u "java/lang/Object"), (0, .class_ 3)] 3

/-- java/lang/Cloneable -/
def k3 : Class := { plain "java/lang/Cloneable" (some 0) with
  accessFlags := 1537
  interfaces := #[]
  cf := some (fileOf pool3 2 #[] #[] 1537 4 #[] #[])
  fields := #[]
  methods := #[]
  instanceTypes := #[]
  staticTypes := #[]
  resolved := Array.replicate 8 none
  statics := none }

def pool4 : Array CpInfo := pool [(1, u "java/io/Serializable"), (0, .class_ 1), (0, u "java/lang/Object"), (0, .class_ 3)] 3

/-- java/io/Serializable -/
def k4 : Class := { plain "java/io/Serializable" (some 0) with
  accessFlags := 1537
  interfaces := #[]
  cf := some (fileOf pool4 2 #[] #[] 1537 4 #[] #[])
  fields := #[]
  methods := #[]
  instanceTypes := #[]
  staticTypes := #[]
  resolved := Array.replicate 8 none
  statics := none }

/-- the primitive boolean -/
def k5 : Class := { plain "boolean" none with kind := .primitive 'Z', accessFlags := 0x411 }
/-- [Z -/
def k6 : Class := { plain "[Z" (some 0) with kind := .array 5 .boolean, interfaces := #[3, 4], accessFlags := 1041 }

/-- the primitive byte -/
def k7 : Class := { plain "byte" none with kind := .primitive 'B', accessFlags := 0x411 }
/-- [B -/
def k8 : Class := { plain "[B" (some 0) with kind := .array 7 .byte, interfaces := #[3, 4], accessFlags := 1041 }

/-- the primitive int -/
def k9 : Class := { plain "int" none with kind := .primitive 'I', accessFlags := 0x411 }
/-- [I -/
def k10 : Class := { plain "[I" (some 0) with kind := .array 9 .int, interfaces := #[3, 4], accessFlags := 1041 }

def heap : Heap := #[{ cls := 2, slots := #[.null, .int 0, .int 0, .int 0, .int 0, .long 0, .null, .ref 1], vm := .statics 2 },
  { cls := 6, slots := #[.int 0, .int 0, .int 0, .int 0, .int 0, .int 0, .int 0, .int 0, .int 0, .int 0, .int 0, .int 0, .int 0, .int 0, .int 0, .int 0, .int 0, .int 0, .int 0, .int 0, .int 0, .int 0, .int 0, .int 0, .int 0, .int 0, .int 0, .int 0, .int 0, .int 0, .int 0, .int 0, .int 0, .int 0, .int 0, .int 0, .int 0, .int 0, .int 0, .int 0, .int 0, .int 0, .int 0, .int 0, .int 0, .int 1, .int 0, .int 0, .int 1, .int 1, .int 1, .int 1, .int 1, .int 1, .int 1, .int 1, .int 1, .int 1, .int 0, .int 0, .int 0, .int 0, .int 0, .int 0, .int 0, .int 1, .int 1, .int 1, .int 1, .int 1, .int 1, .int 1, .int 1, .int 1, .int 1, .int 1, .int 1, .int 1, .int 1, .int 1, .int 1, .int 1, .int 1, .int 1, .int 1, .int 1, .int 1, .int 1, .int 1, .int 1, .int 1, .int 0, .int 0, .int 0, .int 0, .int 0, .int 0, .int 1, .int 1, .int 1, .int 1, .int 1, .int 1, .int 1, .int 1, .int 1, .int 1, .int 1, .int 1, .int 1, .int 1, .int 1, .int 1, .int 1, .int 1, .int 1, .int 1, .int 1, .int 1, .int 1, .int 1, .int 1, .int 1, .int 0, .int 0, .int 0, .int 0, .int 0], vm := .none }]
def classes : Array Class := #[k0, k1, k2, k3, k4, k5, k6, k7, k8, k9, k10]
def interned : List (Array UInt16 × Addr) := []
def slotsUsed : Nat := 136
def theMethod : MethodId := ⟨1, 1⟩
def args0 : Array Value := #[.int 5, .int 300]
def aboutOver (below : List Frame) : State where
  vm := { classes := classes, interned := interned.toArray }
  heap := heap
  slotsUsed := slotsUsed
  threads := #[{ frames := .invoking theMethod args0 :: below }]
def below0 : List Frame := [.native { method := ⟨0, 0⟩, args := #[] }]
def about1 : State := aboutOver below0
def p0 : Program := .bare "" "" ""
def e0 : Env := launch0.env 0 0 0
theorem w_frames : about1.frames = Frame.invoking theMethod args0 :: below0 := rfl
set_option maxRecDepth 65536 in
theorem w_args : argsFit about1.vm theMethod args0 = true := by decide +kernel
set_option maxRecDepth 65536 in
theorem w_heap : heapFits about1 = true := by decide +kernel
set_option maxRecDepth 65536 in
theorem w_runnable : about1.curStatus? = some .runnable := by decide +kernel
set_option maxRecDepth 65536 in
theorem w_alone : about1.alone = true := by decide +kernel
set_option maxRecDepth 65536 in
theorem w_named : about1.methodNamed? x = some theMethod := by decide +kernel
set_option maxRecDepth 65536 in
theorem w_hears : about1.hears theMethod below0 = true := by decide +kernel
set_option maxRecDepth 65536 in
theorem w_ripe : about1.ripe theMethod args0 below0 = true := by decide +kernel
theorem w_running : about1.status = .running := rfl
set_option maxRecDepth 65536 in
theorem w_room : about1.hasRoom e0.platform room_1 = true :=
  launch0.hasRoom_least _ room_1 (by decide +kernel) (by decide +kernel) (by decide +kernel) (by decide +kernel) (by decide +kernel) (by decide +kernel)
theorem allAtoms_all (ts : List Jvm.Cond) (a : Array Jvm.Value) (st : Jvm.State) : (allAtoms ts).before a st = ts.all (fun c => c.before a st) := by
  induction ts with
  | nil => rfl
  | cons c t ih =>
    show (Jvm.Cond.and c (allAtoms t)).before a st = _
    rw [Jvm.Cond.before_and, ih, List.all_cons]
def words1 : List Jvm.Cond := Jvm.Cond.code x code maxLocals ret :: tables_1
/-- a 'code' word, met by the world's own term for the bytes: nothing is compared byte by byte -/
theorem code_word {y : MethodName} {bytes : ByteArray} {mx : Nat} {rt : Option FieldType} {a : Array Value} {s : State} {m : MethodId} {meth : Method} {c : Code} (h1 : s.methodNamed? y = some m) (h2 : s.vm.method? m = some meth) (h3 : meth.code = some c) (h4 : c.code = bytes)
    (h5 : (c.maxLocals == mx && c.exceptionTable.isEmpty && decide (c.maxStack ≤ mostOperands) && decide (meth.sig.returnType = rt) && !meth.locks && decide (parseMethodDescriptor y.desc = some meth.sig)) = true) : (Jvm.Cond.code y bytes mx rt).before a s = true := by
  simp only [Bool.and_eq_true, beq_iff_eq, Bool.not_eq_true', decide_eq_true_eq] at h5
  obtain ⟨⟨⟨⟨⟨g1, g2⟩, g3⟩, g4⟩, g5⟩, g6⟩ := h5
  simp [Cond.before, Cond.holds, Cond.value, h1, h2, h3, h4, g1, g2, g3, g4, g5, g6]
def isCode : Jvm.Cond → Bool
  | .code _ _ _ _ => true
  | _ => false
theorem all_split {L : List Jvm.Cond} {P : Jvm.Cond → Bool} (h1 : L.all (fun c => isCode c || P c) = true) (h2 : ∀ c ∈ L.filter isCode, P c = true) : L.all P = true := by
  refine List.all_eq_true.mpr fun c hc => ?_
  have h := List.all_eq_true.mp h1 c hc
  rcases Bool.eq_false_or_eq_true (isCode c) with hi | hi
  · exact h2 c (List.mem_filter.mpr ⟨hc, hi⟩)
  · simpa [hi] using h
set_option maxRecDepth 65536 in
theorem w_c0 : (Jvm.Cond.code x code maxLocals ret).before args0 about1 = true := code_word (m := ⟨1, 1⟩) (meth := k1m1) (c := k1c1) (by decide +kernel) rfl rfl rfl (by decide +kernel)
set_option maxRecDepth 65536 in
theorem w_c1 : (Jvm.Cond.code ({ cls := "com/example/clearbrace/clearbrace/gser/GserCursor", name := "isWordPart", desc := "(I)Z" } : Jvm.MethodName) prog_25_method_44_code (1 : Nat) (Option.some Jvm.ClassFile.FieldType.boolean)).before args0 about1 = true := code_word (m := ⟨2, 0⟩) (meth := k2m0) (c := k2c0) (by decide +kernel) rfl rfl rfl (by decide +kernel)
set_option maxRecDepth 65536 in
theorem w_c2 : (Jvm.Cond.code ({ cls := "com/example/clearbrace/clearbrace/gser/GserCursorIsWordPartPinLaw", name := "expected", desc := "(I)Z" } : Jvm.MethodName) method_3_code (1 : Nat) (Option.some Jvm.ClassFile.FieldType.boolean)).before args0 about1 = true := code_word (m := ⟨1, 2⟩) (meth := k1m2) (c := k1c2) (by decide +kernel) rfl rfl rfl (by decide +kernel)
def codes1 : List Jvm.Cond := [Jvm.Cond.code x code maxLocals ret, Jvm.Cond.code ({ cls := "com/example/clearbrace/clearbrace/gser/GserCursor", name := "isWordPart", desc := "(I)Z" } : Jvm.MethodName) prog_25_method_44_code (1 : Nat) (Option.some Jvm.ClassFile.FieldType.boolean), Jvm.Cond.code ({ cls := "com/example/clearbrace/clearbrace/gser/GserCursorIsWordPartPinLaw", name := "expected", desc := "(I)Z" } : Jvm.MethodName) method_3_code (1 : Nat) (Option.some Jvm.ClassFile.FieldType.boolean)]
set_option maxRecDepth 65536 in
theorem codes_eq : words1.filter isCode = codes1 := rfl
theorem w_codes : ∀ c ∈ words1.filter isCode, c.before args0 about1 = true := by
  rw [codes_eq]
  intro c hc
  simp only [codes1, List.mem_cons, List.not_mem_nil, or_false] at hc
  rcases hc with rfl | rfl | rfl
  · exact w_c0
  · exact w_c1
  · exact w_c2
set_option maxRecDepth 65536 in
theorem w_t1 : words1.all (fun c => isCode c || c.before args0 about1) = true := by decide +kernel
theorem w_tables : (allAtoms (Jvm.Cond.code x code maxLocals ret :: tables_1)).before args0 about1 = true := by
  rw [allAtoms_all]
  show words1.all (fun c => c.before args0 about1) = true
  refine all_split ?_ w_codes
  rw [w_t1]
set_option maxRecDepth 65536 in
theorem w_case : (Jvm.Cond.and given_1 narrow_1).before args0 about1 = true := by decide +kernel
theorem w_applies : (headSpec (Jvm.Cond.code x code maxLocals ret :: tables_1) room_1).applies x e0.platform about1 = true :=
  (Spec.applies_iff w_frames).mpr ⟨w_running, w_runnable, w_alone, w_named, w_hears, w_ripe, w_room, w_tables⟩
theorem atStart : AtStart classFile x code maxLocals ret World_1 tables_1 room_1 Calls_1 rest_1 Pre_1 launch0 p0 e0 about1 theMethod args0 below0 :=
  ⟨lists_1, trivial, launch0.admits_env _ _ _, launch0.least_env, fairChoices_fair.cas, fairChoices_fair.clock, w_frames, w_args, w_heap, w_applies, trivial, trivial, w_case⟩
end start1
theorem witness_1 : WitnessClaimed_1 := ⟨start1.p0, start1.e0, start1.about1, start1.theMethod, start1.args0, start1.below0, start1.atStart⟩
end Jvm.Pilot.@@N@@
