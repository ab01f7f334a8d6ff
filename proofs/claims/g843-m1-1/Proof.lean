import JvmDerived
import JvmDerived.Pilot.@@N@@Statement
import JvmDerived.Pilot.@@N@@Code
set_option linter.unusedVariables false
set_option linter.unusedSimpArgs false
namespace Jvm.Pilot.@@N@@
open Jvm Jvm.ClassFile Sem Op Lib Jvm.Free Jvm.Stand Jvm.LawKit Jvm.RoadKit Bundle Jvm.Pilot.@@N@@.Jvm.D
section Own
variable {p : Program} {l : Launch} {e : Env} {R : Room} {s : State} {m : MethodId} {args : Array Value} {below : List Frame} {meth : Method} {c : Code} {T : State} {locs : List Loc} {cells slots : Nat} {Z : State} {a0 : Array Value} {h : Heap}
/-- the goal of a walk is a predicate that may be carried back over steps -/
def Go (p : Program) (e : Env) (below : List Frame) (G : State → Prop) : Prop := ∀ F F' : State, (∀ t, Steps p.tables e below F' t → Steps p.tables e below F t) → G F' → G F
/-- how a walk ends: it returns v -/
def Rt (p : Program) (l : Launch) (e : Env) (R : Room) (s : State) (m : MethodId) (args : Array Value) (below : List Frame) (meth : Method) (c : Code) (Q : Option Value → Heap → List Loc → Prop) (kc ks : Nat) (G : State → Prop) : Prop :=
  ∀ (T : State) (locs : List Loc) (cells slots : Nat) (v : Option Value) (F : State), Stand p l e R s m args below meth c T locs cells slots → cells ≤ kc → slots ≤ ks → (meth.sig.returnType = none → v = none) → Q v T.heap locs →
    (∀ fs, (∀ (f : JFrame) (acts : List Action), f.method = m → f.locked = none → f.entered = [] → (doReturn e (T.setTop f) acts v).1 = T.setFrames fs) → Steps p.tables e below F (T.setFrames fs)) → G F
def Gl (p : Program) (e : Env) (below : List Frame) (s : State) (Q : Option Value → Heap → List Loc → Prop) (kc ks : Nat) (F : State) : Prop :=
  ∃ s₂ o, Steps p.tables e below F s₂ ∧ s₂.status = .running ∧ Ended s₂ below o ∧ ∃ v L, o = .returned v ∧ Q v s₂.heap L ∧ FrameEnd s o s₂ L kc ks
theorem gl_go {Q : Option Value → Heap → List Loc → Prop} {kc ks : Nat} : Go p e below (Gl p e below s Q kc ks) := fun F F' h g => by
  obtain ⟨s₂, o, h1, h2⟩ := g
  exact ⟨s₂, o, h _ h1, h2⟩
theorem gl_rt {Q : Option Value → Heap → List Loc → Prop} {kc ks : Nat} (hlk : meth.locks = false) : Rt p l e R s m args below meth c Q kc ks (Gl p e below s Q kc ks) := fun T locs cells slots v F X hc hs hv hQ st => by
  obtain ⟨fs, hr, hrun, hended, hW, hsame⟩ := X.leave (v := v) hv hlk
  exact ⟨_, _, st fs hr, hrun, hended, v, locs, rfl, hQ, ⟨_, rfl⟩, hW, hsame.mono hc hs⟩
/-- a method's contract, at given arguments and a given heap -/
def Con (l : Launch) (Z : State) (y : MethodName) (bytes : ByteArray) (maxL : Nat) (ret : Option FieldType) (rm : Room) (as' : Array Value) (h : Heap) (Q : Option Value → Heap → List Loc → Prop) : Prop :=
  ∀ ws, MetFree l y (head1 (Jvm.Cond.code y bytes maxL ret :: ws) rm) (fun a U => a = as' ∧ Z.Warmed39 U.vm ∧ U.heap = h) (fun _ _ _ _ _ => True) (fun _ U o U' => ∃ v L, o = .returned v ∧ Q v U'.heap L ∧ FrameEnd U o U' L rm.cells rm.slots)
theorem own_body {y : MethodName} {bytes : ByteArray} {maxL : Nat} {ret : Option FieldType} {rm : Room} {as' : Array Value} {h0 : Heap} {Q : Option Value → Heap → List Loc → Prop} (hp : plainName y.cls = true)
    (k : ∀ (p : Program) (e : Env) (s : State) (m : MethodId) (below : List Frame) (meth : Method) (c : Code) (s₁ : State), p.tables.exec = Jvm.exec → c.code = bytes → c.maxLocals = maxL → s.vm.findClass y.cls = some m.cls → meth.name = y.name → meth.sig.returnType = ret → Z.Warmed39 s.vm → s₁.heap = h0 →
      Stand p l e rm s m as' below meth c s₁ [] 0 0 → ∀ G : State → Prop, Go p e below G → Rt p l e rm s m as' below meth c Q rm.cells rm.slots G → G (s₁.setTop (entryFrame m as' maxL))) : Con l Z y bytes maxL ret rm as' h0 Q := fun ws => by
  refine MetFree.of_bodySF (plainFor_of_name hp) hisR ?_
  intro p e s m args below meth c s₁ Bd hml0 hP hK
  obtain ⟨rfl, hZ, hh⟩ := hP
  exact k p e s m below meth c s₁ Bd.exec Bd.bytes hml0 (findClass_of_methodNamed Bd.named) (name_of_methodNamed Bd.named Bd.method).1 Bd.returns hZ (by rw [← hh, Bd.state]; rfl) (Stand.of_body Bd) (Gl p e below s Q rm.cells rm.slots) gl_go (gl_rt Bd.notSynchronized)
theorem own_hide {k : Nat} (X : Stand p l e R s m args below meth c T locs cells slots) (N : Fr k locs) : ∃ L, Stand p l e R s m args below meth c T L cells slots ∧ Fr k L := ⟨_, X, N⟩
section Rets
variable {Q : Option Value → Heap → List Loc → Prop} {kc ks : Nat} {G : State → Prop}
theorem own_retI (rt : Rt p l e R s m args below meth c Q kc ks G) (X : Stand p l e R s m args below meth c T locs cells slots) (hx : p.tables.exec = Jvm.exec) {pc : Nat} {Ls : Array Slot} {rest : List Value} (hret : meth.sig.returnType = some .int) {z : Int32} (hd : decode c.code pc = .ok (.ireturn, 1)) (hc : cells ≤ kc) (hs : slots ≤ ks) (hQ : Q (some (.int z)) T.heap locs) : G (T.setTop (mkF m pc Ls (.int z :: rest))) :=
  rt T locs cells slots _ _ X hc hs (fun h => by rw [hret] at h; cases h) hQ fun fs hr => retOut X hx hret rfl (Or.inl ⟨rfl, Or.inl rfl, _, rfl⟩) hd hr
theorem own_retZ (rt : Rt p l e R s m args below meth c Q kc ks G) (X : Stand p l e R s m args below meth c T locs cells slots) (hx : p.tables.exec = Jvm.exec) {pc : Nat} {Ls : Array Slot} {rest : List Value} {t : FieldType} (hret : meth.sig.returnType = some t) (ht : t = .boolean ∨ t = .byte ∨ t = .char ∨ t = .short) {z : Int32} (hd : decode c.code pc = .ok (.ireturn, 1)) (hc : cells ≤ kc) (hs : slots ≤ ks) (hQ : Q (some (.int (nar t z))) T.heap locs) : G (T.setTop (mkF m pc Ls (.int z :: rest))) :=
  rt T locs cells slots _ _ X hc hs (fun h => by rw [hret] at h; cases h) hQ fun fs hr => retN X hx hret ht hd hr
theorem own_retJ (rt : Rt p l e R s m args below meth c Q kc ks G) (X : Stand p l e R s m args below meth c T locs cells slots) (hx : p.tables.exec = Jvm.exec) {pc : Nat} {Ls : Array Slot} {rest : List Value} (hret : meth.sig.returnType = some .long) {z : Int64} (hd : decode c.code pc = .ok (.lreturn, 1)) (hc : cells ≤ kc) (hs : slots ≤ ks) (hQ : Q (some (.long z)) T.heap locs) : G (T.setTop (mkF m pc Ls (.long z :: rest))) :=
  rt T locs cells slots _ _ X hc hs (fun h => by rw [hret] at h; cases h) hQ fun fs hr => retOut X hx hret rfl (Or.inr (Or.inl ⟨rfl, rfl, _, rfl⟩)) hd hr
theorem own_retA (rt : Rt p l e R s m args below meth c Q kc ks G) (X : Stand p l e R s m args below meth c T locs cells slots) (hx : p.tables.exec = Jvm.exec) {pc : Nat} {Ls : Array Slot} {rest : List Value} {t : FieldType} (hret : meth.sig.returnType = some t) (ht : t.isReference = true) {v : Value} (hv : v.isRef = true) (hd : decode c.code pc = .ok (.areturn, 1)) (hc : cells ≤ kc) (hs : slots ≤ ks) (hQ : Q (some v) T.heap locs) : G (T.setTop (mkF m pc Ls (v :: rest))) :=
  rt T locs cells slots _ _ X hc hs (fun h => by rw [hret] at h; cases h) hQ fun fs hr => retOut X hx hret (by cases t <;> cases v <;> first | rfl | (simp [FieldType.isReference, Value.isRef] at ht hv)) (Or.inr (Or.inr (Or.inr (Or.inr ⟨rfl, ht, hv⟩)))) hd hr
theorem own_retV (rt : Rt p l e R s m args below meth c Q kc ks G) (X : Stand p l e R s m args below meth c T locs cells slots) (hx : p.tables.exec = Jvm.exec) {pc : Nat} {Ls : Array Slot} (hret : meth.sig.returnType = none) (hd : decode c.code pc = .ok (.return_, 1)) (hc : cells ≤ kc) (hs : slots ≤ ks) (hQ : Q none T.heap locs) : G (T.setTop (mkF m pc Ls [])) :=
  rt T locs cells slots _ _ X hc hs (fun _ => rfl) hQ fun fs hr => X.returnOut hx hret hd hr
end Rets
section Calls
variable {G : State → Prop}
theorem own_static (go : Go p e below G) (X : Stand p l e R s m args below meth c T locs cells slots) (hx : p.tables.exec = Jvm.exec) (hZ : Z.Warmed39 s.vm) (eT : T.heap = h) {own : String} {index : Nat} {y : MethodName} {bytes : ByteArray} {maxL : Nat} {ret : Option FieldType} {rm : Room} {as' : Array Value} {Q : Option Value → Heap → List Loc → Prop} (hown : s.vm.findClass own = some m.cls) (w1 : (Cond.methodLink own index y).before a0 Z = true) (w2 : (Cond.static y).before a0 Z = true) (w3 : (Cond.initialized y.cls).before a0 Z = true) (w4 : (Cond.code y bytes maxL ret).before a0 Z = true)
    (hy : y.cls ≠ "java/lang/invoke/MethodHandle" ∧ y.cls ≠ "java/lang/invoke/VarHandle") (hM : Con l Z y bytes maxL ret rm as' h Q) (W : Nat) (hf : rm.frames + 1 ≤ R.frames) (hl : W + (maxL + 11) + rm.locals ≤ R.locals) (hc : cells + rm.cells ≤ R.cells) (hs : slots + rm.slots ≤ R.slots)
    {g : JFrame} (hg : g.method = m) (hsize : g.locals.size = c.maxLocals) (argsL rest : List Value) (has : argsL.toArray = as') (hlen : ∀ sig, parseMethodDescriptor y.desc = some sig → argsL.length = sig.parameters.length)
    (hstack : g.stack = argsL.reverse ++ rest) (hW : 2 * g.monitorRoom + (rest.map fun v => v.category).sum ≤ W) (hd : decode c.code g.pc = .ok (.invokestatic index, 3))
    (k : ∀ (T' : State) (L' : List Loc) (v : Option Value), Stand p l e R s m args below meth c T' (locs ++ L') (cells + rm.cells) (slots + rm.slots) → Q v T'.heap L' → G (T'.setTop { g with pc := g.pc + 3, stack := v.toList ++ rest })) : G (T.setTop g) := by
  obtain ⟨v, _, ⟨T1, L1, k1, n1⟩, -, X1, ⟨Lc, hQ, l1, y1, z1⟩, st⟩ := Jvm.LawKit.callS X hx hown (mvT hZ w1) (mvT hZ w2) (mvT hZ w3) (mvT hZ w4) hy (backOf (R := R) (W := W) (hM []) hZ w4 w3 hf hl) hg hsize hlen hstack hW hd (fun _ _ => ⟨has, eT, hc, hs⟩)
  dsimp only [Pt.U, Pt.locs, Pt.cells, Pt.slots] at X1 l1 y1 z1 st hQ
  subst l1 y1 z1
  exact go _ _ st (k T1 Lc v X1 hQ)
theorem own_init (go : Go p e below G) (X : Stand p l e R s m args below meth c T locs cells slots) (hx : p.tables.exec = Jvm.exec) (hZ : Z.Warmed39 s.vm) (eT : T.heap = h) {own : String} {index : Nat} {y : MethodName} {bytes : ByteArray} {maxL : Nat} {rm : Room} {as' : Array Value} {Q : Option Value → Heap → List Loc → Prop} (hy1 : y.name = "<init>") (hown : s.vm.findClass own = some m.cls) (w1 : (Cond.methodLink own index y).before a0 Z = true) (w2 : (Cond.instanceMethod y).before a0 Z = true) (w3 : (Cond.initialized y.cls).before a0 Z = true) (w4 : (Cond.code y bytes maxL none).before a0 Z = true)
    (hy : y.cls ≠ "java/lang/invoke/MethodHandle" ∧ y.cls ≠ "java/lang/invoke/VarHandle") (hM : Con l Z y bytes maxL none rm as' h Q) (W : Nat) (hf : rm.frames + 1 ≤ R.frames) (hl : W + (maxL + 11) + rm.locals ≤ R.locals) (hc : cells + rm.cells ≤ R.cells) (hs : slots + rm.slots ≤ R.slots)
    {g : JFrame} (hg : g.method = m) (hsize : g.locals.size = c.maxLocals) (a : Addr) (argsL rest : List Value) (has : (.ref a :: argsL).toArray = as') (hlen : ∀ sig, parseMethodDescriptor y.desc = some sig → argsL.length = sig.parameters.length)
    (hstack : g.stack = argsL.reverse ++ .ref a :: rest) (hW : 2 * g.monitorRoom + (rest.map fun v => v.category).sum ≤ W) (hd : decode c.code g.pc = .ok (.invokespecial index, 3))
    (k : ∀ (T' : State) (L' : List Loc) (v : Option Value), Stand p l e R s m args below meth c T' (locs ++ L') (cells + rm.cells) (slots + rm.slots) → Q v T'.heap L' → G (T'.setTop { g with pc := g.pc + 3, stack := v.toList ++ rest })) : G (T.setTop g) := by
  obtain ⟨v, _, ⟨T1, L1, k1, n1⟩, -, X1, ⟨Lc, hQ, l1, y1, z1⟩, st⟩ := X.specialBack hx hy1 hown (mvT hZ w1) (mvT hZ w2) (mvT hZ w4) hy (backOf (R := R) (W := W) (hM []) hZ w4 w3 hf hl) hg hsize (Steps.refl _) (a := a) hlen hstack hW hd (fun _ _ => ⟨has, eT, hc, hs⟩)
  dsimp only [Pt.U, Pt.locs, Pt.cells, Pt.slots] at X1 l1 y1 z1 st hQ
  subst l1 y1 z1
  exact go _ _ (fun t k => st.trans k) (k T1 Lc v X1 hQ)
theorem own_virtual (go : Go p e below G) (X : Stand p l e R s m args below meth c T locs cells slots) (hx : p.tables.exec = Jvm.exec) (hZ : Z.Warmed39 s.vm) (eT : T.heap = h) {own : String} {index : Nat} {y : MethodName} {bytes : ByteArray} {maxL : Nat} {ret : Option FieldType} {rm : Room} {as' : Array Value} {Q : Option Value → Heap → List Loc → Prop} {C : String} {z : MethodName} (hown : s.vm.findClass own = some m.cls) (w1 : (Cond.methodLink own index y).before a0 Z = true) (w2 : (Cond.declares y).before a0 Z = true) (hnf : NotFace s y) (w3 : (Cond.selects C y z).before a0 Z = true) (w4 : (Cond.instanceMethod z).before a0 Z = true) (w5 : (Cond.initialized z.cls).before a0 Z = true) (w6 : (Cond.code z bytes maxL ret).before a0 Z = true)
    (hy : y.cls ≠ "java/lang/invoke/MethodHandle" ∧ y.cls ≠ "java/lang/invoke/VarHandle") (hM : Con l Z z bytes maxL ret rm as' h Q) (W : Nat) (hf : rm.frames + 1 ≤ R.frames) (hl : W + (maxL + 11) + rm.locals ≤ R.locals) (hc : cells + rm.cells ≤ R.cells) (hs : slots + rm.slots ≤ R.slots)
    {a : Addr} (E : Exa Z h a C) {g : JFrame} (hg : g.method = m) (hsize : g.locals.size = c.maxLocals) (argsL rest : List Value) (has : (.ref a :: argsL).toArray = as') (hlen : ∀ sig, parseMethodDescriptor y.desc = some sig → argsL.length = sig.parameters.length)
    (hstack : g.stack = argsL.reverse ++ .ref a :: rest) (hW : 2 * g.monitorRoom + (rest.map fun v => v.category).sum ≤ W) (hd : decode c.code g.pc = .ok (.invokevirtual index, 3))
    (k : ∀ (T' : State) (L' : List Loc) (v : Option Value), Stand p l e R s m args below meth c T' (locs ++ L') (cells + rm.cells) (slots + rm.slots) → Q v T'.heap L' → G (T'.setTop { g with pc := g.pc + 3, stack := v.toList ++ rest })) : G (T.setTop g) := by
  obtain ⟨cq, kq, qa, qb, qc⟩ := isOf hZ eT E
  obtain ⟨v, _, ⟨T1, L1, k1, n1⟩, -, X1, ⟨Lc, hQ, l1, y1, z1⟩, st⟩ := X.virtualBack hx hown (mvT hZ w1) (mvT hZ w2) hnf (mvT hZ w3) (mvT hZ w4) hy (backOf (R := R) (W := W) (hM []) hZ w6 w5 hf hl) qa qc hg hsize (Steps.refl _) hlen hstack hW hd (fun _ _ => ⟨has, eT, hc, hs⟩)
  dsimp only [Pt.U, Pt.locs, Pt.cells, Pt.slots] at X1 l1 y1 z1 st hQ
  subst l1 y1 z1
  exact go _ _ (fun t k => st.trans k) (k T1 Lc v X1 hQ)
theorem own_private (go : Go p e below G) (X : Stand p l e R s m args below meth c T locs cells slots) (hx : p.tables.exec = Jvm.exec) (hZ : Z.Warmed39 s.vm) (eT : T.heap = h) {own : String} {index : Nat} {y : MethodName} {bytes : ByteArray} {maxL : Nat} {ret : Option FieldType} {rm : Room} {as' : Array Value} {Q : Option Value → Heap → List Loc → Prop} (hown : s.vm.findClass own = some m.cls) (w1 : (Cond.methodLink own index y).before a0 Z = true) (w2 : (Cond.instanceMethod y).before a0 Z = true) (w3 : (Cond.selects y.cls y y).before a0 Z = true) (w4 : (Cond.privateMethod y).before a0 Z = true) (w5 : (Cond.initialized y.cls).before a0 Z = true) (w6 : (Cond.code y bytes maxL ret).before a0 Z = true)
    (hy : y.cls ≠ "java/lang/invoke/MethodHandle" ∧ y.cls ≠ "java/lang/invoke/VarHandle") (hM : Con l Z y bytes maxL ret rm as' h Q) (W : Nat) (hf : rm.frames + 1 ≤ R.frames) (hl : W + (maxL + 11) + rm.locals ≤ R.locals) (hc : cells + rm.cells ≤ R.cells) (hs : slots + rm.slots ≤ R.slots)
    {a : Addr} {C : String} (E : Exa Z h a C) {g : JFrame} (hg : g.method = m) (hsize : g.locals.size = c.maxLocals) (argsL rest : List Value) (has : (.ref a :: argsL).toArray = as') (hlen : ∀ sig, parseMethodDescriptor y.desc = some sig → argsL.length = sig.parameters.length)
    (hstack : g.stack = argsL.reverse ++ .ref a :: rest) (hW : 2 * g.monitorRoom + (rest.map fun v => v.category).sum ≤ W) (hd : decode c.code g.pc = .ok (.invokevirtual index, 3))
    (k : ∀ (T' : State) (L' : List Loc) (v : Option Value), Stand p l e R s m args below meth c T' (locs ++ L') (cells + rm.cells) (slots + rm.slots) → Q v T'.heap L' → G (T'.setTop { g with pc := g.pc + 3, stack := v.toList ++ rest })) : G (T.setTop g) := by
  obtain ⟨cq, q1, q2⟩ := E.cell
  obtain ⟨v, _, ⟨T1, L1, k1, n1⟩, -, X1, ⟨Lc, hQ, l1, y1, z1⟩, st⟩ := X.privateBack hx hown (mvT hZ w1) (mvT hZ w2) (mvT hZ w3) (Cond.privateMethod_at (mvP hZ w4 (args := #[]))) (mvT hZ w6) hy (backOf (R := R) (W := W) (hM []) hZ w6 w5 hf hl) hg hsize (Steps.refl _) (a := a) (by rw [eT]; exact q1) q2 hlen hstack hW hd (fun _ _ => ⟨has, eT, hc, hs⟩)
  dsimp only [Pt.U, Pt.locs, Pt.cells, Pt.slots] at X1 l1 y1 z1 st hQ
  subst l1 y1 z1
  exact go _ _ (fun t k => st.trans k) (k T1 Lc v X1 hQ)
end Calls
end Own
section OwnArr
variable {p : Program} {l : Launch} {e : Env} {R : Room} {s : State} {m : MethodId} {args : Array Value} {below : List Frame} {meth : Method} {c : Code} {T : State} {locs : List Loc} {cells slots : Nat} {Z : State} {a0 : Array Value} {h h' : Heap} {a b : Addr} {ty : FieldType} {n sl : Nat} {f : Nat → Value} {v w : Value} {ws : List Addr}
/-- an array: its kind, its length, what lies in it -/
def Ary (Z : State) (h : Heap) (a : Addr) (ty : FieldType) (n : Nat) (f : Nat → Value) : Prop := ∃ c : Cell, Arr Z h a c ty ∧ c.slots.size = n ∧ n < 2147483648 ∧ (∀ i, i < n → c.slots[i]? = some (f i)) ∧ ∀ i, i < n → fits ty (f i) = true
theorem Ary.lt (F : Ary Z h a ty n f) : a < h.size := by obtain ⟨c, A, -⟩ := F; exact A.lt
theorem Ary.ext (F : Ary Z h a ty n f) (E : Ext h h') : Ary Z h' a ty n f := by obtain ⟨c, A, r⟩ := F; exact ⟨c, A.ext E, r⟩
theorem Ary.other (F : Ary Z h b ty n f) (W : Wr h h' a sl v) (q : b ≠ a) : Ary Z h' b ty n f := by obtain ⟨c, A, r⟩ := F; exact ⟨c, A.other W q, r⟩
theorem Ary.keep (F : Ary Z h a ty n f) (K : Keep h h' ws) (q : a ∉ ws) : Ary Z h' a ty n f := by obtain ⟨c, A, r⟩ := F; exact ⟨c, ⟨K.2.1 a c A.1 q, A.2⟩, r⟩
theorem Ary.cong {g : Nat → Value} (F : Ary Z h a ty n f) (q : ∀ i, i < n → f i = g i) : Ary Z h a ty n g := by
  obtain ⟨c, A, r1, r2, r3, r4⟩ := F
  exact ⟨c, A, r1, r2, fun i hi => by rw [← q i hi]; exact r3 i hi, fun i hi => by rw [← q i hi]; exact r4 i hi⟩
theorem Ary.same (W : Wr h h' a sl v) (F : Ary Z h a ty n f) (hv : fits ty v = true) : Ary Z h' a ty n (fun q => if q = sl then v else f q) := by
  obtain ⟨c, A, r1, r2, r3, r4⟩ := F
  refine ⟨_, A.same W, (sz_set _ _ _).trans r1, r2, fun i hi => ?_, fun i hi => ?_⟩
  · show (c.slots.setIfInBounds sl v)[i]? = _
    by_cases q : i = sl
    · subst q; simp [r1, hi]
    · rw [Array.getElem?_setIfInBounds_ne (fun z => q z.symm), r3 i hi]; simp [q]
  · show fits ty (if i = sl then v else f i) = true
    by_cases q : i = sl
    · simp [q, hv]
    · simp [q, r4 i hi]
theorem Ary.new {cA : ClassId} {z : Int32} (A : Arr Z h a (newA cA ty z) ty) (q : ¬ z < 0) : Ary Z h a ty z.toNatClampNeg (fun _ => defaultValue ty) :=
  ⟨_, A, sz_new _ _ _, (back32 q).2, fun i hi => by simp [newA, hi], fun i _ => by cases ty <;> rfl⟩
theorem Ary.ints (F : Ary Z h a ty n f) (ht : ty = .int ∨ ty = .boolean ∨ ty = .byte ∨ ty = .char ∨ ty = .short) : ∃ gg : Nat → Int32, Ary Z h a ty n (fun i => .int (gg i)) := by
  refine ⟨fun i => match f i with | .int y => y | _ => 0, F.cong fun i hi => ?_⟩
  obtain ⟨c, -, -, -, -, r4⟩ := F
  obtain ⟨y, hy⟩ := fit_I (r4 i hi) ht
  show f i = Value.int (match f i with | .int y => y | _ => 0)
  rw [hy]
theorem ix_of {j : Int32} {i : Nat} (hi : j.toInt = i) : j.toNatClampNeg = i := by simp [Int32.toNatClampNeg, hi]
theorem ix_in {j : Int32} {i k : Nat} (hi : j.toInt = i) (hk : i < k) : ¬ (j < 0 ∨ k ≤ j.toNatClampNeg) := by
  rw [ix_of hi]
  intro q
  rcases q with q | q
  · rw [Int32.lt_iff_toInt_lt, hi] at q
    have : (0 : Int32).toInt = 0 := rfl
    omega
  · omega
section St
variable {G : State → Prop}
theorem own_iastore (go : Go p e below G) (X : Stand p l e R s m args below meth c T locs cells slots) (hx : p.tables.exec = Jvm.exec) (hZ : Z.Warmed39 s.vm) (eT : T.heap = h) {j x : Int32} (i : Nat) (hi : j.toInt = i) (hlt : i < n) {g : JFrame} (hg : g.method = m) {rest : List Value} (F : Ary Z h a .int n f) (hs : g.stack = .int x :: .int j :: .ref a :: rest) (hd : decode c.code g.pc = .ok (.iastore, 1))
    (k : ∀ (T' : State) (h' : Heap), Stand p l e R s m args below meth c T' (locs ++ [⟨a, i⟩]) cells slots → T'.heap = h' → Wr h h' a i (.int x) → Ary Z h' a .int n (fun q => if q = i then .int x else f q) → G (T'.setTop { g with pc := g.pc + 1, stack := rest })) : G (T.setTop g) := by
  obtain ⟨cl, A, r1, r2, r3, r4⟩ := F
  have hj : ¬ (j < 0 ∨ cl.slots.size ≤ j.toNatClampNeg) := by rw [r1]; exact ix_in hi hlt
  obtain ⟨T1, h1, X1, e1, W1, st⟩ := stI X hx hZ eT A hj hg hs hd
  rw [ix_of hi] at X1 W1
  exact go _ _ st (k T1 h1 X1 e1 W1 (Ary.same W1 ⟨cl, A, r1, r2, r3, r4⟩ rfl))
theorem own_bastore (go : Go p e below G) (X : Stand p l e R s m args below meth c T locs cells slots) (hx : p.tables.exec = Jvm.exec) (hZ : Z.Warmed39 s.vm) (eT : T.heap = h) {j x : Int32} (i : Nat) (hi : j.toInt = i) (hlt : i < n) {g : JFrame} (hg : g.method = m) {rest : List Value} (F : Ary Z h a .byte n f) (hs : g.stack = .int x :: .int j :: .ref a :: rest) (hd : decode c.code g.pc = .ok (.bastore, 1))
    (k : ∀ (T' : State) (h' : Heap), Stand p l e R s m args below meth c T' (locs ++ [⟨a, i⟩]) cells slots → T'.heap = h' → Wr h h' a i (.int (nar .byte x)) → Ary Z h' a .byte n (fun q => if q = i then .int (nar .byte x) else f q) → G (T'.setTop { g with pc := g.pc + 1, stack := rest })) : G (T.setTop g) := by
  obtain ⟨cl, A, r1, r2, r3, r4⟩ := F
  have hj : ¬ (j < 0 ∨ cl.slots.size ≤ j.toNatClampNeg) := by rw [r1]; exact ix_in hi hlt
  obtain ⟨T1, h1, X1, e1, W1, st⟩ := stB X hx hZ eT A hj hg hs hd
  rw [ix_of hi] at X1 W1
  exact go _ _ st (k T1 h1 X1 e1 W1 (Ary.same W1 ⟨cl, A, r1, r2, r3, r4⟩ (fits_nar_byte _)))
theorem own_zastore (go : Go p e below G) (X : Stand p l e R s m args below meth c T locs cells slots) (hx : p.tables.exec = Jvm.exec) (hZ : Z.Warmed39 s.vm) (eT : T.heap = h) {j x : Int32} (i : Nat) (hi : j.toInt = i) (hlt : i < n) {g : JFrame} (hg : g.method = m) {rest : List Value} (F : Ary Z h a .boolean n f) (hs : g.stack = .int x :: .int j :: .ref a :: rest) (hd : decode c.code g.pc = .ok (.bastore, 1))
    (k : ∀ (T' : State) (h' : Heap), Stand p l e R s m args below meth c T' (locs ++ [⟨a, i⟩]) cells slots → T'.heap = h' → Wr h h' a i (.int (nar .boolean x)) → Ary Z h' a .boolean n (fun q => if q = i then .int (nar .boolean x) else f q) → G (T'.setTop { g with pc := g.pc + 1, stack := rest })) : G (T.setTop g) := by
  obtain ⟨cl, A, r1, r2, r3, r4⟩ := F
  have hj : ¬ (j < 0 ∨ cl.slots.size ≤ j.toNatClampNeg) := by rw [r1]; exact ix_in hi hlt
  obtain ⟨T1, h1, X1, e1, W1, st⟩ := stZ X hx hZ eT A hj hg hs hd
  rw [ix_of hi] at X1 W1
  exact go _ _ st (k T1 h1 X1 e1 W1 (Ary.same W1 ⟨cl, A, r1, r2, r3, r4⟩ (fits_nar_bool _)))
theorem own_iaload (go : Go p e below G) (X : Stand p l e R s m args below meth c T locs cells slots) (hx : p.tables.exec = Jvm.exec) (hZ : Z.Warmed39 s.vm) (eT : T.heap = h) {j : Int32} (i : Nat) (hi : j.toInt = i) (hlt : i < n) {g : JFrame} (hg : g.method = m) {rest : List Value} (F : Ary Z h a .int n f) (hs : g.stack = .int j :: .ref a :: rest) (hd : decode c.code g.pc = .ok (.iaload, 1)) (k : G (T.setTop { g with pc := g.pc + 1, stack := f i :: rest })) : G (T.setTop g) := by
  obtain ⟨cl, A, r1, r2, r3, r4⟩ := F
  have hj : ¬ (j < 0 ∨ cl.slots.size ≤ j.toNatClampNeg) := by rw [r1]; exact ix_in hi hlt
  exact go _ _ (fun t => X.iaload hx (by rw [eT]; exact A.1) (State.isArrayOf_alike hZ.alike A.2.1) A.2.2 hj (by rw [ix_of hi]; exact r3 i hlt) hg hs hd t) k
theorem own_baload (go : Go p e below G) (X : Stand p l e R s m args below meth c T locs cells slots) (hx : p.tables.exec = Jvm.exec) (hZ : Z.Warmed39 s.vm) (eT : T.heap = h) {j : Int32} (i : Nat) (hi : j.toInt = i) (hlt : i < n) {g : JFrame} (hg : g.method = m) {rest : List Value} (F : Ary Z h a .byte n f) (hs : g.stack = .int j :: .ref a :: rest) (hd : decode c.code g.pc = .ok (.baload, 1)) (k : G (T.setTop { g with pc := g.pc + 1, stack := f i :: rest })) : G (T.setTop g) := by
  obtain ⟨cl, A, r1, r2, r3, r4⟩ := F
  have hj : ¬ (j < 0 ∨ cl.slots.size ≤ j.toNatClampNeg) := by rw [r1]; exact ix_in hi hlt
  exact go _ _ (fun t => X.baloadBytes hx (by rw [eT]; exact A.1) (State.isArrayOf_alike hZ.alike A.2.1) A.2.2 hj (by rw [ix_of hi]; exact r3 i hlt) hg hs hd t) k
theorem own_zaload (go : Go p e below G) (X : Stand p l e R s m args below meth c T locs cells slots) (hx : p.tables.exec = Jvm.exec) (hZ : Z.Warmed39 s.vm) (eT : T.heap = h) {j : Int32} (i : Nat) (hi : j.toInt = i) (hlt : i < n) {g : JFrame} (hg : g.method = m) {rest : List Value} (F : Ary Z h a .boolean n f) (hs : g.stack = .int j :: .ref a :: rest) (hd : decode c.code g.pc = .ok (.baload, 1)) (k : G (T.setTop { g with pc := g.pc + 1, stack := f i :: rest })) : G (T.setTop g) := by
  obtain ⟨cl, A, r1, r2, r3, r4⟩ := F
  have hj : ¬ (j < 0 ∨ cl.slots.size ≤ j.toNatClampNeg) := by rw [r1]; exact ix_in hi hlt
  exact go _ _ (fun t => X.baloadBooleans hx (by rw [eT]; exact A.1) (State.isArrayOf_alike hZ.alike A.2.1) A.2.2 hj (by rw [ix_of hi]; exact r3 i hlt) hg hs hd t) k
theorem own_arrlen (go : Go p e below G) (X : Stand p l e R s m args below meth c T locs cells slots) (hx : p.tables.exec = Jvm.exec) (hZ : Z.Warmed39 s.vm) (eT : T.heap = h) {g : JFrame} (hg : g.method = m) {rest : List Value} (F : Ary Z h a ty n f) (hs : g.stack = .ref a :: rest) (hd : decode c.code g.pc = .ok (.arraylength, 1)) (k : G (T.setTop { g with pc := g.pc + 1, stack := .int n.toInt32 :: rest })) : G (T.setTop g) := by
  obtain ⟨cl, A, r1, r2, r3, r4⟩ := F
  subst r1
  exact go _ _ (fun t => X.arraylength hx (by rw [eT]; exact A.1) (State.isArrayOf_alike hZ.alike A.2.1) hg hs hd t) k
theorem own_newarr (go : Go p e below G) (X : Stand p l e R s m args below meth c T locs cells slots) (hx : p.tables.exec = Jvm.exec) (hZ : Z.Warmed39 s.vm) (eT : T.heap = h) {g : JFrame} (hg : g.method = m) {rest : List Value} {aty : ArrayType} (w : (Cond.arrayClass (newarray.typeOf aty)).before a0 Z = true) {z : Int32} (nn : Nat) (hz : z.toInt = nn) (hd : decode c.code g.pc = .ok (.newarray aty, 2)) (hs : g.stack = .int z :: rest)
    (cap : Nat) (hcap : nn ≤ cap) (hb : cap * 8 ≤ 536870912) (hc : cells + 1 ≤ R.cells) (hl : slots + cap ≤ R.slots)
    (k : ∀ (T' : State) (h' : Heap) (a : Addr), Stand p l e R s m args below meth c T' locs (cells + 1) (slots + cap) → T'.heap = h' → Ext h h' → a = h.size → Ary Z h' a (newarray.typeOf aty) nn (fun _ => defaultValue (newarray.typeOf aty)) → G (T'.setTop { g with pc := g.pc + 2, stack := .ref a :: rest })) : G (T.setTop g) := by
  have q : ¬ z < 0 := by
    rw [Int32.lt_iff_toInt_lt, hz]
    have : (0 : Int32).toInt = 0 := rfl
    omega
  obtain ⟨T1, h1, cA, X1, e1, E1, A1, st⟩ := newP X hx hZ w eT hg hd hs q (cap := cap) (by rw [ix_of hz]; exact hcap) hb hc hl
  have F := Ary.new A1 q
  rw [ix_of hz] at F
  exact go _ _ st (k T1 h1 _ X1 e1 E1 rfl F)
end St
end OwnArr

def brk (x : Int32) : Prop := x = 10 ∨ x = 13
instance (x : Int32) : Decidable (brk x) := by unfold brk; infer_instance
def BL (Z : State) (h : Heap) (a b : Addr) (len nm st en nx : Int32) : Prop := Exa Z h a "com/example/caducee/caducee/ByteLines" ∧ Fld Z h a "com/example/caducee/caducee/ByteLines" "bytes" "[B" (.ref b) ∧ Fld Z h a "com/example/caducee/caducee/ByteLines" "length" "I" (.int len) ∧ Fld Z h a "com/example/caducee/caducee/ByteLines" "number" "I" (.int nm) ∧ Fld Z h a "com/example/caducee/caducee/ByteLines" "start" "I" (.int st) ∧ Fld Z h a "com/example/caducee/caducee/ByteLines" "end" "I" (.int en) ∧ Fld Z h a "com/example/caducee/caducee/ByteLines" "next" "I" (.int nx)
def nxt (g : Nat → Int32) (ln e : Nat) : Nat := if e = ln then e else if g e = 10 then e + 1 else if e + 1 < ln ∧ g (e + 1) = 10 then e + 2 else e + 1
theorem nxA {g : Nat → Int32} {ln e : Nat} (h : e = ln) : nxt g ln e = e := by unfold nxt; rw [if_pos h]
theorem nxB {g : Nat → Int32} {ln e : Nat} (h : ¬ e = ln) (h1 : g e = 10) : nxt g ln e = e + 1 := by unfold nxt; rw [if_neg h, if_pos h1]
theorem nxC {g : Nat → Int32} {ln e : Nat} (h : ¬ e = ln) (h1 : ¬ g e = 10) (h2 : e + 1 < ln) (h3 : g (e + 1) = 10) : nxt g ln e = e + 2 := by unfold nxt; rw [if_neg h, if_neg h1, if_pos ⟨h2, h3⟩]
theorem nxD {g : Nat → Int32} {ln e : Nat} (h : ¬ e = ln) (h1 : ¬ g e = 10) (h2 : ¬ (e + 1 < ln ∧ g (e + 1) = 10)) : nxt g ln e = e + 1 := by unfold nxt; rw [if_neg h, if_neg h1, if_neg h2]
theorem own_lt {u v : Int32} {i j : Nat} (h1 : u.toInt = i) (h2 : v.toInt = j) : u < v ↔ i < j := by rw [Int32.lt_iff_toInt_lt, h1, h2]; omega
theorem own_eq {u v : Int32} {i j : Nat} (h1 : u.toInt = i) (h2 : v.toInt = j) : u = v ↔ i = j := by rw [← Int32.toInt_inj, h1, h2]; omega
theorem own_nb {g : Nat → Int32} {k1 j : Nat} (h : ∀ i, k1 ≤ i → i < j → ¬ brk (g i)) (h1 : ¬ g j = 10) (h2 : ¬ g j = 13) : ∀ i, k1 ≤ i → i < j + 1 → ¬ brk (g i) := by
  intro i a b
  by_cases z : i < j
  · exact h i a z
  · have e : i = j := by omega
    rw [e]
    exact fun y => y.elim h1 h2
theorem own_nb3 {g : Nat → Int32} {nx en2 : Int32} {k1 e2 : Nat} (hnx : nx.toInt = k1) (he2 : en2.toInt = e2) (h : ∀ i, k1 ≤ i → i < e2 → ¬ brk (g i)) : ∀ (y : Int32) (k : Nat), y.toInt = k → k < 4 → y < nx ∨ ¬ y < en2 ∨ ¬ brk (g k) := by
  intro y k hy _
  by_cases z1 : k < k1
  · exact Or.inl ((own_lt hy hnx).mpr z1)
  · by_cases z2 : k < e2
    · exact Or.inr (Or.inr (h k (by omega) z2))
    · exact Or.inr (Or.inl ((not_congr (own_lt hy he2)).mpr z2))
theorem own_inc {u : Int32} {i : Nat} (h1 : u.toInt = i) (hi : i < 100) : (u + 1).toInt = ((i + 1 : Nat) : Int) := by
  have q := c_iadd u 1
  have r := rng32 (u + 1)
  have : (1 : Int32).toInt = 1 := rfl
  omega
theorem own_inc2 {u : Int32} {i : Nat} (h1 : u.toInt = i) (hi : i < 100) : (u + 2).toInt = ((i + 2 : Nat) : Int) := by
  have q := c_iadd u 2
  have r := rng32 (u + 2)
  have : (2 : Int32).toInt = 2 := rfl
  omega
theorem own_inc0 {u : Int32} {i : Nat} (h1 : u.toInt = i) : (u + 0).toInt = i := by rw [Int32.add_zero]; exact h1
theorem own_fin1 (z : Int32) : some (Value.int (nar .boolean 1)) = some (Value.int 1) := rfl


def stf (x y : Int32) (i : Nat) : Int32 := if i = 0 then x else if i = 1 then y else 1

theorem own_stf {x nx nx2 nm : Int32} (hxx : x = nx2) : ∀ i, i < 3 → (fun q => if q = 1 then Value.int (nm + 1) else (fun q => if q = 0 then Value.int x else (fun i => Value.int (stf nx nm i)) q) q) i = (fun i => Value.int (stf nx2 (nm + 1) i)) i := by
  intro i hi
  subst hxx
  show (if i = 1 then Value.int (nm + 1) else if i = 0 then Value.int x else Value.int (stf nx nm i)) = Value.int (stf x (nm + 1) i)
  unfold stf
  by_cases q1 : i = 1
  · subst q1; rfl
  · by_cases q0 : i = 0
    · subst q0; rfl
    · simp [q1, q0]
theorem own_nxt_le {g : Nat → Int32} {ln e : Nat} (h : e ≤ ln) : nxt g ln e ≤ ln := by
  unfold nxt
  by_cases h1 : e = ln
  · simp [h1]
  · rw [if_neg h1]
    by_cases h2 : g e = 10
    · rw [if_pos h2]; omega
    · rw [if_neg h2]
      by_cases h3 : e + 1 < ln ∧ g (e + 1) = 10
      · rw [if_pos h3]; omega
      · rw [if_neg h3]; omega

theorem own_st0 : ∀ i, i < 3 → (fun q => if q = 2 then Value.int 1 else (fun q => if q = 1 then Value.int 0 else (fun q => if q = 0 then Value.int 0 else (fun _ => defaultValue .int) q) q) q) i = (fun i => Value.int (stf 0 0 i)) i := by
  intro i hi
  show (if i = 2 then Value.int 1 else if i = 1 then Value.int 0 else if i = 0 then Value.int 0 else defaultValue .int) = Value.int (stf 0 0 i)
  unfold stf
  match i, hi with
  | 0, _ => rfl
  | 1, _ => rfl
  | 2, _ => rfl
theorem own_rem {u f : Int32} {k : Int32} {d : Int} (hk : k.toInt = d) (hd : 0 < d) (hf : f = (u &&& 2147483647) % k) : ∃ i : Nat, f.toInt = i ∧ (i : Int) < d := by
  have e1 : (u &&& 2147483647).toInt = u.toInt % (2 ^ 31 : Nat) := c_mask u _ 31 (by decide) (by decide)
  have e2 := (c_irem (u &&& 2147483647) k d hk).1 (by omega)
  rw [← hf] at e2
  have b1 := Int.emod_nonneg (u &&& 2147483647).toInt (show d ≠ 0 by omega)
  have b2 := Int.emod_lt_of_pos (u &&& 2147483647).toInt hd
  exact ⟨f.toInt.toNat, by omega, by omega⟩
theorem d1_0 : decode method_3_code 0 = .ok (.iload_n 0, 1) := by decide +kernel
theorem d1_1 : decode method_3_code 1 = .ok (.bipush 8, 2) := by decide +kernel
theorem d1_3 : decode method_3_code 3 = .ok (.iushr, 1) := by decide +kernel
theorem d1_4 : decode method_3_code 4 = .ok (.iconst 3, 1) := by decide +kernel
theorem d1_5 : decode method_3_code 5 = .ok (.iand, 1) := by decide +kernel
theorem d1_6 : decode method_3_code 6 = .ok (.istore_n 1, 1) := by decide +kernel
theorem d1_7 : decode method_3_code 7 = .ok (.iload_n 1, 1) := by decide +kernel
theorem d1_8 : decode method_3_code 8 = .ok (.iconst 1, 1) := by decide +kernel
theorem d1_9 : decode method_3_code 9 = .ok (.if_icmp .ne 6, 3) := by decide +kernel
theorem d1_12 : decode method_3_code 12 = .ok (.bipush 10, 2) := by decide +kernel
theorem d1_14 : decode method_3_code 14 = .ok (.ireturn, 1) := by decide +kernel
theorem d1_15 : decode method_3_code 15 = .ok (.iload_n 1, 1) := by decide +kernel
theorem d1_16 : decode method_3_code 16 = .ok (.iconst 2, 1) := by decide +kernel
theorem d1_17 : decode method_3_code 17 = .ok (.if_icmp .ne 6, 3) := by decide +kernel
theorem d1_20 : decode method_3_code 20 = .ok (.bipush 13, 2) := by decide +kernel
theorem d1_22 : decode method_3_code 22 = .ok (.ireturn, 1) := by decide +kernel
theorem d1_23 : decode method_3_code 23 = .ok (.iload_n 0, 1) := by decide +kernel
theorem d1_24 : decode method_3_code 24 = .ok (.i2b, 1) := by decide +kernel
theorem d1_25 : decode method_3_code 25 = .ok (.ireturn, 1) := by decide +kernel
theorem d2_0 : decode prog_38_method_2_code 0 = .ok (.aload_n 0, 1) := by decide +kernel
theorem d2_1 : decode prog_38_method_2_code 1 = .ok (.invokespecial 7, 3) := by decide +kernel
theorem d2_4 : decode prog_38_method_2_code 4 = .ok (.aload_n 0, 1) := by decide +kernel
theorem d2_5 : decode prog_38_method_2_code 5 = .ok (.aload_n 1, 1) := by decide +kernel
theorem d2_6 : decode prog_38_method_2_code 6 = .ok (.putfield 12, 3) := by decide +kernel
theorem d2_9 : decode prog_38_method_2_code 9 = .ok (.aload_n 0, 1) := by decide +kernel
theorem d2_10 : decode prog_38_method_2_code 10 = .ok (.iload_n 2, 1) := by decide +kernel
theorem d2_11 : decode prog_38_method_2_code 11 = .ok (.putfield 16, 3) := by decide +kernel
theorem d2_14 : decode prog_38_method_2_code 14 = .ok (.return_, 1) := by decide +kernel
theorem d4_0 : decode method_7_code 0 = .ok (.aload_n 0, 1) := by decide +kernel
theorem d4_1 : decode method_7_code 1 = .ok (.invokevirtual 31, 3) := by decide +kernel
theorem d4_4 : decode method_7_code 4 = .ok (.istore 4, 2) := by decide +kernel
theorem d4_6 : decode method_7_code 6 = .ok (.aload_n 3, 1) := by decide +kernel
theorem d4_7 : decode method_7_code 7 = .ok (.iconst 0, 1) := by decide +kernel
theorem d4_8 : decode method_7_code 8 = .ok (.iaload, 1) := by decide +kernel
theorem d4_9 : decode method_7_code 9 = .ok (.istore 5, 2) := by decide +kernel
theorem d4_11 : decode method_7_code 11 = .ok (.aload_n 3, 1) := by decide +kernel
theorem d4_12 : decode method_7_code 12 = .ok (.iconst 1, 1) := by decide +kernel
theorem d4_13 : decode method_7_code 13 = .ok (.iaload, 1) := by decide +kernel
theorem d4_14 : decode method_7_code 14 = .ok (.istore 6, 2) := by decide +kernel
theorem d4_16 : decode method_7_code 16 = .ok (.iload 5, 2) := by decide +kernel
theorem d4_18 : decode method_7_code 18 = .ok (.iload_n 2, 1) := by decide +kernel
theorem d4_19 : decode method_7_code 19 = .ok (.if_icmp .lt 22, 3) := by decide +kernel
theorem d4_22 : decode method_7_code 22 = .ok (.iload 4, 2) := by decide +kernel
theorem d4_24 : decode method_7_code 24 = .ok (.ifCond .ne 12, 3) := by decide +kernel
theorem d4_27 : decode method_7_code 27 = .ok (.aload_n 0, 1) := by decide +kernel
theorem d4_28 : decode method_7_code 28 = .ok (.invokevirtual 35, 3) := by decide +kernel
theorem d4_31 : decode method_7_code 31 = .ok (.iload 6, 2) := by decide +kernel
theorem d4_33 : decode method_7_code 33 = .ok (.if_icmp .eq 7, 3) := by decide +kernel
theorem d4_40 : decode method_7_code 40 = .ok (.return_, 1) := by decide +kernel
theorem d4_41 : decode method_7_code 41 = .ok (.aload_n 0, 1) := by decide +kernel
theorem d4_42 : decode method_7_code 42 = .ok (.invokevirtual 35, 3) := by decide +kernel
theorem d4_45 : decode method_7_code 45 = .ok (.istore 7, 2) := by decide +kernel
theorem d4_47 : decode method_7_code 47 = .ok (.aload_n 0, 1) := by decide +kernel
theorem d4_48 : decode method_7_code 48 = .ok (.invokevirtual 39, 3) := by decide +kernel
theorem d4_51 : decode method_7_code 51 = .ok (.istore 8, 2) := by decide +kernel
theorem d4_53 : decode method_7_code 53 = .ok (.aload_n 0, 1) := by decide +kernel
theorem d4_54 : decode method_7_code 54 = .ok (.invokevirtual 42, 3) := by decide +kernel
theorem d4_57 : decode method_7_code 57 = .ok (.istore 9, 2) := by decide +kernel
theorem d4_59 : decode method_7_code 59 = .ok (.iload 4, 2) := by decide +kernel
theorem d4_61 : decode method_7_code 61 = .ok (.ifCond .eq 63, 3) := by decide +kernel
theorem d4_64 : decode method_7_code 64 = .ok (.iload 7, 2) := by decide +kernel
theorem d4_66 : decode method_7_code 66 = .ok (.iload 6, 2) := by decide +kernel
theorem d4_68 : decode method_7_code 68 = .ok (.iconst 1, 1) := by decide +kernel
theorem d4_69 : decode method_7_code 69 = .ok (.iadd, 1) := by decide +kernel
theorem d4_70 : decode method_7_code 70 = .ok (.if_icmp .ne 54, 3) := by decide +kernel
theorem d4_73 : decode method_7_code 73 = .ok (.iload 8, 2) := by decide +kernel
theorem d4_75 : decode method_7_code 75 = .ok (.iload 5, 2) := by decide +kernel
theorem d4_77 : decode method_7_code 77 = .ok (.if_icmp .ne 47, 3) := by decide +kernel
theorem d4_80 : decode method_7_code 80 = .ok (.iload 5, 2) := by decide +kernel
theorem d4_82 : decode method_7_code 82 = .ok (.iload 9, 2) := by decide +kernel
theorem d4_84 : decode method_7_code 84 = .ok (.if_icmp .gt 40, 3) := by decide +kernel
theorem d4_87 : decode method_7_code 87 = .ok (.iload 9, 2) := by decide +kernel
theorem d4_89 : decode method_7_code 89 = .ok (.iload_n 2, 1) := by decide +kernel
theorem d4_90 : decode method_7_code 90 = .ok (.if_icmp .gt 34, 3) := by decide +kernel
theorem d4_93 : decode method_7_code 93 = .ok (.aload_n 1, 1) := by decide +kernel
theorem d4_94 : decode method_7_code 94 = .ok (.iload 8, 2) := by decide +kernel
theorem d4_96 : decode method_7_code 96 = .ok (.iload 9, 2) := by decide +kernel
theorem d4_98 : decode method_7_code 98 = .ok (.invokestatic 45, 3) := by decide +kernel
theorem d4_101 : decode method_7_code 101 = .ok (.ifCond .eq 23, 3) := by decide +kernel
theorem d4_104 : decode method_7_code 104 = .ok (.iload 9, 2) := by decide +kernel
theorem d4_106 : decode method_7_code 106 = .ok (.iload_n 2, 1) := by decide +kernel
theorem d4_107 : decode method_7_code 107 = .ok (.if_icmp .eq 13, 3) := by decide +kernel
theorem d4_110 : decode method_7_code 110 = .ok (.aload_n 1, 1) := by decide +kernel
theorem d4_111 : decode method_7_code 111 = .ok (.iload 9, 2) := by decide +kernel
theorem d4_113 : decode method_7_code 113 = .ok (.baload, 1) := by decide +kernel
theorem d4_114 : decode method_7_code 114 = .ok (.invokestatic 23, 3) := by decide +kernel
theorem d4_117 : decode method_7_code 117 = .ok (.ifCond .eq 7, 3) := by decide +kernel
theorem d4_120 : decode method_7_code 120 = .ok (.iconst 1, 1) := by decide +kernel
theorem d4_121 : decode method_7_code 121 = .ok (.goto 4, 3) := by decide +kernel
theorem d4_125 : decode method_7_code 125 = .ok (.istore 10, 2) := by decide +kernel
theorem d4_127 : decode method_7_code 127 = .ok (.iload 10, 2) := by decide +kernel
theorem d4_129 : decode method_7_code 129 = .ok (.ifCond .ne 8, 3) := by decide +kernel
theorem d4_137 : decode method_7_code 137 = .ok (.iload 9, 2) := by decide +kernel
theorem d4_139 : decode method_7_code 139 = .ok (.iload_n 2, 1) := by decide +kernel
theorem d4_140 : decode method_7_code 140 = .ok (.if_icmp .ne 9, 3) := by decide +kernel
theorem d4_143 : decode method_7_code 143 = .ok (.iconst 0, 1) := by decide +kernel
theorem d4_144 : decode method_7_code 144 = .ok (.istore 11, 2) := by decide +kernel
theorem d4_146 : decode method_7_code 146 = .ok (.goto 46, 3) := by decide +kernel
theorem d4_149 : decode method_7_code 149 = .ok (.aload_n 1, 1) := by decide +kernel
theorem d4_150 : decode method_7_code 150 = .ok (.iload 9, 2) := by decide +kernel
theorem d4_152 : decode method_7_code 152 = .ok (.baload, 1) := by decide +kernel
theorem d4_153 : decode method_7_code 153 = .ok (.bipush 10, 2) := by decide +kernel
theorem d4_155 : decode method_7_code 155 = .ok (.if_icmp .ne 9, 3) := by decide +kernel
theorem d4_158 : decode method_7_code 158 = .ok (.iconst 1, 1) := by decide +kernel
theorem d4_159 : decode method_7_code 159 = .ok (.istore 11, 2) := by decide +kernel
theorem d4_161 : decode method_7_code 161 = .ok (.goto 31, 3) := by decide +kernel
theorem d4_164 : decode method_7_code 164 = .ok (.iload 9, 2) := by decide +kernel
theorem d4_166 : decode method_7_code 166 = .ok (.iconst 1, 1) := by decide +kernel
theorem d4_167 : decode method_7_code 167 = .ok (.iadd, 1) := by decide +kernel
theorem d4_168 : decode method_7_code 168 = .ok (.iload_n 2, 1) := by decide +kernel
theorem d4_169 : decode method_7_code 169 = .ok (.if_icmp .ge 20, 3) := by decide +kernel
theorem d4_172 : decode method_7_code 172 = .ok (.aload_n 1, 1) := by decide +kernel
theorem d4_173 : decode method_7_code 173 = .ok (.iload 9, 2) := by decide +kernel
theorem d4_175 : decode method_7_code 175 = .ok (.iconst 1, 1) := by decide +kernel
theorem d4_176 : decode method_7_code 176 = .ok (.iadd, 1) := by decide +kernel
theorem d4_177 : decode method_7_code 177 = .ok (.baload, 1) := by decide +kernel
theorem d4_178 : decode method_7_code 178 = .ok (.bipush 10, 2) := by decide +kernel
theorem d4_180 : decode method_7_code 180 = .ok (.if_icmp .ne 9, 3) := by decide +kernel
theorem d4_183 : decode method_7_code 183 = .ok (.iconst 2, 1) := by decide +kernel
theorem d4_184 : decode method_7_code 184 = .ok (.istore 11, 2) := by decide +kernel
theorem d4_186 : decode method_7_code 186 = .ok (.goto 6, 3) := by decide +kernel
theorem d4_189 : decode method_7_code 189 = .ok (.iconst 1, 1) := by decide +kernel
theorem d4_190 : decode method_7_code 190 = .ok (.istore 11, 2) := by decide +kernel
theorem d4_192 : decode method_7_code 192 = .ok (.aload_n 3, 1) := by decide +kernel
theorem d4_193 : decode method_7_code 193 = .ok (.iconst 0, 1) := by decide +kernel
theorem d4_194 : decode method_7_code 194 = .ok (.iload 9, 2) := by decide +kernel
theorem d4_196 : decode method_7_code 196 = .ok (.iload 11, 2) := by decide +kernel
theorem d4_198 : decode method_7_code 198 = .ok (.iadd, 1) := by decide +kernel
theorem d4_199 : decode method_7_code 199 = .ok (.iastore, 1) := by decide +kernel
theorem d4_200 : decode method_7_code 200 = .ok (.aload_n 3, 1) := by decide +kernel
theorem d4_201 : decode method_7_code 201 = .ok (.iconst 1, 1) := by decide +kernel
theorem d4_202 : decode method_7_code 202 = .ok (.iload 6, 2) := by decide +kernel
theorem d4_204 : decode method_7_code 204 = .ok (.iconst 1, 1) := by decide +kernel
theorem d4_205 : decode method_7_code 205 = .ok (.iadd, 1) := by decide +kernel
theorem d4_206 : decode method_7_code 206 = .ok (.iastore, 1) := by decide +kernel
theorem d4_207 : decode method_7_code 207 = .ok (.return_, 1) := by decide +kernel
theorem d5_0 : decode prog_38_method_3_code 0 = .ok (.aload_n 0, 1) := by decide +kernel
theorem d5_1 : decode prog_38_method_3_code 1 = .ok (.getfield 20, 3) := by decide +kernel
theorem d5_4 : decode prog_38_method_3_code 4 = .ok (.aload_n 0, 1) := by decide +kernel
theorem d5_5 : decode prog_38_method_3_code 5 = .ok (.getfield 16, 3) := by decide +kernel
theorem d5_8 : decode prog_38_method_3_code 8 = .ok (.if_icmp .lt 5, 3) := by decide +kernel
theorem d5_11 : decode prog_38_method_3_code 11 = .ok (.iconst 0, 1) := by decide +kernel
theorem d5_12 : decode prog_38_method_3_code 12 = .ok (.ireturn, 1) := by decide +kernel
theorem d5_13 : decode prog_38_method_3_code 13 = .ok (.aload_n 0, 1) := by decide +kernel
theorem d5_14 : decode prog_38_method_3_code 14 = .ok (.dup, 1) := by decide +kernel
theorem d5_15 : decode prog_38_method_3_code 15 = .ok (.getfield 23, 3) := by decide +kernel
theorem d5_18 : decode prog_38_method_3_code 18 = .ok (.iconst 1, 1) := by decide +kernel
theorem d5_19 : decode prog_38_method_3_code 19 = .ok (.iadd, 1) := by decide +kernel
theorem d5_20 : decode prog_38_method_3_code 20 = .ok (.putfield 23, 3) := by decide +kernel
theorem d5_23 : decode prog_38_method_3_code 23 = .ok (.aload_n 0, 1) := by decide +kernel
theorem d5_24 : decode prog_38_method_3_code 24 = .ok (.aload_n 0, 1) := by decide +kernel
theorem d5_25 : decode prog_38_method_3_code 25 = .ok (.getfield 20, 3) := by decide +kernel
theorem d5_28 : decode prog_38_method_3_code 28 = .ok (.putfield 26, 3) := by decide +kernel
theorem d5_31 : decode prog_38_method_3_code 31 = .ok (.aload_n 0, 1) := by decide +kernel
theorem d5_32 : decode prog_38_method_3_code 32 = .ok (.aload_n 0, 1) := by decide +kernel
theorem d5_33 : decode prog_38_method_3_code 33 = .ok (.getfield 26, 3) := by decide +kernel
theorem d5_36 : decode prog_38_method_3_code 36 = .ok (.putfield 29, 3) := by decide +kernel
theorem d5_39 : decode prog_38_method_3_code 39 = .ok (.aload_n 0, 1) := by decide +kernel
theorem d5_40 : decode prog_38_method_3_code 40 = .ok (.getfield 29, 3) := by decide +kernel
theorem d5_43 : decode prog_38_method_3_code 43 = .ok (.aload_n 0, 1) := by decide +kernel
theorem d5_44 : decode prog_38_method_3_code 44 = .ok (.getfield 16, 3) := by decide +kernel
theorem d5_47 : decode prog_38_method_3_code 47 = .ok (.if_icmp .ge 44, 3) := by decide +kernel
theorem d5_50 : decode prog_38_method_3_code 50 = .ok (.aload_n 0, 1) := by decide +kernel
theorem d5_51 : decode prog_38_method_3_code 51 = .ok (.getfield 12, 3) := by decide +kernel
theorem d5_54 : decode prog_38_method_3_code 54 = .ok (.aload_n 0, 1) := by decide +kernel
theorem d5_55 : decode prog_38_method_3_code 55 = .ok (.getfield 29, 3) := by decide +kernel
theorem d5_58 : decode prog_38_method_3_code 58 = .ok (.baload, 1) := by decide +kernel
theorem d5_59 : decode prog_38_method_3_code 59 = .ok (.bipush 10, 2) := by decide +kernel
theorem d5_61 : decode prog_38_method_3_code 61 = .ok (.if_icmp .eq 30, 3) := by decide +kernel
theorem d5_64 : decode prog_38_method_3_code 64 = .ok (.aload_n 0, 1) := by decide +kernel
theorem d5_65 : decode prog_38_method_3_code 65 = .ok (.getfield 12, 3) := by decide +kernel
theorem d5_68 : decode prog_38_method_3_code 68 = .ok (.aload_n 0, 1) := by decide +kernel
theorem d5_69 : decode prog_38_method_3_code 69 = .ok (.getfield 29, 3) := by decide +kernel
theorem d5_72 : decode prog_38_method_3_code 72 = .ok (.baload, 1) := by decide +kernel
theorem d5_73 : decode prog_38_method_3_code 73 = .ok (.bipush 13, 2) := by decide +kernel
theorem d5_75 : decode prog_38_method_3_code 75 = .ok (.if_icmp .eq 16, 3) := by decide +kernel
theorem d5_78 : decode prog_38_method_3_code 78 = .ok (.aload_n 0, 1) := by decide +kernel
theorem d5_79 : decode prog_38_method_3_code 79 = .ok (.dup, 1) := by decide +kernel
theorem d5_80 : decode prog_38_method_3_code 80 = .ok (.getfield 29, 3) := by decide +kernel
theorem d5_83 : decode prog_38_method_3_code 83 = .ok (.iconst 1, 1) := by decide +kernel
theorem d5_84 : decode prog_38_method_3_code 84 = .ok (.iadd, 1) := by decide +kernel
theorem d5_85 : decode prog_38_method_3_code 85 = .ok (.putfield 29, 3) := by decide +kernel
theorem d5_88 : decode prog_38_method_3_code 88 = .ok (.goto (-49), 3) := by decide +kernel
theorem d5_91 : decode prog_38_method_3_code 91 = .ok (.aload_n 0, 1) := by decide +kernel
theorem d5_92 : decode prog_38_method_3_code 92 = .ok (.aload_n 0, 1) := by decide +kernel
theorem d5_93 : decode prog_38_method_3_code 93 = .ok (.getfield 29, 3) := by decide +kernel
theorem d5_96 : decode prog_38_method_3_code 96 = .ok (.putfield 20, 3) := by decide +kernel
theorem d5_99 : decode prog_38_method_3_code 99 = .ok (.aload_n 0, 1) := by decide +kernel
theorem d5_100 : decode prog_38_method_3_code 100 = .ok (.getfield 20, 3) := by decide +kernel
theorem d5_103 : decode prog_38_method_3_code 103 = .ok (.aload_n 0, 1) := by decide +kernel
theorem d5_104 : decode prog_38_method_3_code 104 = .ok (.getfield 16, 3) := by decide +kernel
theorem d5_107 : decode prog_38_method_3_code 107 = .ok (.if_icmp .ge 27, 3) := by decide +kernel
theorem d5_110 : decode prog_38_method_3_code 110 = .ok (.aload_n 0, 1) := by decide +kernel
theorem d5_111 : decode prog_38_method_3_code 111 = .ok (.getfield 12, 3) := by decide +kernel
theorem d5_114 : decode prog_38_method_3_code 114 = .ok (.aload_n 0, 1) := by decide +kernel
theorem d5_115 : decode prog_38_method_3_code 115 = .ok (.getfield 20, 3) := by decide +kernel
theorem d5_118 : decode prog_38_method_3_code 118 = .ok (.baload, 1) := by decide +kernel
theorem d5_119 : decode prog_38_method_3_code 119 = .ok (.bipush 13, 2) := by decide +kernel
theorem d5_121 : decode prog_38_method_3_code 121 = .ok (.if_icmp .ne 13, 3) := by decide +kernel
theorem d5_124 : decode prog_38_method_3_code 124 = .ok (.aload_n 0, 1) := by decide +kernel
theorem d5_125 : decode prog_38_method_3_code 125 = .ok (.dup, 1) := by decide +kernel
theorem d5_126 : decode prog_38_method_3_code 126 = .ok (.getfield 20, 3) := by decide +kernel
theorem d5_129 : decode prog_38_method_3_code 129 = .ok (.iconst 1, 1) := by decide +kernel
theorem d5_130 : decode prog_38_method_3_code 130 = .ok (.iadd, 1) := by decide +kernel
theorem d5_131 : decode prog_38_method_3_code 131 = .ok (.putfield 20, 3) := by decide +kernel
theorem d5_134 : decode prog_38_method_3_code 134 = .ok (.aload_n 0, 1) := by decide +kernel
theorem d5_135 : decode prog_38_method_3_code 135 = .ok (.getfield 20, 3) := by decide +kernel
theorem d5_138 : decode prog_38_method_3_code 138 = .ok (.aload_n 0, 1) := by decide +kernel
theorem d5_139 : decode prog_38_method_3_code 139 = .ok (.getfield 16, 3) := by decide +kernel
theorem d5_142 : decode prog_38_method_3_code 142 = .ok (.if_icmp .ge 27, 3) := by decide +kernel
theorem d5_145 : decode prog_38_method_3_code 145 = .ok (.aload_n 0, 1) := by decide +kernel
theorem d5_146 : decode prog_38_method_3_code 146 = .ok (.getfield 12, 3) := by decide +kernel
theorem d5_149 : decode prog_38_method_3_code 149 = .ok (.aload_n 0, 1) := by decide +kernel
theorem d5_150 : decode prog_38_method_3_code 150 = .ok (.getfield 20, 3) := by decide +kernel
theorem d5_153 : decode prog_38_method_3_code 153 = .ok (.baload, 1) := by decide +kernel
theorem d5_154 : decode prog_38_method_3_code 154 = .ok (.bipush 10, 2) := by decide +kernel
theorem d5_156 : decode prog_38_method_3_code 156 = .ok (.if_icmp .ne 13, 3) := by decide +kernel
theorem d5_159 : decode prog_38_method_3_code 159 = .ok (.aload_n 0, 1) := by decide +kernel
theorem d5_160 : decode prog_38_method_3_code 160 = .ok (.dup, 1) := by decide +kernel
theorem d5_161 : decode prog_38_method_3_code 161 = .ok (.getfield 20, 3) := by decide +kernel
theorem d5_164 : decode prog_38_method_3_code 164 = .ok (.iconst 1, 1) := by decide +kernel
theorem d5_165 : decode prog_38_method_3_code 165 = .ok (.iadd, 1) := by decide +kernel
theorem d5_166 : decode prog_38_method_3_code 166 = .ok (.putfield 20, 3) := by decide +kernel
theorem d5_169 : decode prog_38_method_3_code 169 = .ok (.iconst 1, 1) := by decide +kernel
theorem d5_170 : decode prog_38_method_3_code 170 = .ok (.ireturn, 1) := by decide +kernel
theorem d6_0 : decode prog_38_method_4_code 0 = .ok (.aload_n 0, 1) := by decide +kernel
theorem d6_1 : decode prog_38_method_4_code 1 = .ok (.getfield 23, 3) := by decide +kernel
theorem d6_4 : decode prog_38_method_4_code 4 = .ok (.ireturn, 1) := by decide +kernel
theorem d7_0 : decode prog_38_method_5_code 0 = .ok (.aload_n 0, 1) := by decide +kernel
theorem d7_1 : decode prog_38_method_5_code 1 = .ok (.getfield 26, 3) := by decide +kernel
theorem d7_4 : decode prog_38_method_5_code 4 = .ok (.ireturn, 1) := by decide +kernel
theorem d8_0 : decode prog_38_method_6_code 0 = .ok (.aload_n 0, 1) := by decide +kernel
theorem d8_1 : decode prog_38_method_6_code 1 = .ok (.getfield 29, 3) := by decide +kernel
theorem d8_4 : decode prog_38_method_6_code 4 = .ok (.ireturn, 1) := by decide +kernel
theorem d9_0 : decode method_6_code 0 = .ok (.aload_n 0, 1) := by decide +kernel
theorem d9_1 : decode method_6_code 1 = .ok (.iconst 0, 1) := by decide +kernel
theorem d9_2 : decode method_6_code 2 = .ok (.iload_n 1, 1) := by decide +kernel
theorem d9_3 : decode method_6_code 3 = .ok (.iload_n 2, 1) := by decide +kernel
theorem d9_4 : decode method_6_code 4 = .ok (.invokestatic 27, 3) := by decide +kernel
theorem d9_7 : decode method_6_code 7 = .ok (.ifCond .eq 37, 3) := by decide +kernel
theorem d9_10 : decode method_6_code 10 = .ok (.aload_n 0, 1) := by decide +kernel
theorem d9_11 : decode method_6_code 11 = .ok (.iconst 1, 1) := by decide +kernel
theorem d9_12 : decode method_6_code 12 = .ok (.iload_n 1, 1) := by decide +kernel
theorem d9_13 : decode method_6_code 13 = .ok (.iload_n 2, 1) := by decide +kernel
theorem d9_14 : decode method_6_code 14 = .ok (.invokestatic 27, 3) := by decide +kernel
theorem d9_17 : decode method_6_code 17 = .ok (.ifCond .eq 27, 3) := by decide +kernel
theorem d9_20 : decode method_6_code 20 = .ok (.aload_n 0, 1) := by decide +kernel
theorem d9_21 : decode method_6_code 21 = .ok (.iconst 2, 1) := by decide +kernel
theorem d9_22 : decode method_6_code 22 = .ok (.iload_n 1, 1) := by decide +kernel
theorem d9_23 : decode method_6_code 23 = .ok (.iload_n 2, 1) := by decide +kernel
theorem d9_24 : decode method_6_code 24 = .ok (.invokestatic 27, 3) := by decide +kernel
theorem d9_27 : decode method_6_code 27 = .ok (.ifCond .eq 17, 3) := by decide +kernel
theorem d9_30 : decode method_6_code 30 = .ok (.aload_n 0, 1) := by decide +kernel
theorem d9_31 : decode method_6_code 31 = .ok (.iconst 3, 1) := by decide +kernel
theorem d9_32 : decode method_6_code 32 = .ok (.iload_n 1, 1) := by decide +kernel
theorem d9_33 : decode method_6_code 33 = .ok (.iload_n 2, 1) := by decide +kernel
theorem d9_34 : decode method_6_code 34 = .ok (.invokestatic 27, 3) := by decide +kernel
theorem d9_37 : decode method_6_code 37 = .ok (.ifCond .eq 7, 3) := by decide +kernel
theorem d9_40 : decode method_6_code 40 = .ok (.iconst 1, 1) := by decide +kernel
theorem d9_41 : decode method_6_code 41 = .ok (.goto 4, 3) := by decide +kernel
theorem d9_45 : decode method_6_code 45 = .ok (.ireturn, 1) := by decide +kernel
theorem d10_0 : decode method_5_code 0 = .ok (.iload_n 1, 1) := by decide +kernel
theorem d10_1 : decode method_5_code 1 = .ok (.iload_n 2, 1) := by decide +kernel
theorem d10_2 : decode method_5_code 2 = .ok (.if_icmp .lt 17, 3) := by decide +kernel
theorem d10_5 : decode method_5_code 5 = .ok (.iload_n 1, 1) := by decide +kernel
theorem d10_6 : decode method_5_code 6 = .ok (.iload_n 3, 1) := by decide +kernel
theorem d10_7 : decode method_5_code 7 = .ok (.if_icmp .ge 12, 3) := by decide +kernel
theorem d10_10 : decode method_5_code 10 = .ok (.aload_n 0, 1) := by decide +kernel
theorem d10_11 : decode method_5_code 11 = .ok (.iload_n 1, 1) := by decide +kernel
theorem d10_12 : decode method_5_code 12 = .ok (.baload, 1) := by decide +kernel
theorem d10_13 : decode method_5_code 13 = .ok (.invokestatic 23, 3) := by decide +kernel
theorem d10_16 : decode method_5_code 16 = .ok (.ifCond .ne 7, 3) := by decide +kernel
theorem d10_19 : decode method_5_code 19 = .ok (.iconst 1, 1) := by decide +kernel
theorem d10_20 : decode method_5_code 20 = .ok (.goto 4, 3) := by decide +kernel
theorem d10_24 : decode method_5_code 24 = .ok (.ireturn, 1) := by decide +kernel
theorem d11_0 : decode method_4_code 0 = .ok (.iload_n 0, 1) := by decide +kernel
theorem d11_1 : decode method_4_code 1 = .ok (.bipush 10, 2) := by decide +kernel
theorem d11_3 : decode method_4_code 3 = .ok (.if_icmp .eq 9, 3) := by decide +kernel
theorem d11_6 : decode method_4_code 6 = .ok (.iload_n 0, 1) := by decide +kernel
theorem d11_7 : decode method_4_code 7 = .ok (.bipush 13, 2) := by decide +kernel
theorem d11_9 : decode method_4_code 9 = .ok (.if_icmp .ne 7, 3) := by decide +kernel
theorem d11_12 : decode method_4_code 12 = .ok (.iconst 1, 1) := by decide +kernel
theorem d11_13 : decode method_4_code 13 = .ok (.goto 4, 3) := by decide +kernel
theorem d11_16 : decode method_4_code 16 = .ok (.iconst 0, 1) := by decide +kernel
theorem d11_17 : decode method_4_code 17 = .ok (.ireturn, 1) := by decide +kernel
theorem pd_0 : parseMethodDescriptor "(B)Z" = some ⟨[.byte], some .boolean⟩ := by decide +kernel
theorem pd_1 : parseMethodDescriptor "([BIII)Z" = some ⟨[(.array .byte), .int, .int, .int], some .boolean⟩ := by decide +kernel
theorem pd_2 : parseMethodDescriptor "()Z" = some ⟨[], some .boolean⟩ := by decide +kernel
theorem pd_3 : parseMethodDescriptor "()I" = some ⟨[], some .int⟩ := by decide +kernel
theorem pd_4 : parseMethodDescriptor "([BII)Z" = some ⟨[(.array .byte), .int, .int], some .boolean⟩ := by decide +kernel
theorem pd_5 : parseMethodDescriptor "(I)B" = some ⟨[.int], some .byte⟩ := by decide +kernel
theorem pd_6 : parseMethodDescriptor "([BI)V" = some ⟨[(.array .byte), .int], none⟩ := by decide +kernel
theorem pd_7 : parseMethodDescriptor "(Lcom/example/caducee/caducee/ByteLines;[BI[I)V" = some ⟨[(.object "com/example/caducee/caducee/ByteLines"), (.array .byte), .int, (.array .int)], none⟩ := by decide +kernel
theorem pn_1 : plainName "com/example/caducee/caducee/ByteLinesNextPinLaw" = true := by first | (simp [plainName, overriddenIn]; done) | decide +kernel
theorem ef_rm1 (m : MethodId) (x0 : Int32) : entryFrame m #[(.int x0)] 2 = mkF m 0 #[.val (.int x0), .unset] [] := by first | (simp [entryFrame, mkF, argsToLocals, Value.category]; done) | rfl
set_option maxRecDepth 65536 in
set_option maxHeartbeats 40000000 in
theorem rm1 (l : Launch) (Z : State) (a0 : Array Value) (hw : ∀ d ∈ tables_1, d.before a0 Z = true) (u0 : Int32) (h0 : Heap) (n0 : Nat) (Z0 : n0 ≤ h0.size)  :
    Con l Z (⟨"com/example/caducee/caducee/ByteLinesNextPinLaw", "draw", "(I)B"⟩ : MethodName) method_3_code 2 (some .byte) ({ frames := 0, cells := 0, slots := 0, locals := 0 } : Room) #[(.int u0)] h0 (fun v h L => (∃ y, v = some (.int y)) ∧ Fr n0 L ∧ h = h0) := by
  refine own_body pn_1 ?_
  intro p e s m below meth c s₁ hx hby hml hown hnm hret hZ e0 X0 G go rt
  have N0 := Fr.nil n0
  rw [ef_rm1 m u0]
  show G (s₁.setTop (mkF m 0 #[.val (.int u0), .unset] []))
  refine go _ _ (fun t' k' => XS.iloadN X0.here hx rfl (hb hby d1_0) rfl  k') ?_
  show G (s₁.setTop (mkF m 1 #[.val (.int u0), .unset] [(.int u0)]))
  refine go _ _ (fun t' k' => XS.bipush X0.here hx rfl (hb hby d1_1) k') ?_
  show G (s₁.setTop (mkF m 3 #[.val (.int u0), .unset] [(.int (8 : Int32)), (.int u0)]))
  refine go _ _ (fun t' k' => XS.iushr X0.here hx rfl (hb hby d1_3) rfl k') ?_
  show G (s₁.setTop (mkF m 4 #[.val (.int u0), .unset] [(.int ((u0.toUInt32 >>> ((8 : Int32) &&& 31).toUInt32).toInt32))]))
  refine go _ _ (fun t' k' => XS.iconst X0.here hx rfl (hb hby d1_4) k') ?_
  show G (s₁.setTop (mkF m 5 #[.val (.int u0), .unset] [(.int (3 : Int32)), (.int ((u0.toUInt32 >>> ((8 : Int32) &&& 31).toUInt32).toInt32))]))
  refine go _ _ (fun t' k' => XS.iand X0.here hx rfl (hb hby d1_5) rfl k') ?_
  show G (s₁.setTop (mkF m 6 #[.val (.int u0), .unset] [(.int (((u0.toUInt32 >>> ((8 : Int32) &&& 31).toUInt32).toInt32) &&& (3 : Int32)))]))
  refine go _ _ (fun t' k' => XS.istoreN X0.here hx rfl (hb hby d1_6) rfl (l' := #[.val (.int u0), .val (.int (((u0.toUInt32 >>> ((8 : Int32) &&& 31).toUInt32).toInt32) &&& (3 : Int32)))]) rfl k') ?_
  show G (s₁.setTop (mkF m 7 #[.val (.int u0), .val (.int (((u0.toUInt32 >>> ((8 : Int32) &&& 31).toUInt32).toInt32) &&& (3 : Int32)))] []))
  obtain ⟨y1, hy1⟩ : ∃ z, z = (((u0.toUInt32 >>> ((8 : Int32) &&& 31).toUInt32).toInt32) &&& (3 : Int32)) := ⟨_, rfl⟩
  rw [← hy1]
  show G (s₁.setTop (mkF m 7 #[.val (.int u0), .val (.int y1)] []))
  refine go _ _ (fun t' k' => XS.iloadN X0.here hx rfl (hb hby d1_7) rfl  k') ?_
  show G (s₁.setTop (mkF m 8 #[.val (.int u0), .val (.int y1)] [(.int y1)]))
  refine go _ _ (fun t' k' => XS.iconst X0.here hx rfl (hb hby d1_8) k') ?_
  show G (s₁.setTop (mkF m 9 #[.val (.int u0), .val (.int y1)] [(.int (1 : Int32)), (.int y1)]))
  by_cases c101 : y1 = (1 : Int32)
  · refine go _ _ (fun t' k' => XS.icmpNo X0.here hx rfl (hb hby d1_9) rfl (Free.XT.ii_ne_f c101) k') ?_
    show G (s₁.setTop (mkF m 12 #[.val (.int u0), .val (.int y1)] []))
    refine go _ _ (fun t' k' => XS.bipush X0.here hx rfl (hb hby d1_12) k') ?_
    show G (s₁.setTop (mkF m 14 #[.val (.int u0), .val (.int y1)] [(.int (10 : Int32))]))
    refine own_retZ rt X0 hx (t := .byte) hret (by simp) (hb hby d1_14) (by decide) (by decide) ?_
    exact ⟨⟨_, rfl⟩, N0, e0⟩
  · refine go _ _ (fun t' k' => XS.icmpYes X0.here hx rfl (pc0 := 9) (pc' := 15) rfl (hb hby d1_9) rfl (Free.XT.ii_ne_t c101) (by decide) (by decide) k') ?_
    show G (s₁.setTop (mkF m 15 #[.val (.int u0), .val (.int y1)] []))
    refine go _ _ (fun t' k' => XS.iloadN X0.here hx rfl (hb hby d1_15) rfl  k') ?_
    show G (s₁.setTop (mkF m 16 #[.val (.int u0), .val (.int y1)] [(.int y1)]))
    refine go _ _ (fun t' k' => XS.iconst X0.here hx rfl (hb hby d1_16) k') ?_
    show G (s₁.setTop (mkF m 17 #[.val (.int u0), .val (.int y1)] [(.int (2 : Int32)), (.int y1)]))
    by_cases c102 : y1 = (2 : Int32)
    · refine go _ _ (fun t' k' => XS.icmpNo X0.here hx rfl (hb hby d1_17) rfl (Free.XT.ii_ne_f c102) k') ?_
      show G (s₁.setTop (mkF m 20 #[.val (.int u0), .val (.int y1)] []))
      refine go _ _ (fun t' k' => XS.bipush X0.here hx rfl (hb hby d1_20) k') ?_
      show G (s₁.setTop (mkF m 22 #[.val (.int u0), .val (.int y1)] [(.int (13 : Int32))]))
      refine own_retZ rt X0 hx (t := .byte) hret (by simp) (hb hby d1_22) (by decide) (by decide) ?_
      exact ⟨⟨_, rfl⟩, N0, e0⟩
    · refine go _ _ (fun t' k' => XS.icmpYes X0.here hx rfl (pc0 := 17) (pc' := 23) rfl (hb hby d1_17) rfl (Free.XT.ii_ne_t c102) (by decide) (by decide) k') ?_
      show G (s₁.setTop (mkF m 23 #[.val (.int u0), .val (.int y1)] []))
      refine go _ _ (fun t' k' => XS.iloadN X0.here hx rfl (hb hby d1_23) rfl  k') ?_
      show G (s₁.setTop (mkF m 24 #[.val (.int u0), .val (.int y1)] [(.int u0)]))
      refine go _ _ (fun t' k' => XS.i2b X0.here hx rfl (hb hby d1_24) rfl k') ?_
      show G (s₁.setTop (mkF m 25 #[.val (.int u0), .val (.int y1)] [(.int (u0.toInt8.toInt32))]))
      refine own_retZ rt X0 hx (t := .byte) hret (by simp) (hb hby d1_25) (by decide) (by decide) ?_
      exact ⟨⟨_, rfl⟩, N0, e0⟩
theorem pn_2 : plainName "com/example/caducee/caducee/ByteLines" = true := by first | (simp [plainName, overriddenIn]; done) | decide +kernel
theorem ef_rm2 (m : MethodId) (x0 : Addr) (x1 : Addr) (x2 : Int32) : entryFrame m #[(.ref x0), (.ref x1), (.int x2)] 3 = mkF m 0 #[.val (.ref x0), .val (.ref x1), .val (.int x2)] [] := by first | (simp [entryFrame, mkF, argsToLocals, Value.category]; done) | rfl
set_option maxRecDepth 65536 in
set_option maxHeartbeats 40000000 in
theorem rm2 (l : Launch) (Z : State) (a0 : Array Value) (hw : ∀ d ∈ tables_1, d.before a0 Z = true) (r0 r1 : Addr) (u2 : Int32) (h0 : Heap) (n0 : Nat) (Z0 : n0 ≤ h0.size) (g_r0 : n0 ≤ r0) (E0 : Exa Z h0 r0 "com/example/caducee/caducee/ByteLines") (F0 : Fld Z h0 r0 "com/example/caducee/caducee/ByteLines" "bytes" "[B" .null) (F1 : Fld Z h0 r0 "com/example/caducee/caducee/ByteLines" "length" "I" (.int (0 : Int32))) (F2 : Fld Z h0 r0 "com/example/caducee/caducee/ByteLines" "number" "I" (.int (0 : Int32))) (F3 : Fld Z h0 r0 "com/example/caducee/caducee/ByteLines" "start" "I" (.int (0 : Int32))) (F4 : Fld Z h0 r0 "com/example/caducee/caducee/ByteLines" "end" "I" (.int (0 : Int32))) (F5 : Fld Z h0 r0 "com/example/caducee/caducee/ByteLines" "next" "I" (.int (0 : Int32))) :
    Con l Z (⟨"com/example/caducee/caducee/ByteLines", "<init>", "([BI)V"⟩ : MethodName) prog_38_method_2_code 3 none ({ frames := 1, cells := 0, slots := 0, locals := 12 } : Room) #[(.ref r0), (.ref r1), (.int u2)] h0 (fun v h L => v = none ∧ Fr n0 L ∧ Keep h0 h [r0] ∧ BL Z h r0 r1 u2 0 0 0 0) := by
  refine own_body pn_2 ?_
  intro p e s m below meth c s₁ hx hby hml hown hnm hret hZ e0 X0 G go rt
  have N0 := Fr.nil n0
  rw [ef_rm2 m r0 r1 u2]
  show G (s₁.setTop (mkF m 0 #[.val (.ref r0), .val (.ref r1), .val (.int u2)] []))
  refine go _ _ (fun t' k' => XS.aloadN X0.here hx rfl (hb hby d2_0) rfl rfl  k') ?_
  show G (s₁.setTop (mkF m 1 #[.val (.ref r0), .val (.ref r1), .val (.int u2)] [(.ref r0)]))
  obtain ⟨T103, X103, e103, st103⟩ := initO X0 hx hZ hown (hw _ (List.mem_of_getElem? (i := 12) rfl)) (hw _ (List.mem_of_getElem? (i := 13) rfl)) (hw _ (List.mem_of_getElem? (i := 14) rfl)) e0 (g := (mkF m 1 #[.val (.ref r0), .val (.ref r1), .val (.int u2)] [(.ref r0)])) rfl (by rw [hml]; rfl) rfl (hb hby d2_1) (by decide) (W := 0) (by show 2 * 0 + _ ≤ _; exact Nat.le_of_eq rfl) (by decide)
  refine go _ _ st103 ?_
  show G (T103.setTop (mkF m 4 #[.val (.ref r0), .val (.ref r1), .val (.int u2)] []))
  refine go _ _ (fun t' k' => XS.aloadN X103.here hx rfl (hb hby d2_4) rfl rfl  k') ?_
  show G (T103.setTop (mkF m 5 #[.val (.ref r0), .val (.ref r1), .val (.int u2)] [(.ref r0)]))
  refine go _ _ (fun t' k' => XS.aloadN X103.here hx rfl (hb hby d2_5) rfl rfl  k') ?_
  show G (T103.setTop (mkF m 6 #[.val (.ref r0), .val (.ref r1), .val (.int u2)] [(.ref r1), (.ref r0)]))
  obtain ⟨T104, h104, X104, e104, W104, st104⟩ := putF X103 hx hZ hown (host := "") (Or.inl (hw _ (List.mem_of_getElem? (i := 15) rfl))) Via.refl e103 F0 E0 (Or.inr ⟨(hw _ (List.mem_of_getElem? (i := 16) rfl)), rfl, hnm⟩) (hw _ (List.mem_of_getElem? (i := 7) rfl)) (ty := (.array .byte)) (by decide) rfl rfl (g := (mkF m 6 #[.val (.ref r0), .val (.ref r1), .val (.int u2)] [(.ref r1), (.ref r0)])) rfl rfl (hb hby d2_6)
  have F104 := F0.same W104
  have K105 : Keep h0 h104 [r0] := (Keep.refl h0 [r0]).wr W104 (Or.inl (List.mem_of_getElem? (i := 0) rfl))
  obtain ⟨lc104, X104h, N104h⟩ := own_hide X104 (Fr.snoc X104 N0 g_r0)
  have Z106 : n0 ≤ h104.size := Nat.le_trans Z0 (Nat.le_of_eq W104.size.symm)
  refine go _ _ st104 ?_
  show G (T104.setTop (mkF m 9 #[.val (.ref r0), .val (.ref r1), .val (.int u2)] []))
  refine go _ _ (fun t' k' => XS.aloadN X104h.here hx rfl (hb hby d2_9) rfl rfl  k') ?_
  show G (T104.setTop (mkF m 10 #[.val (.ref r0), .val (.ref r1), .val (.int u2)] [(.ref r0)]))
  refine go _ _ (fun t' k' => XS.iloadN X104h.here hx rfl (hb hby d2_10) rfl  k') ?_
  show G (T104.setTop (mkF m 11 #[.val (.ref r0), .val (.ref r1), .val (.int u2)] [(.int u2), (.ref r0)]))
  have f107 := (F1.other W104 (Or.inr (slot_ne (Or.inr (hw _ (List.mem_of_getElem? (i := 18) rfl))) (Or.inr (hw _ (List.mem_of_getElem? (i := 16) rfl))) (by decide) (t := .int) (t' := (.array .byte)) (by decide) (by decide))))
  have f108 := (E0.wr W104)
  obtain ⟨T109, h109, X109, e109, W109, st109⟩ := putF X104h hx hZ hown (host := "") (Or.inl (hw _ (List.mem_of_getElem? (i := 17) rfl))) Via.refl e104 f107 f108 (Or.inr ⟨(hw _ (List.mem_of_getElem? (i := 18) rfl)), rfl, hnm⟩) (hw _ (List.mem_of_getElem? (i := 7) rfl)) (ty := .int) (by decide) rfl rfl (g := (mkF m 11 #[.val (.ref r0), .val (.ref r1), .val (.int u2)] [(.int u2), (.ref r0)])) rfl rfl (hb hby d2_11)
  have F109 := f107.same W109
  have K110 : Keep h0 h109 [r0] := K105.wr W109 (Or.inl (List.mem_of_getElem? (i := 0) rfl))
  obtain ⟨lc109, X109h, N109h⟩ := own_hide X109 (Fr.snoc X109 N104h g_r0)
  have Z111 : n0 ≤ h109.size := Nat.le_trans Z106 (Nat.le_of_eq W109.size.symm)
  refine go _ _ st109 ?_
  show G (T109.setTop (mkF m 14 #[.val (.ref r0), .val (.ref r1), .val (.int u2)] []))
  refine own_retV rt X109h hx hret (hb hby d2_14) (by decide) (by decide) ?_
  have f112 := (f108.wr W109)
  have f113 := (F104.other W109 (Or.inr (slot_ne (Or.inr (hw _ (List.mem_of_getElem? (i := 16) rfl))) (Or.inr (hw _ (List.mem_of_getElem? (i := 18) rfl))) (by decide) (t := (.array .byte)) (t' := .int) (by decide) (by decide))))
  have f114 := ((F2.other W104 (Or.inr (slot_ne (Or.inl (hw _ (List.mem_of_getElem? (i := 36) rfl))) (Or.inr (hw _ (List.mem_of_getElem? (i := 16) rfl))) (by decide) (t := .int) (t' := (.array .byte)) (by decide) (by decide)))).other W109 (Or.inr (slot_ne (Or.inl (hw _ (List.mem_of_getElem? (i := 36) rfl))) (Or.inr (hw _ (List.mem_of_getElem? (i := 18) rfl))) (by decide) (t := .int) (t' := .int) (by decide) (by decide))))
  have f115 := ((F3.other W104 (Or.inr (slot_ne (Or.inl (hw _ (List.mem_of_getElem? (i := 38) rfl))) (Or.inr (hw _ (List.mem_of_getElem? (i := 16) rfl))) (by decide) (t := .int) (t' := (.array .byte)) (by decide) (by decide)))).other W109 (Or.inr (slot_ne (Or.inl (hw _ (List.mem_of_getElem? (i := 38) rfl))) (Or.inr (hw _ (List.mem_of_getElem? (i := 18) rfl))) (by decide) (t := .int) (t' := .int) (by decide) (by decide))))
  have f116 := ((F4.other W104 (Or.inr (slot_ne (Or.inl (hw _ (List.mem_of_getElem? (i := 40) rfl))) (Or.inr (hw _ (List.mem_of_getElem? (i := 16) rfl))) (by decide) (t := .int) (t' := (.array .byte)) (by decide) (by decide)))).other W109 (Or.inr (slot_ne (Or.inl (hw _ (List.mem_of_getElem? (i := 40) rfl))) (Or.inr (hw _ (List.mem_of_getElem? (i := 18) rfl))) (by decide) (t := .int) (t' := .int) (by decide) (by decide))))
  have f117 := ((F5.other W104 (Or.inr (slot_ne (Or.inl (hw _ (List.mem_of_getElem? (i := 29) rfl))) (Or.inr (hw _ (List.mem_of_getElem? (i := 16) rfl))) (by decide) (t := .int) (t' := (.array .byte)) (by decide) (by decide)))).other W109 (Or.inr (slot_ne (Or.inl (hw _ (List.mem_of_getElem? (i := 29) rfl))) (Or.inr (hw _ (List.mem_of_getElem? (i := 18) rfl))) (by decide) (t := .int) (t' := .int) (by decide) (by decide))))
  rw [e109]
  exact ⟨rfl, N109h, K110, ⟨f112, f113, F109, f114, f115, f116, f117⟩⟩
theorem pn_6 : plainName "com/example/caducee/caducee/ByteLines" = true := by first | (simp [plainName, overriddenIn]; done) | decide +kernel
theorem ef_rm_number (m : MethodId) (x0 : Addr) : entryFrame m #[(.ref x0)] 1 = mkF m 0 #[.val (.ref x0)] [] := by first | (simp [entryFrame, mkF, argsToLocals, Value.category]; done) | rfl
set_option maxRecDepth 65536 in
set_option maxHeartbeats 40000000 in
theorem rm_number (l : Launch) (Z : State) (a0 : Array Value) (hw : ∀ d ∈ tables_1, d.before a0 Z = true) (r0 : Addr) (u : Int32) (h0 : Heap) (n0 : Nat) (Z0 : n0 ≤ h0.size) (F : Fld Z h0 r0 "com/example/caducee/caducee/ByteLines" "number" "I" (.int u)) :
    Con l Z (⟨"com/example/caducee/caducee/ByteLines", "number", "()I"⟩ : MethodName) prog_38_method_4_code 1 (some .int) ({ frames := 0, cells := 0, slots := 0, locals := 0 } : Room) #[(.ref r0)] h0 (fun v h L => v = some (.int u) ∧ Fr n0 L ∧ h = h0) := by
  refine own_body pn_6 ?_
  intro p e s m below meth c s₁ hx hby hml hown hnm hret hZ e0 X0 G go rt
  have N0 := Fr.nil n0
  rw [ef_rm_number m r0]
  show G (s₁.setTop (mkF m 0 #[.val (.ref r0)] []))
  refine go _ _ (fun t' k' => XS.aloadN X0.here hx rfl (hb hby d6_0) rfl rfl  k') ?_
  show G (s₁.setTop (mkF m 1 #[.val (.ref r0)] [(.ref r0)]))
  obtain ⟨T118, X118, e118, st118⟩ := getF X0 hx hZ hown (host := "") (Or.inl (hw _ (List.mem_of_getElem? (i := 35) rfl))) Via.refl e0 F (g := (mkF m 1 #[.val (.ref r0)] [(.ref r0)])) rfl rfl (hb hby d6_1)
  refine go _ _ st118 ?_
  show G (T118.setTop (mkF m 4 #[.val (.ref r0)] [(.int u)]))
  refine own_retI rt X118 hx hret (hb hby d6_4) (by decide) (by decide) ?_
  exact ⟨rfl, N0, e118⟩
theorem pn_7 : plainName "com/example/caducee/caducee/ByteLines" = true := by first | (simp [plainName, overriddenIn]; done) | decide +kernel
theorem ef_rm_start (m : MethodId) (x0 : Addr) : entryFrame m #[(.ref x0)] 1 = mkF m 0 #[.val (.ref x0)] [] := by first | (simp [entryFrame, mkF, argsToLocals, Value.category]; done) | rfl
set_option maxRecDepth 65536 in
set_option maxHeartbeats 40000000 in
theorem rm_start (l : Launch) (Z : State) (a0 : Array Value) (hw : ∀ d ∈ tables_1, d.before a0 Z = true) (r0 : Addr) (u : Int32) (h0 : Heap) (n0 : Nat) (Z0 : n0 ≤ h0.size) (F : Fld Z h0 r0 "com/example/caducee/caducee/ByteLines" "start" "I" (.int u)) :
    Con l Z (⟨"com/example/caducee/caducee/ByteLines", "start", "()I"⟩ : MethodName) prog_38_method_5_code 1 (some .int) ({ frames := 0, cells := 0, slots := 0, locals := 0 } : Room) #[(.ref r0)] h0 (fun v h L => v = some (.int u) ∧ Fr n0 L ∧ h = h0) := by
  refine own_body pn_7 ?_
  intro p e s m below meth c s₁ hx hby hml hown hnm hret hZ e0 X0 G go rt
  have N0 := Fr.nil n0
  rw [ef_rm_start m r0]
  show G (s₁.setTop (mkF m 0 #[.val (.ref r0)] []))
  refine go _ _ (fun t' k' => XS.aloadN X0.here hx rfl (hb hby d7_0) rfl rfl  k') ?_
  show G (s₁.setTop (mkF m 1 #[.val (.ref r0)] [(.ref r0)]))
  obtain ⟨T119, X119, e119, st119⟩ := getF X0 hx hZ hown (host := "") (Or.inl (hw _ (List.mem_of_getElem? (i := 37) rfl))) Via.refl e0 F (g := (mkF m 1 #[.val (.ref r0)] [(.ref r0)])) rfl rfl (hb hby d7_1)
  refine go _ _ st119 ?_
  show G (T119.setTop (mkF m 4 #[.val (.ref r0)] [(.int u)]))
  refine own_retI rt X119 hx hret (hb hby d7_4) (by decide) (by decide) ?_
  exact ⟨rfl, N0, e119⟩
theorem pn_8 : plainName "com/example/caducee/caducee/ByteLines" = true := by first | (simp [plainName, overriddenIn]; done) | decide +kernel
theorem ef_rm_end (m : MethodId) (x0 : Addr) : entryFrame m #[(.ref x0)] 1 = mkF m 0 #[.val (.ref x0)] [] := by first | (simp [entryFrame, mkF, argsToLocals, Value.category]; done) | rfl
set_option maxRecDepth 65536 in
set_option maxHeartbeats 40000000 in
theorem rm_end (l : Launch) (Z : State) (a0 : Array Value) (hw : ∀ d ∈ tables_1, d.before a0 Z = true) (r0 : Addr) (u : Int32) (h0 : Heap) (n0 : Nat) (Z0 : n0 ≤ h0.size) (F : Fld Z h0 r0 "com/example/caducee/caducee/ByteLines" "end" "I" (.int u)) :
    Con l Z (⟨"com/example/caducee/caducee/ByteLines", "end", "()I"⟩ : MethodName) prog_38_method_6_code 1 (some .int) ({ frames := 0, cells := 0, slots := 0, locals := 0 } : Room) #[(.ref r0)] h0 (fun v h L => v = some (.int u) ∧ Fr n0 L ∧ h = h0) := by
  refine own_body pn_8 ?_
  intro p e s m below meth c s₁ hx hby hml hown hnm hret hZ e0 X0 G go rt
  have N0 := Fr.nil n0
  rw [ef_rm_end m r0]
  show G (s₁.setTop (mkF m 0 #[.val (.ref r0)] []))
  refine go _ _ (fun t' k' => XS.aloadN X0.here hx rfl (hb hby d8_0) rfl rfl  k') ?_
  show G (s₁.setTop (mkF m 1 #[.val (.ref r0)] [(.ref r0)]))
  obtain ⟨T120, X120, e120, st120⟩ := getF X0 hx hZ hown (host := "") (Or.inl (hw _ (List.mem_of_getElem? (i := 39) rfl))) Via.refl e0 F (g := (mkF m 1 #[.val (.ref r0)] [(.ref r0)])) rfl rfl (hb hby d8_1)
  refine go _ _ st120 ?_
  show G (T120.setTop (mkF m 4 #[.val (.ref r0)] [(.int u)]))
  refine own_retI rt X120 hx hret (hb hby d8_4) (by decide) (by decide) ?_
  exact ⟨rfl, N0, e120⟩
theorem pn_11 : plainName "com/example/caducee/caducee/ByteLinesNextPinLaw" = true := by first | (simp [plainName, overriddenIn]; done) | decide +kernel
theorem ef_rm4 (m : MethodId) (x0 : Int32) : entryFrame m #[(.int x0)] 1 = mkF m 0 #[.val (.int x0)] [] := by first | (simp [entryFrame, mkF, argsToLocals, Value.category]; done) | rfl
set_option maxRecDepth 65536 in
set_option maxHeartbeats 40000000 in
theorem rm4 (l : Launch) (Z : State) (a0 : Array Value) (hw : ∀ d ∈ tables_1, d.before a0 Z = true) (u0 : Int32) (h0 : Heap) (n0 : Nat) (Z0 : n0 ≤ h0.size)  :
    Con l Z (⟨"com/example/caducee/caducee/ByteLinesNextPinLaw", "isBreak", "(B)Z"⟩ : MethodName) method_4_code 1 (some .boolean) ({ frames := 0, cells := 0, slots := 0, locals := 0 } : Room) #[(.int u0)] h0 (fun v h L => v = some (.int (if brk u0 then 1 else 0)) ∧ Fr n0 L ∧ h = h0) := by
  refine own_body pn_11 ?_
  intro p e s m below meth c s₁ hx hby hml hown hnm hret hZ e0 X0 G go rt
  have N0 := Fr.nil n0
  rw [ef_rm4 m u0]
  show G (s₁.setTop (mkF m 0 #[.val (.int u0)] []))
  refine go _ _ (fun t' k' => XS.iloadN X0.here hx rfl (hb hby d11_0) rfl  k') ?_
  show G (s₁.setTop (mkF m 1 #[.val (.int u0)] [(.int u0)]))
  refine go _ _ (fun t' k' => XS.bipush X0.here hx rfl (hb hby d11_1) k') ?_
  show G (s₁.setTop (mkF m 3 #[.val (.int u0)] [(.int (10 : Int32)), (.int u0)]))
  by_cases c121 : u0 = (10 : Int32)
  · refine go _ _ (fun t' k' => XS.icmpYes X0.here hx rfl (pc0 := 3) (pc' := 12) rfl (hb hby d11_3) rfl (Free.XT.ii_eq_t c121) (by decide) (by decide) k') ?_
    show G (s₁.setTop (mkF m 12 #[.val (.int u0)] []))
    refine go _ _ (fun t' k' => XS.iconst X0.here hx rfl (hb hby d11_12) k') ?_
    show G (s₁.setTop (mkF m 13 #[.val (.int u0)] [(.int (1 : Int32))]))
    refine go _ _ (fun t' k' => XS.goto X0.here hx rfl (pc0 := 13) (pc' := 17) rfl (hb hby d11_13) (by decide) (by decide) k') ?_
    show G (s₁.setTop (mkF m 17 #[.val (.int u0)] [(.int (1 : Int32))]))
    refine own_retZ rt X0 hx (t := .boolean) hret (by simp) (hb hby d11_17) (by decide) (by decide) ?_
    exact ⟨by simp [nar, brk, c121], N0, e0⟩
  · refine go _ _ (fun t' k' => XS.icmpNo X0.here hx rfl (hb hby d11_3) rfl (Free.XT.ii_eq_f c121) k') ?_
    show G (s₁.setTop (mkF m 6 #[.val (.int u0)] []))
    refine go _ _ (fun t' k' => XS.iloadN X0.here hx rfl (hb hby d11_6) rfl  k') ?_
    show G (s₁.setTop (mkF m 7 #[.val (.int u0)] [(.int u0)]))
    refine go _ _ (fun t' k' => XS.bipush X0.here hx rfl (hb hby d11_7) k') ?_
    show G (s₁.setTop (mkF m 9 #[.val (.int u0)] [(.int (13 : Int32)), (.int u0)]))
    by_cases c122 : u0 = (13 : Int32)
    · refine go _ _ (fun t' k' => XS.icmpNo X0.here hx rfl (hb hby d11_9) rfl (Free.XT.ii_ne_f c122) k') ?_
      show G (s₁.setTop (mkF m 12 #[.val (.int u0)] []))
      refine go _ _ (fun t' k' => XS.iconst X0.here hx rfl (hb hby d11_12) k') ?_
      show G (s₁.setTop (mkF m 13 #[.val (.int u0)] [(.int (1 : Int32))]))
      refine go _ _ (fun t' k' => XS.goto X0.here hx rfl (pc0 := 13) (pc' := 17) rfl (hb hby d11_13) (by decide) (by decide) k') ?_
      show G (s₁.setTop (mkF m 17 #[.val (.int u0)] [(.int (1 : Int32))]))
      refine own_retZ rt X0 hx (t := .boolean) hret (by simp) (hb hby d11_17) (by decide) (by decide) ?_
      exact ⟨by simp [nar, brk, c121, c122], N0, e0⟩
    · refine go _ _ (fun t' k' => XS.icmpYes X0.here hx rfl (pc0 := 9) (pc' := 16) rfl (hb hby d11_9) rfl (Free.XT.ii_ne_t c122) (by decide) (by decide) k') ?_
      show G (s₁.setTop (mkF m 16 #[.val (.int u0)] []))
      refine go _ _ (fun t' k' => XS.iconst X0.here hx rfl (hb hby d11_16) k') ?_
      show G (s₁.setTop (mkF m 17 #[.val (.int u0)] [(.int (0 : Int32))]))
      refine own_retZ rt X0 hx (t := .boolean) hret (by simp) (hb hby d11_17) (by decide) (by decide) ?_
      exact ⟨by simp [nar, brk, c121, c122], N0, e0⟩
theorem pn_10 : plainName "com/example/caducee/caducee/ByteLinesNextPinLaw" = true := by first | (simp [plainName, overriddenIn]; done) | decide +kernel
theorem ef_rm5 (m : MethodId) (x0 : Addr) (x1 : Int32) (x2 : Int32) (x3 : Int32) : entryFrame m #[(.ref x0), (.int x1), (.int x2), (.int x3)] 4 = mkF m 0 #[.val (.ref x0), .val (.int x1), .val (.int x2), .val (.int x3)] [] := by first | (simp [entryFrame, mkF, argsToLocals, Value.category]; done) | rfl
set_option maxRecDepth 65536 in
set_option maxHeartbeats 40000000 in
theorem rm5 (l : Launch) (Z : State) (a0 : Array Value) (hw : ∀ d ∈ tables_1, d.before a0 Z = true) (r0 : Addr) (u1 u2 u3 : Int32) (g : Nat → Int32) (ki : Nat) (h0 : Heap) (n0 : Nat) (Z0 : n0 ≤ h0.size) (A : Ary Z h0 r0 .byte 4 (fun i => .int (g i))) (hki : u1.toInt = ki) (hk4 : ki < 4) (hno : u1 < u2 ∨ ¬ u1 < u3 ∨ ¬ brk (g ki)) :
    Con l Z (⟨"com/example/caducee/caducee/ByteLinesNextPinLaw", "ok", "([BIII)Z"⟩ : MethodName) method_5_code 4 (some .boolean) ({ frames := 1, cells := 0, slots := 0, locals := 12 } : Room) #[(.ref r0), (.int u1), (.int u2), (.int u3)] h0 (fun v h L => v = some (.int 1) ∧ Fr n0 L ∧ h = h0) := by
  refine own_body pn_10 ?_
  intro p e s m below meth c s₁ hx hby hml hown hnm hret hZ e0 X0 G go rt
  have N0 := Fr.nil n0
  rw [ef_rm5 m r0 u1 u2 u3]
  show G (s₁.setTop (mkF m 0 #[.val (.ref r0), .val (.int u1), .val (.int u2), .val (.int u3)] []))
  refine go _ _ (fun t' k' => XS.iloadN X0.here hx rfl (hb hby d10_0) rfl  k') ?_
  show G (s₁.setTop (mkF m 1 #[.val (.ref r0), .val (.int u1), .val (.int u2), .val (.int u3)] [(.int u1)]))
  refine go _ _ (fun t' k' => XS.iloadN X0.here hx rfl (hb hby d10_1) rfl  k') ?_
  show G (s₁.setTop (mkF m 2 #[.val (.ref r0), .val (.int u1), .val (.int u2), .val (.int u3)] [(.int u2), (.int u1)]))
  by_cases c123 : u1 < u2
  · refine go _ _ (fun t' k' => XS.icmpYes X0.here hx rfl (pc0 := 2) (pc' := 19) rfl (hb hby d10_2) rfl (Free.XT.ii_lt_t c123) (by decide) (by decide) k') ?_
    show G (s₁.setTop (mkF m 19 #[.val (.ref r0), .val (.int u1), .val (.int u2), .val (.int u3)] []))
    refine go _ _ (fun t' k' => XS.iconst X0.here hx rfl (hb hby d10_19) k') ?_
    show G (s₁.setTop (mkF m 20 #[.val (.ref r0), .val (.int u1), .val (.int u2), .val (.int u3)] [(.int (1 : Int32))]))
    refine go _ _ (fun t' k' => XS.goto X0.here hx rfl (pc0 := 20) (pc' := 24) rfl (hb hby d10_20) (by decide) (by decide) k') ?_
    show G (s₁.setTop (mkF m 24 #[.val (.ref r0), .val (.int u1), .val (.int u2), .val (.int u3)] [(.int (1 : Int32))]))
    refine own_retZ rt X0 hx (t := .boolean) hret (by simp) (hb hby d10_24) (by decide) (by decide) ?_
    exact ⟨rfl, N0, e0⟩
  · refine go _ _ (fun t' k' => XS.icmpNo X0.here hx rfl (hb hby d10_2) rfl (Free.XT.ii_lt_f c123) k') ?_
    show G (s₁.setTop (mkF m 5 #[.val (.ref r0), .val (.int u1), .val (.int u2), .val (.int u3)] []))
    refine go _ _ (fun t' k' => XS.iloadN X0.here hx rfl (hb hby d10_5) rfl  k') ?_
    show G (s₁.setTop (mkF m 6 #[.val (.ref r0), .val (.int u1), .val (.int u2), .val (.int u3)] [(.int u1)]))
    refine go _ _ (fun t' k' => XS.iloadN X0.here hx rfl (hb hby d10_6) rfl  k') ?_
    show G (s₁.setTop (mkF m 7 #[.val (.ref r0), .val (.int u1), .val (.int u2), .val (.int u3)] [(.int u3), (.int u1)]))
    by_cases c124 : u1 < u3
    · refine go _ _ (fun t' k' => XS.icmpNo X0.here hx rfl (hb hby d10_7) rfl (Free.XT.ii_ge_f c124) k') ?_
      show G (s₁.setTop (mkF m 10 #[.val (.ref r0), .val (.int u1), .val (.int u2), .val (.int u3)] []))
      refine go _ _ (fun t' k' => XS.aloadN X0.here hx rfl (hb hby d10_10) rfl rfl  k') ?_
      show G (s₁.setTop (mkF m 11 #[.val (.ref r0), .val (.int u1), .val (.int u2), .val (.int u3)] [(.ref r0)]))
      refine go _ _ (fun t' k' => XS.iloadN X0.here hx rfl (hb hby d10_11) rfl  k') ?_
      show G (s₁.setTop (mkF m 12 #[.val (.ref r0), .val (.int u1), .val (.int u2), .val (.int u3)] [(.int u1), (.ref r0)]))
      refine own_baload go X0 hx hZ e0 ki hki hk4 (g := (mkF m 12 #[.val (.ref r0), .val (.int u1), .val (.int u2), .val (.int u3)] [(.int u1), (.ref r0)])) rfl A rfl (hb hby d10_12) ?_
      show G (s₁.setTop (mkF m 13 #[.val (.ref r0), .val (.int u1), .val (.int u2), .val (.int u3)] [(.int (g ki))]))
      refine own_static go X0 hx hZ e0 hown (hw _ (List.mem_of_getElem? (i := 57) rfl)) (hw _ (List.mem_of_getElem? (i := 58) rfl)) (hw _ (List.mem_of_getElem? (i := 3) rfl)) (hw _ (List.mem_of_getElem? (i := 59) rfl)) (by decide) (rm4 l Z a0 hw (g ki) h0 n0 Z0) 0 (by decide) (by decide) (by decide) (by decide) (g := (mkF m 13 #[.val (.ref r0), .val (.int u1), .val (.int u2), .val (.int u3)] [(.int (g ki))])) rfl (by rw [hml]; rfl) [(.int (g ki))] [] rfl (lenOf pd_0 rfl) rfl (by show 2 * 0 + _ ≤ _; exact Nat.le_of_eq rfl) (hb hby d10_13) ?_
      intro T125 L125 v125 X125 q125
      obtain ⟨rfl, N125, hh125⟩ := q125
      obtain ⟨lc125, X125h, N125h⟩ := own_hide X125 (Fr.app N0 N125)
      show G (T125.setTop (mkF m 16 #[.val (.ref r0), .val (.int u1), .val (.int u2), .val (.int u3)] [(.int (if brk (g ki) then (1 : Int32) else 0))]))
      refine go _ _ (fun t' k' => XS.ifNo X125h.here hx rfl (hb hby d10_16) rfl (Free.XT.i0_ne_f (if_neg (fun z => hno.elim c123 (fun w => w.elim (fun y => y c124) (fun y => y z))))) k') ?_
      show G (T125.setTop (mkF m 19 #[.val (.ref r0), .val (.int u1), .val (.int u2), .val (.int u3)] []))
      refine go _ _ (fun t' k' => XS.iconst X125h.here hx rfl (hb hby d10_19) k') ?_
      show G (T125.setTop (mkF m 20 #[.val (.ref r0), .val (.int u1), .val (.int u2), .val (.int u3)] [(.int (1 : Int32))]))
      refine go _ _ (fun t' k' => XS.goto X125h.here hx rfl (pc0 := 20) (pc' := 24) rfl (hb hby d10_20) (by decide) (by decide) k') ?_
      show G (T125.setTop (mkF m 24 #[.val (.ref r0), .val (.int u1), .val (.int u2), .val (.int u3)] [(.int (1 : Int32))]))
      refine own_retZ rt X125h hx (t := .boolean) hret (by simp) (hb hby d10_24) (by decide) (by decide) ?_
      exact ⟨rfl, N125h, hh125⟩
    · refine go _ _ (fun t' k' => XS.icmpYes X0.here hx rfl (pc0 := 7) (pc' := 19) rfl (hb hby d10_7) rfl (Free.XT.ii_ge_t c124) (by decide) (by decide) k') ?_
      show G (s₁.setTop (mkF m 19 #[.val (.ref r0), .val (.int u1), .val (.int u2), .val (.int u3)] []))
      refine go _ _ (fun t' k' => XS.iconst X0.here hx rfl (hb hby d10_19) k') ?_
      show G (s₁.setTop (mkF m 20 #[.val (.ref r0), .val (.int u1), .val (.int u2), .val (.int u3)] [(.int (1 : Int32))]))
      refine go _ _ (fun t' k' => XS.goto X0.here hx rfl (pc0 := 20) (pc' := 24) rfl (hb hby d10_20) (by decide) (by decide) k') ?_
      show G (s₁.setTop (mkF m 24 #[.val (.ref r0), .val (.int u1), .val (.int u2), .val (.int u3)] [(.int (1 : Int32))]))
      refine own_retZ rt X0 hx (t := .boolean) hret (by simp) (hb hby d10_24) (by decide) (by decide) ?_
      exact ⟨rfl, N0, e0⟩
theorem pn_9 : plainName "com/example/caducee/caducee/ByteLinesNextPinLaw" = true := by first | (simp [plainName, overriddenIn]; done) | decide +kernel
theorem ef_rm6 (m : MethodId) (x0 : Addr) (x1 : Int32) (x2 : Int32) : entryFrame m #[(.ref x0), (.int x1), (.int x2)] 3 = mkF m 0 #[.val (.ref x0), .val (.int x1), .val (.int x2)] [] := by first | (simp [entryFrame, mkF, argsToLocals, Value.category]; done) | rfl
set_option maxRecDepth 65536 in
set_option maxHeartbeats 40000000 in
theorem rm6 (l : Launch) (Z : State) (a0 : Array Value) (hw : ∀ d ∈ tables_1, d.before a0 Z = true) (r0 : Addr) (u1 u2 : Int32) (g : Nat → Int32) (h0 : Heap) (n0 : Nat) (Z0 : n0 ≤ h0.size) (A : Ary Z h0 r0 .byte 4 (fun i => .int (g i))) (hno : ∀ (y : Int32) (k : Nat), y.toInt = k → k < 4 → y < u1 ∨ ¬ y < u2 ∨ ¬ brk (g k)) :
    Con l Z (⟨"com/example/caducee/caducee/ByteLinesNextPinLaw", "noBreak", "([BII)Z"⟩ : MethodName) method_6_code 3 (some .boolean) ({ frames := 2, cells := 0, slots := 0, locals := 27 } : Room) #[(.ref r0), (.int u1), (.int u2)] h0 (fun v h L => v = some (.int 1) ∧ Fr n0 L ∧ h = h0) := by
  refine own_body pn_9 ?_
  intro p e s m below meth c s₁ hx hby hml hown hnm hret hZ e0 X0 G go rt
  have N0 := Fr.nil n0
  rw [ef_rm6 m r0 u1 u2]
  show G (s₁.setTop (mkF m 0 #[.val (.ref r0), .val (.int u1), .val (.int u2)] []))
  refine go _ _ (fun t' k' => XS.aloadN X0.here hx rfl (hb hby d9_0) rfl rfl  k') ?_
  show G (s₁.setTop (mkF m 1 #[.val (.ref r0), .val (.int u1), .val (.int u2)] [(.ref r0)]))
  refine go _ _ (fun t' k' => XS.iconst X0.here hx rfl (hb hby d9_1) k') ?_
  show G (s₁.setTop (mkF m 2 #[.val (.ref r0), .val (.int u1), .val (.int u2)] [(.int (0 : Int32)), (.ref r0)]))
  refine go _ _ (fun t' k' => XS.iloadN X0.here hx rfl (hb hby d9_2) rfl  k') ?_
  show G (s₁.setTop (mkF m 3 #[.val (.ref r0), .val (.int u1), .val (.int u2)] [(.int u1), (.int (0 : Int32)), (.ref r0)]))
  refine go _ _ (fun t' k' => XS.iloadN X0.here hx rfl (hb hby d9_3) rfl  k') ?_
  show G (s₁.setTop (mkF m 4 #[.val (.ref r0), .val (.int u1), .val (.int u2)] [(.int u2), (.int u1), (.int (0 : Int32)), (.ref r0)]))
  refine own_static go X0 hx hZ e0 hown (hw _ (List.mem_of_getElem? (i := 54) rfl)) (hw _ (List.mem_of_getElem? (i := 55) rfl)) (hw _ (List.mem_of_getElem? (i := 3) rfl)) (hw _ (List.mem_of_getElem? (i := 56) rfl)) (by decide) (rm5 l Z a0 hw r0 (0 : Int32) u1 u2 g 0 h0 n0 Z0 A rfl (by decide) (hno (0 : Int32) 0 rfl (by decide))) 0 (by decide) (by decide) (by decide) (by decide) (g := (mkF m 4 #[.val (.ref r0), .val (.int u1), .val (.int u2)] [(.int u2), (.int u1), (.int (0 : Int32)), (.ref r0)])) rfl (by rw [hml]; rfl) [(.ref r0), (.int (0 : Int32)), (.int u1), (.int u2)] [] rfl (lenOf pd_1 rfl) rfl (by show 2 * 0 + _ ≤ _; exact Nat.le_of_eq rfl) (hb hby d9_4) ?_
  intro T126 L126 v126 X126 q126
  obtain ⟨rfl, N126, hh126⟩ := q126
  obtain ⟨lc126, X126h, N126h⟩ := own_hide X126 (Fr.app N0 N126)
  show G (T126.setTop (mkF m 7 #[.val (.ref r0), .val (.int u1), .val (.int u2)] [(.int (1 : Int32))]))
  refine go _ _ (fun t' k' => XS.ifNo X126h.here hx rfl (hb hby d9_7) rfl (Free.XT.i0_eq_f (by decide)) k') ?_
  show G (T126.setTop (mkF m 10 #[.val (.ref r0), .val (.int u1), .val (.int u2)] []))
  refine go _ _ (fun t' k' => XS.aloadN X126h.here hx rfl (hb hby d9_10) rfl rfl  k') ?_
  show G (T126.setTop (mkF m 11 #[.val (.ref r0), .val (.int u1), .val (.int u2)] [(.ref r0)]))
  refine go _ _ (fun t' k' => XS.iconst X126h.here hx rfl (hb hby d9_11) k') ?_
  show G (T126.setTop (mkF m 12 #[.val (.ref r0), .val (.int u1), .val (.int u2)] [(.int (1 : Int32)), (.ref r0)]))
  refine go _ _ (fun t' k' => XS.iloadN X126h.here hx rfl (hb hby d9_12) rfl  k') ?_
  show G (T126.setTop (mkF m 13 #[.val (.ref r0), .val (.int u1), .val (.int u2)] [(.int u1), (.int (1 : Int32)), (.ref r0)]))
  refine go _ _ (fun t' k' => XS.iloadN X126h.here hx rfl (hb hby d9_13) rfl  k') ?_
  show G (T126.setTop (mkF m 14 #[.val (.ref r0), .val (.int u1), .val (.int u2)] [(.int u2), (.int u1), (.int (1 : Int32)), (.ref r0)]))
  refine own_static go X126h hx hZ hh126 hown (hw _ (List.mem_of_getElem? (i := 54) rfl)) (hw _ (List.mem_of_getElem? (i := 55) rfl)) (hw _ (List.mem_of_getElem? (i := 3) rfl)) (hw _ (List.mem_of_getElem? (i := 56) rfl)) (by decide) (rm5 l Z a0 hw r0 (1 : Int32) u1 u2 g 1 h0 n0 Z0 A rfl (by decide) (hno (1 : Int32) 1 rfl (by decide))) 0 (by decide) (by decide) (by decide) (by decide) (g := (mkF m 14 #[.val (.ref r0), .val (.int u1), .val (.int u2)] [(.int u2), (.int u1), (.int (1 : Int32)), (.ref r0)])) rfl (by rw [hml]; rfl) [(.ref r0), (.int (1 : Int32)), (.int u1), (.int u2)] [] rfl (lenOf pd_1 rfl) rfl (by show 2 * 0 + _ ≤ _; exact Nat.le_of_eq rfl) (hb hby d9_14) ?_
  intro T127 L127 v127 X127 q127
  obtain ⟨rfl, N127, hh127⟩ := q127
  obtain ⟨lc127, X127h, N127h⟩ := own_hide X127 (Fr.app N126h N127)
  show G (T127.setTop (mkF m 17 #[.val (.ref r0), .val (.int u1), .val (.int u2)] [(.int (1 : Int32))]))
  refine go _ _ (fun t' k' => XS.ifNo X127h.here hx rfl (hb hby d9_17) rfl (Free.XT.i0_eq_f (by decide)) k') ?_
  show G (T127.setTop (mkF m 20 #[.val (.ref r0), .val (.int u1), .val (.int u2)] []))
  refine go _ _ (fun t' k' => XS.aloadN X127h.here hx rfl (hb hby d9_20) rfl rfl  k') ?_
  show G (T127.setTop (mkF m 21 #[.val (.ref r0), .val (.int u1), .val (.int u2)] [(.ref r0)]))
  refine go _ _ (fun t' k' => XS.iconst X127h.here hx rfl (hb hby d9_21) k') ?_
  show G (T127.setTop (mkF m 22 #[.val (.ref r0), .val (.int u1), .val (.int u2)] [(.int (2 : Int32)), (.ref r0)]))
  refine go _ _ (fun t' k' => XS.iloadN X127h.here hx rfl (hb hby d9_22) rfl  k') ?_
  show G (T127.setTop (mkF m 23 #[.val (.ref r0), .val (.int u1), .val (.int u2)] [(.int u1), (.int (2 : Int32)), (.ref r0)]))
  refine go _ _ (fun t' k' => XS.iloadN X127h.here hx rfl (hb hby d9_23) rfl  k') ?_
  show G (T127.setTop (mkF m 24 #[.val (.ref r0), .val (.int u1), .val (.int u2)] [(.int u2), (.int u1), (.int (2 : Int32)), (.ref r0)]))
  refine own_static go X127h hx hZ hh127 hown (hw _ (List.mem_of_getElem? (i := 54) rfl)) (hw _ (List.mem_of_getElem? (i := 55) rfl)) (hw _ (List.mem_of_getElem? (i := 3) rfl)) (hw _ (List.mem_of_getElem? (i := 56) rfl)) (by decide) (rm5 l Z a0 hw r0 (2 : Int32) u1 u2 g 2 h0 n0 Z0 A rfl (by decide) (hno (2 : Int32) 2 rfl (by decide))) 0 (by decide) (by decide) (by decide) (by decide) (g := (mkF m 24 #[.val (.ref r0), .val (.int u1), .val (.int u2)] [(.int u2), (.int u1), (.int (2 : Int32)), (.ref r0)])) rfl (by rw [hml]; rfl) [(.ref r0), (.int (2 : Int32)), (.int u1), (.int u2)] [] rfl (lenOf pd_1 rfl) rfl (by show 2 * 0 + _ ≤ _; exact Nat.le_of_eq rfl) (hb hby d9_24) ?_
  intro T128 L128 v128 X128 q128
  obtain ⟨rfl, N128, hh128⟩ := q128
  obtain ⟨lc128, X128h, N128h⟩ := own_hide X128 (Fr.app N127h N128)
  show G (T128.setTop (mkF m 27 #[.val (.ref r0), .val (.int u1), .val (.int u2)] [(.int (1 : Int32))]))
  refine go _ _ (fun t' k' => XS.ifNo X128h.here hx rfl (hb hby d9_27) rfl (Free.XT.i0_eq_f (by decide)) k') ?_
  show G (T128.setTop (mkF m 30 #[.val (.ref r0), .val (.int u1), .val (.int u2)] []))
  refine go _ _ (fun t' k' => XS.aloadN X128h.here hx rfl (hb hby d9_30) rfl rfl  k') ?_
  show G (T128.setTop (mkF m 31 #[.val (.ref r0), .val (.int u1), .val (.int u2)] [(.ref r0)]))
  refine go _ _ (fun t' k' => XS.iconst X128h.here hx rfl (hb hby d9_31) k') ?_
  show G (T128.setTop (mkF m 32 #[.val (.ref r0), .val (.int u1), .val (.int u2)] [(.int (3 : Int32)), (.ref r0)]))
  refine go _ _ (fun t' k' => XS.iloadN X128h.here hx rfl (hb hby d9_32) rfl  k') ?_
  show G (T128.setTop (mkF m 33 #[.val (.ref r0), .val (.int u1), .val (.int u2)] [(.int u1), (.int (3 : Int32)), (.ref r0)]))
  refine go _ _ (fun t' k' => XS.iloadN X128h.here hx rfl (hb hby d9_33) rfl  k') ?_
  show G (T128.setTop (mkF m 34 #[.val (.ref r0), .val (.int u1), .val (.int u2)] [(.int u2), (.int u1), (.int (3 : Int32)), (.ref r0)]))
  refine own_static go X128h hx hZ hh128 hown (hw _ (List.mem_of_getElem? (i := 54) rfl)) (hw _ (List.mem_of_getElem? (i := 55) rfl)) (hw _ (List.mem_of_getElem? (i := 3) rfl)) (hw _ (List.mem_of_getElem? (i := 56) rfl)) (by decide) (rm5 l Z a0 hw r0 (3 : Int32) u1 u2 g 3 h0 n0 Z0 A rfl (by decide) (hno (3 : Int32) 3 rfl (by decide))) 0 (by decide) (by decide) (by decide) (by decide) (g := (mkF m 34 #[.val (.ref r0), .val (.int u1), .val (.int u2)] [(.int u2), (.int u1), (.int (3 : Int32)), (.ref r0)])) rfl (by rw [hml]; rfl) [(.ref r0), (.int (3 : Int32)), (.int u1), (.int u2)] [] rfl (lenOf pd_1 rfl) rfl (by show 2 * 0 + _ ≤ _; exact Nat.le_of_eq rfl) (hb hby d9_34) ?_
  intro T129 L129 v129 X129 q129
  obtain ⟨rfl, N129, hh129⟩ := q129
  obtain ⟨lc129, X129h, N129h⟩ := own_hide X129 (Fr.app N128h N129)
  show G (T129.setTop (mkF m 37 #[.val (.ref r0), .val (.int u1), .val (.int u2)] [(.int (1 : Int32))]))
  refine go _ _ (fun t' k' => XS.ifNo X129h.here hx rfl (hb hby d9_37) rfl (Free.XT.i0_eq_f (by decide)) k') ?_
  show G (T129.setTop (mkF m 40 #[.val (.ref r0), .val (.int u1), .val (.int u2)] []))
  refine go _ _ (fun t' k' => XS.iconst X129h.here hx rfl (hb hby d9_40) k') ?_
  show G (T129.setTop (mkF m 41 #[.val (.ref r0), .val (.int u1), .val (.int u2)] [(.int (1 : Int32))]))
  refine go _ _ (fun t' k' => XS.goto X129h.here hx rfl (pc0 := 41) (pc' := 45) rfl (hb hby d9_41) (by decide) (by decide) k') ?_
  show G (T129.setTop (mkF m 45 #[.val (.ref r0), .val (.int u1), .val (.int u2)] [(.int (1 : Int32))]))
  refine own_retZ rt X129h hx (t := .boolean) hret (by simp) (hb hby d9_45) (by decide) (by decide) ?_
  exact ⟨rfl, N129h, hh129⟩
theorem pn_5 : plainName "com/example/caducee/caducee/ByteLines" = true := by first | (simp [plainName, overriddenIn]; done) | decide +kernel
theorem ef_rm7 (m : MethodId) (x0 : Addr) : entryFrame m #[(.ref x0)] 1 = mkF m 0 #[.val (.ref x0)] [] := by first | (simp [entryFrame, mkF, argsToLocals, Value.category]; done) | rfl
set_option maxRecDepth 65536 in
set_option maxHeartbeats 40000000 in
theorem rm7 (l : Launch) (Z : State) (a0 : Array Value) (hw : ∀ d ∈ tables_1, d.before a0 Z = true) (r0 r1 : Addr) (len nm st en nx : Int32) (g : Nat → Int32) (k1 ln : Nat) (h0 : Heap) (n0 : Nat) (Z0 : n0 ≤ h0.size) (g_r0 : n0 ≤ r0) (n10 : r1 ≠ r0) (Bl : BL Z h0 r0 r1 len nm st en nx) (A : Ary Z h0 r1 .byte 4 (fun i => .int (g i))) (hln : len.toInt = ln) (hl4 : ln ≤ 4) (hnx : nx.toInt = k1) (hkl : k1 ≤ ln) :
    Con l Z (⟨"com/example/caducee/caducee/ByteLines", "next", "()Z"⟩ : MethodName) prog_38_method_3_code 1 (some .boolean) ({ frames := 0, cells := 0, slots := 0, locals := 0 } : Room) #[(.ref r0)] h0 (fun v h L => Fr n0 L ∧ Keep h0 h [r0] ∧ ((k1 = ln ∧ v = some (.int 0) ∧ ∃ st2 en2, BL Z h r0 r1 len nm st2 en2 nx) ∨ (k1 < ln ∧ v = some (.int 1) ∧ ∃ en2 nx2, ∃ e2 : Nat, BL Z h r0 r1 len (nm + 1) nx en2 nx2 ∧ en2.toInt = e2 ∧ k1 ≤ e2 ∧ e2 ≤ ln ∧ (∀ i, k1 ≤ i → i < e2 → ¬ brk (g i)) ∧ (e2 = ln ∨ brk (g e2)) ∧ nx2.toInt = nxt g ln e2))) := by
  refine own_body pn_5 ?_
  intro p e s m below meth c s₁ hx hby hml hown hnm hret hZ e0 X0 G go rt
  have N0 := Fr.nil n0
  rw [ef_rm7 m r0]
  obtain ⟨B130E, B130b, B130L, B130m, B130s, B130e, B130n⟩ := Bl
  show G (s₁.setTop (mkF m 0 #[.val (.ref r0)] []))
  refine go _ _ (fun t' k' => XS.aloadN X0.here hx rfl (hb hby d5_0) rfl rfl  k') ?_
  show G (s₁.setTop (mkF m 1 #[.val (.ref r0)] [(.ref r0)]))
  obtain ⟨T131, X131, e131, st131⟩ := getF X0 hx hZ hown (host := "") (Or.inl (hw _ (List.mem_of_getElem? (i := 28) rfl))) Via.refl e0 B130n (g := (mkF m 1 #[.val (.ref r0)] [(.ref r0)])) rfl rfl (hb hby d5_1)
  refine go _ _ st131 ?_
  show G (T131.setTop (mkF m 4 #[.val (.ref r0)] [(.int nx)]))
  refine go _ _ (fun t' k' => XS.aloadN X131.here hx rfl (hb hby d5_4) rfl rfl  k') ?_
  show G (T131.setTop (mkF m 5 #[.val (.ref r0)] [(.ref r0), (.int nx)]))
  obtain ⟨T132, X132, e132, st132⟩ := getF X131 hx hZ hown (host := "") (Or.inl (hw _ (List.mem_of_getElem? (i := 17) rfl))) Via.refl e131 B130L (g := (mkF m 5 #[.val (.ref r0)] [(.ref r0), (.int nx)])) rfl rfl (hb hby d5_5)
  refine go _ _ st132 ?_
  show G (T132.setTop (mkF m 8 #[.val (.ref r0)] [(.int len), (.int nx)]))
  by_cases c133 : nx < len
  · refine go _ _ (fun t' k' => XS.icmpYes X132.here hx rfl (pc0 := 8) (pc' := 13) rfl (hb hby d5_8) rfl (Free.XT.ii_lt_t c133) (by decide) (by decide) k') ?_
    show G (T132.setTop (mkF m 13 #[.val (.ref r0)] []))
    refine go _ _ (fun t' k' => XS.aloadN X132.here hx rfl (hb hby d5_13) rfl rfl  k') ?_
    show G (T132.setTop (mkF m 14 #[.val (.ref r0)] [(.ref r0)]))
    refine go _ _ (fun t' k' => XS.dup X132.here hx rfl (hb hby d5_14) rfl rfl k') ?_
    show G (T132.setTop (mkF m 15 #[.val (.ref r0)] [(.ref r0), (.ref r0)]))
    obtain ⟨T134, X134, e134, st134⟩ := getF X132 hx hZ hown (host := "") (Or.inl (hw _ (List.mem_of_getElem? (i := 35) rfl))) Via.refl e132 B130m (g := (mkF m 15 #[.val (.ref r0)] [(.ref r0), (.ref r0)])) rfl rfl (hb hby d5_15)
    refine go _ _ st134 ?_
    show G (T134.setTop (mkF m 18 #[.val (.ref r0)] [(.int nm), (.ref r0)]))
    refine go _ _ (fun t' k' => XS.iconst X134.here hx rfl (hb hby d5_18) k') ?_
    show G (T134.setTop (mkF m 19 #[.val (.ref r0)] [(.int (1 : Int32)), (.int nm), (.ref r0)]))
    refine go _ _ (fun t' k' => XS.iadd X134.here hx rfl (hb hby d5_19) rfl k') ?_
    show G (T134.setTop (mkF m 20 #[.val (.ref r0)] [(.int (nm + (1 : Int32))), (.ref r0)]))
    obtain ⟨T135, h135, X135, e135, W135, st135⟩ := putF X134 hx hZ hown (host := "") (Or.inl (hw _ (List.mem_of_getElem? (i := 35) rfl))) Via.refl e134 B130m B130E (Or.inl (hw _ (List.mem_of_getElem? (i := 36) rfl))) (hw _ (List.mem_of_getElem? (i := 7) rfl)) (ty := .int) (by decide) rfl rfl (g := (mkF m 20 #[.val (.ref r0)] [(.int (nm + (1 : Int32))), (.ref r0)])) rfl rfl (hb hby d5_20)
    have F135 := B130m.same W135
    have K136 : Keep h0 h135 [r0] := (Keep.refl h0 [r0]).wr W135 (Or.inl (List.mem_of_getElem? (i := 0) rfl))
    obtain ⟨lc135, X135h, N135h⟩ := own_hide X135 (Fr.snoc X135 N0 g_r0)
    have Z137 : n0 ≤ h135.size := Nat.le_trans Z0 (Nat.le_of_eq W135.size.symm)
    refine go _ _ st135 ?_
    show G (T135.setTop (mkF m 23 #[.val (.ref r0)] []))
    refine go _ _ (fun t' k' => XS.aloadN X135h.here hx rfl (hb hby d5_23) rfl rfl  k') ?_
    show G (T135.setTop (mkF m 24 #[.val (.ref r0)] [(.ref r0)]))
    refine go _ _ (fun t' k' => XS.aloadN X135h.here hx rfl (hb hby d5_24) rfl rfl  k') ?_
    show G (T135.setTop (mkF m 25 #[.val (.ref r0)] [(.ref r0), (.ref r0)]))
    have f138 := (B130n.other W135 (Or.inr (slot_ne (Or.inl (hw _ (List.mem_of_getElem? (i := 29) rfl))) (Or.inl (hw _ (List.mem_of_getElem? (i := 36) rfl))) (by decide) (t := .int) (t' := .int) (by decide) (by decide))))
    obtain ⟨T139, X139, e139, st139⟩ := getF X135h hx hZ hown (host := "") (Or.inl (hw _ (List.mem_of_getElem? (i := 28) rfl))) Via.refl e135 f138 (g := (mkF m 25 #[.val (.ref r0)] [(.ref r0), (.ref r0)])) rfl rfl (hb hby d5_25)
    refine go _ _ st139 ?_
    show G (T139.setTop (mkF m 28 #[.val (.ref r0)] [(.int nx), (.ref r0)]))
    have f140 := (B130s.other W135 (Or.inr (slot_ne (Or.inl (hw _ (List.mem_of_getElem? (i := 38) rfl))) (Or.inl (hw _ (List.mem_of_getElem? (i := 36) rfl))) (by decide) (t := .int) (t' := .int) (by decide) (by decide))))
    have f141 := (B130E.wr W135)
    obtain ⟨T142, h142, X142, e142, W142, st142⟩ := putF X139 hx hZ hown (host := "") (Or.inl (hw _ (List.mem_of_getElem? (i := 37) rfl))) Via.refl e139 f140 f141 (Or.inl (hw _ (List.mem_of_getElem? (i := 38) rfl))) (hw _ (List.mem_of_getElem? (i := 7) rfl)) (ty := .int) (by decide) rfl rfl (g := (mkF m 28 #[.val (.ref r0)] [(.int nx), (.ref r0)])) rfl rfl (hb hby d5_28)
    have F142 := f140.same W142
    have K143 : Keep h0 h142 [r0] := K136.wr W142 (Or.inl (List.mem_of_getElem? (i := 0) rfl))
    obtain ⟨lc142, X142h, N142h⟩ := own_hide X142 (Fr.snoc X142 N135h g_r0)
    have Z144 : n0 ≤ h142.size := Nat.le_trans Z137 (Nat.le_of_eq W142.size.symm)
    refine go _ _ st142 ?_
    show G (T142.setTop (mkF m 31 #[.val (.ref r0)] []))
    refine go _ _ (fun t' k' => XS.aloadN X142h.here hx rfl (hb hby d5_31) rfl rfl  k') ?_
    show G (T142.setTop (mkF m 32 #[.val (.ref r0)] [(.ref r0)]))
    refine go _ _ (fun t' k' => XS.aloadN X142h.here hx rfl (hb hby d5_32) rfl rfl  k') ?_
    show G (T142.setTop (mkF m 33 #[.val (.ref r0)] [(.ref r0), (.ref r0)]))
    obtain ⟨T145, X145, e145, st145⟩ := getF X142h hx hZ hown (host := "") (Or.inl (hw _ (List.mem_of_getElem? (i := 37) rfl))) Via.refl e142 F142 (g := (mkF m 33 #[.val (.ref r0)] [(.ref r0), (.ref r0)])) rfl rfl (hb hby d5_33)
    refine go _ _ st145 ?_
    show G (T145.setTop (mkF m 36 #[.val (.ref r0)] [(.int nx), (.ref r0)]))
    have f146 := ((B130e.other W135 (Or.inr (slot_ne (Or.inl (hw _ (List.mem_of_getElem? (i := 40) rfl))) (Or.inl (hw _ (List.mem_of_getElem? (i := 36) rfl))) (by decide) (t := .int) (t' := .int) (by decide) (by decide)))).other W142 (Or.inr (slot_ne (Or.inl (hw _ (List.mem_of_getElem? (i := 40) rfl))) (Or.inl (hw _ (List.mem_of_getElem? (i := 38) rfl))) (by decide) (t := .int) (t' := .int) (by decide) (by decide))))
    have f147 := (f141.wr W142)
    obtain ⟨T148, h148, X148, e148, W148, st148⟩ := putF X145 hx hZ hown (host := "") (Or.inl (hw _ (List.mem_of_getElem? (i := 39) rfl))) Via.refl e145 f146 f147 (Or.inl (hw _ (List.mem_of_getElem? (i := 40) rfl))) (hw _ (List.mem_of_getElem? (i := 7) rfl)) (ty := .int) (by decide) rfl rfl (g := (mkF m 36 #[.val (.ref r0)] [(.int nx), (.ref r0)])) rfl rfl (hb hby d5_36)
    have F148 := f146.same W148
    have K149 : Keep h0 h148 [r0] := K143.wr W148 (Or.inl (List.mem_of_getElem? (i := 0) rfl))
    obtain ⟨lc148, X148h, N148h⟩ := own_hide X148 (Fr.snoc X148 N142h g_r0)
    have Z150 : n0 ≤ h148.size := Nat.le_trans Z144 (Nat.le_of_eq W148.size.symm)
    refine go _ _ st148 ?_
    show G (T148.setTop (mkF m 39 #[.val (.ref r0)] []))
    have hlt : k1 < ln := (own_lt hnx hln).mp c133
    have J91 : ∀ (T : State) (lc : List Loc) (h : Heap), Stand p l e ({ frames := 0, cells := 0, slots := 0, locals := 0 } : Room) s m #[(.ref r0)] below meth c T lc 0 0 → T.heap = h → Fr n0 lc → Keep h0 h [r0] → n0 ≤ h.size → ∀ (en1 : Int32) (j : Nat), (en1.toInt = j) → (k1 ≤ j) → (j ≤ ln) → (∀ i, k1 ≤ i → i < j → ¬ brk (g i)) → (j = ln ∨ brk (g j)) → Exa Z h r0 "com/example/caducee/caducee/ByteLines" → Fld Z h r0 "com/example/caducee/caducee/ByteLines" "bytes" "[B" (.ref r1) → Fld Z h r0 "com/example/caducee/caducee/ByteLines" "length" "I" (.int len) → Fld Z h r0 "com/example/caducee/caducee/ByteLines" "number" "I" (.int (nm + (1 : Int32))) → Fld Z h r0 "com/example/caducee/caducee/ByteLines" "start" "I" (.int nx) → Fld Z h r0 "com/example/caducee/caducee/ByteLines" "end" "I" (.int en1) → Fld Z h r0 "com/example/caducee/caducee/ByteLines" "next" "I" (.int nx) → G (T.setTop (mkF m 91 #[.val (.ref r0)] [])) := by
      intro T151 lc151 h151 X151 e151 N151 K151 Z151 en1 j hen hkj hjl hnb hbr f151_0 f151_1 f151_2 f151_3 f151_4 f151_5 f151_6
      have A152 := A.keep K151 (ninS n10 nin0)
      show G (T151.setTop (mkF m 91 #[.val (.ref r0)] []))
      refine go _ _ (fun t' k' => XS.aloadN X151.here hx rfl (hb hby d5_91) rfl rfl  k') ?_
      show G (T151.setTop (mkF m 92 #[.val (.ref r0)] [(.ref r0)]))
      refine go _ _ (fun t' k' => XS.aloadN X151.here hx rfl (hb hby d5_92) rfl rfl  k') ?_
      show G (T151.setTop (mkF m 93 #[.val (.ref r0)] [(.ref r0), (.ref r0)]))
      obtain ⟨T153, X153, e153, st153⟩ := getF X151 hx hZ hown (host := "") (Or.inl (hw _ (List.mem_of_getElem? (i := 39) rfl))) Via.refl e151 f151_5 (g := (mkF m 93 #[.val (.ref r0)] [(.ref r0), (.ref r0)])) rfl rfl (hb hby d5_93)
      refine go _ _ st153 ?_
      show G (T153.setTop (mkF m 96 #[.val (.ref r0)] [(.int en1), (.ref r0)]))
      obtain ⟨T154, h154, X154, e154, W154, st154⟩ := putF X153 hx hZ hown (host := "") (Or.inl (hw _ (List.mem_of_getElem? (i := 28) rfl))) Via.refl e153 f151_6 f151_0 (Or.inl (hw _ (List.mem_of_getElem? (i := 29) rfl))) (hw _ (List.mem_of_getElem? (i := 7) rfl)) (ty := .int) (by decide) rfl rfl (g := (mkF m 96 #[.val (.ref r0)] [(.int en1), (.ref r0)])) rfl rfl (hb hby d5_96)
      have F154 := f151_6.same W154
      have K155 : Keep h0 h154 [r0] := K151.wr W154 (Or.inl (List.mem_of_getElem? (i := 0) rfl))
      obtain ⟨lc154, X154h, N154h⟩ := own_hide X154 (Fr.snoc X154 N151 g_r0)
      have Z156 : n0 ≤ h154.size := Nat.le_trans Z151 (Nat.le_of_eq W154.size.symm)
      refine go _ _ st154 ?_
      show G (T154.setTop (mkF m 99 #[.val (.ref r0)] []))
      refine go _ _ (fun t' k' => XS.aloadN X154h.here hx rfl (hb hby d5_99) rfl rfl  k') ?_
      show G (T154.setTop (mkF m 100 #[.val (.ref r0)] [(.ref r0)]))
      obtain ⟨T157, X157, e157, st157⟩ := getF X154h hx hZ hown (host := "") (Or.inl (hw _ (List.mem_of_getElem? (i := 28) rfl))) Via.refl e154 F154 (g := (mkF m 100 #[.val (.ref r0)] [(.ref r0)])) rfl rfl (hb hby d5_100)
      refine go _ _ st157 ?_
      show G (T157.setTop (mkF m 103 #[.val (.ref r0)] [(.int en1)]))
      refine go _ _ (fun t' k' => XS.aloadN X157.here hx rfl (hb hby d5_103) rfl rfl  k') ?_
      show G (T157.setTop (mkF m 104 #[.val (.ref r0)] [(.ref r0), (.int en1)]))
      have f158 := (f151_2.other W154 (Or.inr (slot_ne (Or.inr (hw _ (List.mem_of_getElem? (i := 18) rfl))) (Or.inl (hw _ (List.mem_of_getElem? (i := 29) rfl))) (by decide) (t := .int) (t' := .int) (by decide) (by decide))))
      obtain ⟨T159, X159, e159, st159⟩ := getF X157 hx hZ hown (host := "") (Or.inl (hw _ (List.mem_of_getElem? (i := 17) rfl))) Via.refl e157 f158 (g := (mkF m 104 #[.val (.ref r0)] [(.ref r0), (.int en1)])) rfl rfl (hb hby d5_104)
      refine go _ _ st159 ?_
      show G (T159.setTop (mkF m 107 #[.val (.ref r0)] [(.int len), (.int en1)]))
      by_cases c160 : en1 < len
      · refine go _ _ (fun t' k' => XS.icmpNo X159.here hx rfl (hb hby d5_107) rfl (Free.XT.ii_ge_f c160) k') ?_
        show G (T159.setTop (mkF m 110 #[.val (.ref r0)] []))
        refine go _ _ (fun t' k' => XS.aloadN X159.here hx rfl (hb hby d5_110) rfl rfl  k') ?_
        show G (T159.setTop (mkF m 111 #[.val (.ref r0)] [(.ref r0)]))
        have f161 := (f151_1.other W154 (Or.inr (slot_ne (Or.inr (hw _ (List.mem_of_getElem? (i := 16) rfl))) (Or.inl (hw _ (List.mem_of_getElem? (i := 29) rfl))) (by decide) (t := (.array .byte)) (t' := .int) (by decide) (by decide))))
        obtain ⟨T162, X162, e162, st162⟩ := getF X159 hx hZ hown (host := "") (Or.inl (hw _ (List.mem_of_getElem? (i := 15) rfl))) Via.refl e159 f161 (g := (mkF m 111 #[.val (.ref r0)] [(.ref r0)])) rfl rfl (hb hby d5_111)
        refine go _ _ st162 ?_
        show G (T162.setTop (mkF m 114 #[.val (.ref r0)] [(.ref r1)]))
        refine go _ _ (fun t' k' => XS.aloadN X162.here hx rfl (hb hby d5_114) rfl rfl  k') ?_
        show G (T162.setTop (mkF m 115 #[.val (.ref r0)] [(.ref r0), (.ref r1)]))
        obtain ⟨T163, X163, e163, st163⟩ := getF X162 hx hZ hown (host := "") (Or.inl (hw _ (List.mem_of_getElem? (i := 28) rfl))) Via.refl e162 F154 (g := (mkF m 115 #[.val (.ref r0)] [(.ref r0), (.ref r1)])) rfl rfl (hb hby d5_115)
        refine go _ _ st163 ?_
        show G (T163.setTop (mkF m 118 #[.val (.ref r0)] [(.int en1), (.ref r1)]))
        have f164 := (A152.other W154 n10)
        refine own_baload go X163 hx hZ e163 j hen (by have := (own_lt hen hln).mp c160; omega) (g := (mkF m 118 #[.val (.ref r0)] [(.int en1), (.ref r1)])) rfl f164 rfl (hb hby d5_118) ?_
        show G (T163.setTop (mkF m 119 #[.val (.ref r0)] [(.int (g j))]))
        refine go _ _ (fun t' k' => XS.bipush X163.here hx rfl (hb hby d5_119) k') ?_
        show G (T163.setTop (mkF m 121 #[.val (.ref r0)] [(.int (13 : Int32)), (.int (g j))]))
        by_cases c165 : (g j) = (13 : Int32)
        · refine go _ _ (fun t' k' => XS.icmpNo X163.here hx rfl (hb hby d5_121) rfl (Free.XT.ii_ne_f c165) k') ?_
          show G (T163.setTop (mkF m 124 #[.val (.ref r0)] []))
          refine go _ _ (fun t' k' => XS.aloadN X163.here hx rfl (hb hby d5_124) rfl rfl  k') ?_
          show G (T163.setTop (mkF m 125 #[.val (.ref r0)] [(.ref r0)]))
          refine go _ _ (fun t' k' => XS.dup X163.here hx rfl (hb hby d5_125) rfl rfl k') ?_
          show G (T163.setTop (mkF m 126 #[.val (.ref r0)] [(.ref r0), (.ref r0)]))
          obtain ⟨T166, X166, e166, st166⟩ := getF X163 hx hZ hown (host := "") (Or.inl (hw _ (List.mem_of_getElem? (i := 28) rfl))) Via.refl e163 F154 (g := (mkF m 126 #[.val (.ref r0)] [(.ref r0), (.ref r0)])) rfl rfl (hb hby d5_126)
          refine go _ _ st166 ?_
          show G (T166.setTop (mkF m 129 #[.val (.ref r0)] [(.int en1), (.ref r0)]))
          refine go _ _ (fun t' k' => XS.iconst X166.here hx rfl (hb hby d5_129) k') ?_
          show G (T166.setTop (mkF m 130 #[.val (.ref r0)] [(.int (1 : Int32)), (.int en1), (.ref r0)]))
          refine go _ _ (fun t' k' => XS.iadd X166.here hx rfl (hb hby d5_130) rfl k') ?_
          show G (T166.setTop (mkF m 131 #[.val (.ref r0)] [(.int (en1 + (1 : Int32))), (.ref r0)]))
          have f167 := (f151_0.wr W154)
          obtain ⟨T168, h168, X168, e168, W168, st168⟩ := putF X166 hx hZ hown (host := "") (Or.inl (hw _ (List.mem_of_getElem? (i := 28) rfl))) Via.refl e166 F154 f167 (Or.inl (hw _ (List.mem_of_getElem? (i := 29) rfl))) (hw _ (List.mem_of_getElem? (i := 7) rfl)) (ty := .int) (by decide) rfl rfl (g := (mkF m 131 #[.val (.ref r0)] [(.int (en1 + (1 : Int32))), (.ref r0)])) rfl rfl (hb hby d5_131)
          have F168 := F154.same W168
          have K169 : Keep h0 h168 [r0] := K155.wr W168 (Or.inl (List.mem_of_getElem? (i := 0) rfl))
          obtain ⟨lc168, X168h, N168h⟩ := own_hide X168 (Fr.snoc X168 N154h g_r0)
          have Z170 : n0 ≤ h168.size := Nat.le_trans Z156 (Nat.le_of_eq W168.size.symm)
          refine go _ _ st168 ?_
          show G (T168.setTop (mkF m 134 #[.val (.ref r0)] []))
          refine go _ _ (fun t' k' => XS.aloadN X168h.here hx rfl (hb hby d5_134) rfl rfl  k') ?_
          show G (T168.setTop (mkF m 135 #[.val (.ref r0)] [(.ref r0)]))
          obtain ⟨T171, X171, e171, st171⟩ := getF X168h hx hZ hown (host := "") (Or.inl (hw _ (List.mem_of_getElem? (i := 28) rfl))) Via.refl e168 F168 (g := (mkF m 135 #[.val (.ref r0)] [(.ref r0)])) rfl rfl (hb hby d5_135)
          refine go _ _ st171 ?_
          show G (T171.setTop (mkF m 138 #[.val (.ref r0)] [(.int (en1 + (1 : Int32)))]))
          refine go _ _ (fun t' k' => XS.aloadN X171.here hx rfl (hb hby d5_138) rfl rfl  k') ?_
          show G (T171.setTop (mkF m 139 #[.val (.ref r0)] [(.ref r0), (.int (en1 + (1 : Int32)))]))
          have f172 := (f158.other W168 (Or.inr (slot_ne (Or.inr (hw _ (List.mem_of_getElem? (i := 18) rfl))) (Or.inl (hw _ (List.mem_of_getElem? (i := 29) rfl))) (by decide) (t := .int) (t' := .int) (by decide) (by decide))))
          obtain ⟨T173, X173, e173, st173⟩ := getF X171 hx hZ hown (host := "") (Or.inl (hw _ (List.mem_of_getElem? (i := 17) rfl))) Via.refl e171 f172 (g := (mkF m 139 #[.val (.ref r0)] [(.ref r0), (.int (en1 + (1 : Int32)))])) rfl rfl (hb hby d5_139)
          refine go _ _ st173 ?_
          show G (T173.setTop (mkF m 142 #[.val (.ref r0)] [(.int len), (.int (en1 + (1 : Int32)))]))
          by_cases c174 : (en1 + (1 : Int32)) < len
          · refine go _ _ (fun t' k' => XS.icmpNo X173.here hx rfl (hb hby d5_142) rfl (Free.XT.ii_ge_f c174) k') ?_
            show G (T173.setTop (mkF m 145 #[.val (.ref r0)] []))
            refine go _ _ (fun t' k' => XS.aloadN X173.here hx rfl (hb hby d5_145) rfl rfl  k') ?_
            show G (T173.setTop (mkF m 146 #[.val (.ref r0)] [(.ref r0)]))
            have f175 := (f161.other W168 (Or.inr (slot_ne (Or.inr (hw _ (List.mem_of_getElem? (i := 16) rfl))) (Or.inl (hw _ (List.mem_of_getElem? (i := 29) rfl))) (by decide) (t := (.array .byte)) (t' := .int) (by decide) (by decide))))
            obtain ⟨T176, X176, e176, st176⟩ := getF X173 hx hZ hown (host := "") (Or.inl (hw _ (List.mem_of_getElem? (i := 15) rfl))) Via.refl e173 f175 (g := (mkF m 146 #[.val (.ref r0)] [(.ref r0)])) rfl rfl (hb hby d5_146)
            refine go _ _ st176 ?_
            show G (T176.setTop (mkF m 149 #[.val (.ref r0)] [(.ref r1)]))
            refine go _ _ (fun t' k' => XS.aloadN X176.here hx rfl (hb hby d5_149) rfl rfl  k') ?_
            show G (T176.setTop (mkF m 150 #[.val (.ref r0)] [(.ref r0), (.ref r1)]))
            obtain ⟨T177, X177, e177, st177⟩ := getF X176 hx hZ hown (host := "") (Or.inl (hw _ (List.mem_of_getElem? (i := 28) rfl))) Via.refl e176 F168 (g := (mkF m 150 #[.val (.ref r0)] [(.ref r0), (.ref r1)])) rfl rfl (hb hby d5_150)
            refine go _ _ st177 ?_
            show G (T177.setTop (mkF m 153 #[.val (.ref r0)] [(.int (en1 + (1 : Int32))), (.ref r1)]))
            have f178 := (f164.other W168 n10)
            refine own_baload go X177 hx hZ e177 (j + 1) (own_inc hen (by omega)) (by have := (own_lt (own_inc hen (by omega)) hln).mp c174; omega) (g := (mkF m 153 #[.val (.ref r0)] [(.int (en1 + (1 : Int32))), (.ref r1)])) rfl f178 rfl (hb hby d5_153) ?_
            show G (T177.setTop (mkF m 154 #[.val (.ref r0)] [(.int (g (j + 1)))]))
            refine go _ _ (fun t' k' => XS.bipush X177.here hx rfl (hb hby d5_154) k') ?_
            show G (T177.setTop (mkF m 156 #[.val (.ref r0)] [(.int (10 : Int32)), (.int (g (j + 1)))]))
            by_cases c179 : (g (j + 1)) = (10 : Int32)
            · refine go _ _ (fun t' k' => XS.icmpNo X177.here hx rfl (hb hby d5_156) rfl (Free.XT.ii_ne_f c179) k') ?_
              show G (T177.setTop (mkF m 159 #[.val (.ref r0)] []))
              refine go _ _ (fun t' k' => XS.aloadN X177.here hx rfl (hb hby d5_159) rfl rfl  k') ?_
              show G (T177.setTop (mkF m 160 #[.val (.ref r0)] [(.ref r0)]))
              refine go _ _ (fun t' k' => XS.dup X177.here hx rfl (hb hby d5_160) rfl rfl k') ?_
              show G (T177.setTop (mkF m 161 #[.val (.ref r0)] [(.ref r0), (.ref r0)]))
              obtain ⟨T180, X180, e180, st180⟩ := getF X177 hx hZ hown (host := "") (Or.inl (hw _ (List.mem_of_getElem? (i := 28) rfl))) Via.refl e177 F168 (g := (mkF m 161 #[.val (.ref r0)] [(.ref r0), (.ref r0)])) rfl rfl (hb hby d5_161)
              refine go _ _ st180 ?_
              show G (T180.setTop (mkF m 164 #[.val (.ref r0)] [(.int (en1 + (1 : Int32))), (.ref r0)]))
              refine go _ _ (fun t' k' => XS.iconst X180.here hx rfl (hb hby d5_164) k') ?_
              show G (T180.setTop (mkF m 165 #[.val (.ref r0)] [(.int (1 : Int32)), (.int (en1 + (1 : Int32))), (.ref r0)]))
              refine go _ _ (fun t' k' => XS.iadd X180.here hx rfl (hb hby d5_165) rfl k') ?_
              show G (T180.setTop (mkF m 166 #[.val (.ref r0)] [(.int ((en1 + (1 : Int32)) + (1 : Int32))), (.ref r0)]))
              have f181 := (f167.wr W168)
              obtain ⟨T182, h182, X182, e182, W182, st182⟩ := putF X180 hx hZ hown (host := "") (Or.inl (hw _ (List.mem_of_getElem? (i := 28) rfl))) Via.refl e180 F168 f181 (Or.inl (hw _ (List.mem_of_getElem? (i := 29) rfl))) (hw _ (List.mem_of_getElem? (i := 7) rfl)) (ty := .int) (by decide) rfl rfl (g := (mkF m 166 #[.val (.ref r0)] [(.int ((en1 + (1 : Int32)) + (1 : Int32))), (.ref r0)])) rfl rfl (hb hby d5_166)
              have F182 := F168.same W182
              have K183 : Keep h0 h182 [r0] := K169.wr W182 (Or.inl (List.mem_of_getElem? (i := 0) rfl))
              obtain ⟨lc182, X182h, N182h⟩ := own_hide X182 (Fr.snoc X182 N168h g_r0)
              have Z184 : n0 ≤ h182.size := Nat.le_trans Z170 (Nat.le_of_eq W182.size.symm)
              refine go _ _ st182 ?_
              show G (T182.setTop (mkF m 169 #[.val (.ref r0)] []))
              refine go _ _ (fun t' k' => XS.iconst X182h.here hx rfl (hb hby d5_169) k') ?_
              show G (T182.setTop (mkF m 170 #[.val (.ref r0)] [(.int (1 : Int32))]))
              refine own_retZ rt X182h hx (t := .boolean) hret (by simp) (hb hby d5_170) (by decide) (by decide) ?_
              have f185 := (f181.wr W182)
              have f186 := (f175.other W182 (Or.inr (slot_ne (Or.inr (hw _ (List.mem_of_getElem? (i := 16) rfl))) (Or.inl (hw _ (List.mem_of_getElem? (i := 29) rfl))) (by decide) (t := (.array .byte)) (t' := .int) (by decide) (by decide))))
              have f187 := (f172.other W182 (Or.inr (slot_ne (Or.inr (hw _ (List.mem_of_getElem? (i := 18) rfl))) (Or.inl (hw _ (List.mem_of_getElem? (i := 29) rfl))) (by decide) (t := .int) (t' := .int) (by decide) (by decide))))
              have f188 := (((f151_3.other W154 (Or.inr (slot_ne (Or.inl (hw _ (List.mem_of_getElem? (i := 36) rfl))) (Or.inl (hw _ (List.mem_of_getElem? (i := 29) rfl))) (by decide) (t := .int) (t' := .int) (by decide) (by decide)))).other W168 (Or.inr (slot_ne (Or.inl (hw _ (List.mem_of_getElem? (i := 36) rfl))) (Or.inl (hw _ (List.mem_of_getElem? (i := 29) rfl))) (by decide) (t := .int) (t' := .int) (by decide) (by decide)))).other W182 (Or.inr (slot_ne (Or.inl (hw _ (List.mem_of_getElem? (i := 36) rfl))) (Or.inl (hw _ (List.mem_of_getElem? (i := 29) rfl))) (by decide) (t := .int) (t' := .int) (by decide) (by decide))))
              have f189 := (((f151_4.other W154 (Or.inr (slot_ne (Or.inl (hw _ (List.mem_of_getElem? (i := 38) rfl))) (Or.inl (hw _ (List.mem_of_getElem? (i := 29) rfl))) (by decide) (t := .int) (t' := .int) (by decide) (by decide)))).other W168 (Or.inr (slot_ne (Or.inl (hw _ (List.mem_of_getElem? (i := 38) rfl))) (Or.inl (hw _ (List.mem_of_getElem? (i := 29) rfl))) (by decide) (t := .int) (t' := .int) (by decide) (by decide)))).other W182 (Or.inr (slot_ne (Or.inl (hw _ (List.mem_of_getElem? (i := 38) rfl))) (Or.inl (hw _ (List.mem_of_getElem? (i := 29) rfl))) (by decide) (t := .int) (t' := .int) (by decide) (by decide))))
              have f190 := (((f151_5.other W154 (Or.inr (slot_ne (Or.inl (hw _ (List.mem_of_getElem? (i := 40) rfl))) (Or.inl (hw _ (List.mem_of_getElem? (i := 29) rfl))) (by decide) (t := .int) (t' := .int) (by decide) (by decide)))).other W168 (Or.inr (slot_ne (Or.inl (hw _ (List.mem_of_getElem? (i := 40) rfl))) (Or.inl (hw _ (List.mem_of_getElem? (i := 29) rfl))) (by decide) (t := .int) (t' := .int) (by decide) (by decide)))).other W182 (Or.inr (slot_ne (Or.inl (hw _ (List.mem_of_getElem? (i := 40) rfl))) (Or.inl (hw _ (List.mem_of_getElem? (i := 29) rfl))) (by decide) (t := .int) (t' := .int) (by decide) (by decide))))
              rw [e182]
              refine ⟨N182h, K183, Or.inr ⟨hlt, rfl, _, _, j, ⟨f185, f186, f187, f188, f189, f190, F182⟩, hen, hkj, hjl, hnb, hbr, ?_⟩⟩
              have wc160 := (own_lt hen hln).mp c160
              have wc174 := (own_lt (own_inc hen (by omega)) hln).mp c174
              rw [nxC (by omega) (fun z => absurd (z.symm.trans c165) (by decide)) (by omega) c179]; exact own_inc (own_inc hen (by omega)) (by omega)
            · refine go _ _ (fun t' k' => XS.icmpYes X177.here hx rfl (pc0 := 156) (pc' := 169) rfl (hb hby d5_156) rfl (Free.XT.ii_ne_t c179) (by decide) (by decide) k') ?_
              show G (T177.setTop (mkF m 169 #[.val (.ref r0)] []))
              refine go _ _ (fun t' k' => XS.iconst X177.here hx rfl (hb hby d5_169) k') ?_
              show G (T177.setTop (mkF m 170 #[.val (.ref r0)] [(.int (1 : Int32))]))
              refine own_retZ rt X177 hx (t := .boolean) hret (by simp) (hb hby d5_170) (by decide) (by decide) ?_
              have f191 := (f167.wr W168)
              have f192 := ((f151_3.other W154 (Or.inr (slot_ne (Or.inl (hw _ (List.mem_of_getElem? (i := 36) rfl))) (Or.inl (hw _ (List.mem_of_getElem? (i := 29) rfl))) (by decide) (t := .int) (t' := .int) (by decide) (by decide)))).other W168 (Or.inr (slot_ne (Or.inl (hw _ (List.mem_of_getElem? (i := 36) rfl))) (Or.inl (hw _ (List.mem_of_getElem? (i := 29) rfl))) (by decide) (t := .int) (t' := .int) (by decide) (by decide))))
              have f193 := ((f151_4.other W154 (Or.inr (slot_ne (Or.inl (hw _ (List.mem_of_getElem? (i := 38) rfl))) (Or.inl (hw _ (List.mem_of_getElem? (i := 29) rfl))) (by decide) (t := .int) (t' := .int) (by decide) (by decide)))).other W168 (Or.inr (slot_ne (Or.inl (hw _ (List.mem_of_getElem? (i := 38) rfl))) (Or.inl (hw _ (List.mem_of_getElem? (i := 29) rfl))) (by decide) (t := .int) (t' := .int) (by decide) (by decide))))
              have f194 := ((f151_5.other W154 (Or.inr (slot_ne (Or.inl (hw _ (List.mem_of_getElem? (i := 40) rfl))) (Or.inl (hw _ (List.mem_of_getElem? (i := 29) rfl))) (by decide) (t := .int) (t' := .int) (by decide) (by decide)))).other W168 (Or.inr (slot_ne (Or.inl (hw _ (List.mem_of_getElem? (i := 40) rfl))) (Or.inl (hw _ (List.mem_of_getElem? (i := 29) rfl))) (by decide) (t := .int) (t' := .int) (by decide) (by decide))))
              rw [e177]
              refine ⟨N168h, K169, Or.inr ⟨hlt, rfl, _, _, j, ⟨f191, f175, f172, f192, f193, f194, F168⟩, hen, hkj, hjl, hnb, hbr, ?_⟩⟩
              have wc160 := (own_lt hen hln).mp c160
              have wc174 := (own_lt (own_inc hen (by omega)) hln).mp c174
              rw [nxD (by omega) (fun z => absurd (z.symm.trans c165) (by decide)) (fun z => c179 z.2)]; exact own_inc hen (by omega)
          · refine go _ _ (fun t' k' => XS.icmpYes X173.here hx rfl (pc0 := 142) (pc' := 169) rfl (hb hby d5_142) rfl (Free.XT.ii_ge_t c174) (by decide) (by decide) k') ?_
            show G (T173.setTop (mkF m 169 #[.val (.ref r0)] []))
            refine go _ _ (fun t' k' => XS.iconst X173.here hx rfl (hb hby d5_169) k') ?_
            show G (T173.setTop (mkF m 170 #[.val (.ref r0)] [(.int (1 : Int32))]))
            refine own_retZ rt X173 hx (t := .boolean) hret (by simp) (hb hby d5_170) (by decide) (by decide) ?_
            have f195 := (f167.wr W168)
            have f196 := (f161.other W168 (Or.inr (slot_ne (Or.inr (hw _ (List.mem_of_getElem? (i := 16) rfl))) (Or.inl (hw _ (List.mem_of_getElem? (i := 29) rfl))) (by decide) (t := (.array .byte)) (t' := .int) (by decide) (by decide))))
            have f197 := ((f151_3.other W154 (Or.inr (slot_ne (Or.inl (hw _ (List.mem_of_getElem? (i := 36) rfl))) (Or.inl (hw _ (List.mem_of_getElem? (i := 29) rfl))) (by decide) (t := .int) (t' := .int) (by decide) (by decide)))).other W168 (Or.inr (slot_ne (Or.inl (hw _ (List.mem_of_getElem? (i := 36) rfl))) (Or.inl (hw _ (List.mem_of_getElem? (i := 29) rfl))) (by decide) (t := .int) (t' := .int) (by decide) (by decide))))
            have f198 := ((f151_4.other W154 (Or.inr (slot_ne (Or.inl (hw _ (List.mem_of_getElem? (i := 38) rfl))) (Or.inl (hw _ (List.mem_of_getElem? (i := 29) rfl))) (by decide) (t := .int) (t' := .int) (by decide) (by decide)))).other W168 (Or.inr (slot_ne (Or.inl (hw _ (List.mem_of_getElem? (i := 38) rfl))) (Or.inl (hw _ (List.mem_of_getElem? (i := 29) rfl))) (by decide) (t := .int) (t' := .int) (by decide) (by decide))))
            have f199 := ((f151_5.other W154 (Or.inr (slot_ne (Or.inl (hw _ (List.mem_of_getElem? (i := 40) rfl))) (Or.inl (hw _ (List.mem_of_getElem? (i := 29) rfl))) (by decide) (t := .int) (t' := .int) (by decide) (by decide)))).other W168 (Or.inr (slot_ne (Or.inl (hw _ (List.mem_of_getElem? (i := 40) rfl))) (Or.inl (hw _ (List.mem_of_getElem? (i := 29) rfl))) (by decide) (t := .int) (t' := .int) (by decide) (by decide))))
            rw [e173]
            refine ⟨N168h, K169, Or.inr ⟨hlt, rfl, _, _, j, ⟨f195, f196, f172, f197, f198, f199, F168⟩, hen, hkj, hjl, hnb, hbr, ?_⟩⟩
            have wc160 := (own_lt hen hln).mp c160
            have wc174 := (not_congr (own_lt (own_inc hen (by omega)) hln)).mp c174
            rw [nxD (by omega) (fun z => absurd (z.symm.trans c165) (by decide)) (fun z => by omega)]; exact own_inc hen (by omega)
        · refine go _ _ (fun t' k' => XS.icmpYes X163.here hx rfl (pc0 := 121) (pc' := 134) rfl (hb hby d5_121) rfl (Free.XT.ii_ne_t c165) (by decide) (by decide) k') ?_
          show G (T163.setTop (mkF m 134 #[.val (.ref r0)] []))
          refine go _ _ (fun t' k' => XS.aloadN X163.here hx rfl (hb hby d5_134) rfl rfl  k') ?_
          show G (T163.setTop (mkF m 135 #[.val (.ref r0)] [(.ref r0)]))
          obtain ⟨T200, X200, e200, st200⟩ := getF X163 hx hZ hown (host := "") (Or.inl (hw _ (List.mem_of_getElem? (i := 28) rfl))) Via.refl e163 F154 (g := (mkF m 135 #[.val (.ref r0)] [(.ref r0)])) rfl rfl (hb hby d5_135)
          refine go _ _ st200 ?_
          show G (T200.setTop (mkF m 138 #[.val (.ref r0)] [(.int en1)]))
          refine go _ _ (fun t' k' => XS.aloadN X200.here hx rfl (hb hby d5_138) rfl rfl  k') ?_
          show G (T200.setTop (mkF m 139 #[.val (.ref r0)] [(.ref r0), (.int en1)]))
          obtain ⟨T201, X201, e201, st201⟩ := getF X200 hx hZ hown (host := "") (Or.inl (hw _ (List.mem_of_getElem? (i := 17) rfl))) Via.refl e200 f158 (g := (mkF m 139 #[.val (.ref r0)] [(.ref r0), (.int en1)])) rfl rfl (hb hby d5_139)
          refine go _ _ st201 ?_
          show G (T201.setTop (mkF m 142 #[.val (.ref r0)] [(.int len), (.int en1)]))
          refine go _ _ (fun t' k' => XS.icmpNo X201.here hx rfl (hb hby d5_142) rfl (Free.XT.ii_ge_f c160) k') ?_
          show G (T201.setTop (mkF m 145 #[.val (.ref r0)] []))
          refine go _ _ (fun t' k' => XS.aloadN X201.here hx rfl (hb hby d5_145) rfl rfl  k') ?_
          show G (T201.setTop (mkF m 146 #[.val (.ref r0)] [(.ref r0)]))
          obtain ⟨T202, X202, e202, st202⟩ := getF X201 hx hZ hown (host := "") (Or.inl (hw _ (List.mem_of_getElem? (i := 15) rfl))) Via.refl e201 f161 (g := (mkF m 146 #[.val (.ref r0)] [(.ref r0)])) rfl rfl (hb hby d5_146)
          refine go _ _ st202 ?_
          show G (T202.setTop (mkF m 149 #[.val (.ref r0)] [(.ref r1)]))
          refine go _ _ (fun t' k' => XS.aloadN X202.here hx rfl (hb hby d5_149) rfl rfl  k') ?_
          show G (T202.setTop (mkF m 150 #[.val (.ref r0)] [(.ref r0), (.ref r1)]))
          obtain ⟨T203, X203, e203, st203⟩ := getF X202 hx hZ hown (host := "") (Or.inl (hw _ (List.mem_of_getElem? (i := 28) rfl))) Via.refl e202 F154 (g := (mkF m 150 #[.val (.ref r0)] [(.ref r0), (.ref r1)])) rfl rfl (hb hby d5_150)
          refine go _ _ st203 ?_
          show G (T203.setTop (mkF m 153 #[.val (.ref r0)] [(.int en1), (.ref r1)]))
          refine own_baload go X203 hx hZ e203 j hen (by have := (own_lt hen hln).mp c160; omega) (g := (mkF m 153 #[.val (.ref r0)] [(.int en1), (.ref r1)])) rfl f164 rfl (hb hby d5_153) ?_
          show G (T203.setTop (mkF m 154 #[.val (.ref r0)] [(.int (g j))]))
          refine go _ _ (fun t' k' => XS.bipush X203.here hx rfl (hb hby d5_154) k') ?_
          show G (T203.setTop (mkF m 156 #[.val (.ref r0)] [(.int (10 : Int32)), (.int (g j))]))
          by_cases c204 : (g j) = (10 : Int32)
          · refine go _ _ (fun t' k' => XS.icmpNo X203.here hx rfl (hb hby d5_156) rfl (Free.XT.ii_ne_f c204) k') ?_
            show G (T203.setTop (mkF m 159 #[.val (.ref r0)] []))
            refine go _ _ (fun t' k' => XS.aloadN X203.here hx rfl (hb hby d5_159) rfl rfl  k') ?_
            show G (T203.setTop (mkF m 160 #[.val (.ref r0)] [(.ref r0)]))
            refine go _ _ (fun t' k' => XS.dup X203.here hx rfl (hb hby d5_160) rfl rfl k') ?_
            show G (T203.setTop (mkF m 161 #[.val (.ref r0)] [(.ref r0), (.ref r0)]))
            obtain ⟨T205, X205, e205, st205⟩ := getF X203 hx hZ hown (host := "") (Or.inl (hw _ (List.mem_of_getElem? (i := 28) rfl))) Via.refl e203 F154 (g := (mkF m 161 #[.val (.ref r0)] [(.ref r0), (.ref r0)])) rfl rfl (hb hby d5_161)
            refine go _ _ st205 ?_
            show G (T205.setTop (mkF m 164 #[.val (.ref r0)] [(.int en1), (.ref r0)]))
            refine go _ _ (fun t' k' => XS.iconst X205.here hx rfl (hb hby d5_164) k') ?_
            show G (T205.setTop (mkF m 165 #[.val (.ref r0)] [(.int (1 : Int32)), (.int en1), (.ref r0)]))
            refine go _ _ (fun t' k' => XS.iadd X205.here hx rfl (hb hby d5_165) rfl k') ?_
            show G (T205.setTop (mkF m 166 #[.val (.ref r0)] [(.int (en1 + (1 : Int32))), (.ref r0)]))
            have f206 := (f151_0.wr W154)
            obtain ⟨T207, h207, X207, e207, W207, st207⟩ := putF X205 hx hZ hown (host := "") (Or.inl (hw _ (List.mem_of_getElem? (i := 28) rfl))) Via.refl e205 F154 f206 (Or.inl (hw _ (List.mem_of_getElem? (i := 29) rfl))) (hw _ (List.mem_of_getElem? (i := 7) rfl)) (ty := .int) (by decide) rfl rfl (g := (mkF m 166 #[.val (.ref r0)] [(.int (en1 + (1 : Int32))), (.ref r0)])) rfl rfl (hb hby d5_166)
            have F207 := F154.same W207
            have K208 : Keep h0 h207 [r0] := K155.wr W207 (Or.inl (List.mem_of_getElem? (i := 0) rfl))
            obtain ⟨lc207, X207h, N207h⟩ := own_hide X207 (Fr.snoc X207 N154h g_r0)
            have Z209 : n0 ≤ h207.size := Nat.le_trans Z156 (Nat.le_of_eq W207.size.symm)
            refine go _ _ st207 ?_
            show G (T207.setTop (mkF m 169 #[.val (.ref r0)] []))
            refine go _ _ (fun t' k' => XS.iconst X207h.here hx rfl (hb hby d5_169) k') ?_
            show G (T207.setTop (mkF m 170 #[.val (.ref r0)] [(.int (1 : Int32))]))
            refine own_retZ rt X207h hx (t := .boolean) hret (by simp) (hb hby d5_170) (by decide) (by decide) ?_
            have f210 := (f206.wr W207)
            have f211 := (f161.other W207 (Or.inr (slot_ne (Or.inr (hw _ (List.mem_of_getElem? (i := 16) rfl))) (Or.inl (hw _ (List.mem_of_getElem? (i := 29) rfl))) (by decide) (t := (.array .byte)) (t' := .int) (by decide) (by decide))))
            have f212 := (f158.other W207 (Or.inr (slot_ne (Or.inr (hw _ (List.mem_of_getElem? (i := 18) rfl))) (Or.inl (hw _ (List.mem_of_getElem? (i := 29) rfl))) (by decide) (t := .int) (t' := .int) (by decide) (by decide))))
            have f213 := ((f151_3.other W154 (Or.inr (slot_ne (Or.inl (hw _ (List.mem_of_getElem? (i := 36) rfl))) (Or.inl (hw _ (List.mem_of_getElem? (i := 29) rfl))) (by decide) (t := .int) (t' := .int) (by decide) (by decide)))).other W207 (Or.inr (slot_ne (Or.inl (hw _ (List.mem_of_getElem? (i := 36) rfl))) (Or.inl (hw _ (List.mem_of_getElem? (i := 29) rfl))) (by decide) (t := .int) (t' := .int) (by decide) (by decide))))
            have f214 := ((f151_4.other W154 (Or.inr (slot_ne (Or.inl (hw _ (List.mem_of_getElem? (i := 38) rfl))) (Or.inl (hw _ (List.mem_of_getElem? (i := 29) rfl))) (by decide) (t := .int) (t' := .int) (by decide) (by decide)))).other W207 (Or.inr (slot_ne (Or.inl (hw _ (List.mem_of_getElem? (i := 38) rfl))) (Or.inl (hw _ (List.mem_of_getElem? (i := 29) rfl))) (by decide) (t := .int) (t' := .int) (by decide) (by decide))))
            have f215 := ((f151_5.other W154 (Or.inr (slot_ne (Or.inl (hw _ (List.mem_of_getElem? (i := 40) rfl))) (Or.inl (hw _ (List.mem_of_getElem? (i := 29) rfl))) (by decide) (t := .int) (t' := .int) (by decide) (by decide)))).other W207 (Or.inr (slot_ne (Or.inl (hw _ (List.mem_of_getElem? (i := 40) rfl))) (Or.inl (hw _ (List.mem_of_getElem? (i := 29) rfl))) (by decide) (t := .int) (t' := .int) (by decide) (by decide))))
            rw [e207]
            refine ⟨N207h, K208, Or.inr ⟨hlt, rfl, _, _, j, ⟨f210, f211, f212, f213, f214, f215, F207⟩, hen, hkj, hjl, hnb, hbr, ?_⟩⟩
            have wc160 := (own_lt hen hln).mp c160
            rw [nxB (by omega) c204]; exact own_inc hen (by omega)
          · refine go _ _ (fun t' k' => XS.icmpYes X203.here hx rfl (pc0 := 156) (pc' := 169) rfl (hb hby d5_156) rfl (Free.XT.ii_ne_t c204) (by decide) (by decide) k') ?_
            show G (T203.setTop (mkF m 169 #[.val (.ref r0)] []))
            refine go _ _ (fun t' k' => XS.iconst X203.here hx rfl (hb hby d5_169) k') ?_
            show G (T203.setTop (mkF m 170 #[.val (.ref r0)] [(.int (1 : Int32))]))
            refine own_retZ rt X203 hx (t := .boolean) hret (by simp) (hb hby d5_170) (by decide) (by decide) ?_
            have f216 := (f151_0.wr W154)
            have f217 := (f151_3.other W154 (Or.inr (slot_ne (Or.inl (hw _ (List.mem_of_getElem? (i := 36) rfl))) (Or.inl (hw _ (List.mem_of_getElem? (i := 29) rfl))) (by decide) (t := .int) (t' := .int) (by decide) (by decide))))
            have f218 := (f151_4.other W154 (Or.inr (slot_ne (Or.inl (hw _ (List.mem_of_getElem? (i := 38) rfl))) (Or.inl (hw _ (List.mem_of_getElem? (i := 29) rfl))) (by decide) (t := .int) (t' := .int) (by decide) (by decide))))
            have f219 := (f151_5.other W154 (Or.inr (slot_ne (Or.inl (hw _ (List.mem_of_getElem? (i := 40) rfl))) (Or.inl (hw _ (List.mem_of_getElem? (i := 29) rfl))) (by decide) (t := .int) (t' := .int) (by decide) (by decide))))
            rw [e203]
            refine ⟨N154h, K155, Or.inr ⟨hlt, rfl, _, _, j, ⟨f216, f161, f158, f217, f218, f219, F154⟩, hen, hkj, hjl, hnb, hbr, ?_⟩⟩
            have wc160 := (own_lt hen hln).mp c160
            exact absurd (hbr.resolve_left (by omega)) (fun z => z.elim c204 c165)
      · refine go _ _ (fun t' k' => XS.icmpYes X159.here hx rfl (pc0 := 107) (pc' := 134) rfl (hb hby d5_107) rfl (Free.XT.ii_ge_t c160) (by decide) (by decide) k') ?_
        show G (T159.setTop (mkF m 134 #[.val (.ref r0)] []))
        refine go _ _ (fun t' k' => XS.aloadN X159.here hx rfl (hb hby d5_134) rfl rfl  k') ?_
        show G (T159.setTop (mkF m 135 #[.val (.ref r0)] [(.ref r0)]))
        obtain ⟨T220, X220, e220, st220⟩ := getF X159 hx hZ hown (host := "") (Or.inl (hw _ (List.mem_of_getElem? (i := 28) rfl))) Via.refl e159 F154 (g := (mkF m 135 #[.val (.ref r0)] [(.ref r0)])) rfl rfl (hb hby d5_135)
        refine go _ _ st220 ?_
        show G (T220.setTop (mkF m 138 #[.val (.ref r0)] [(.int en1)]))
        refine go _ _ (fun t' k' => XS.aloadN X220.here hx rfl (hb hby d5_138) rfl rfl  k') ?_
        show G (T220.setTop (mkF m 139 #[.val (.ref r0)] [(.ref r0), (.int en1)]))
        obtain ⟨T221, X221, e221, st221⟩ := getF X220 hx hZ hown (host := "") (Or.inl (hw _ (List.mem_of_getElem? (i := 17) rfl))) Via.refl e220 f158 (g := (mkF m 139 #[.val (.ref r0)] [(.ref r0), (.int en1)])) rfl rfl (hb hby d5_139)
        refine go _ _ st221 ?_
        show G (T221.setTop (mkF m 142 #[.val (.ref r0)] [(.int len), (.int en1)]))
        refine go _ _ (fun t' k' => XS.icmpYes X221.here hx rfl (pc0 := 142) (pc' := 169) rfl (hb hby d5_142) rfl (Free.XT.ii_ge_t c160) (by decide) (by decide) k') ?_
        show G (T221.setTop (mkF m 169 #[.val (.ref r0)] []))
        refine go _ _ (fun t' k' => XS.iconst X221.here hx rfl (hb hby d5_169) k') ?_
        show G (T221.setTop (mkF m 170 #[.val (.ref r0)] [(.int (1 : Int32))]))
        refine own_retZ rt X221 hx (t := .boolean) hret (by simp) (hb hby d5_170) (by decide) (by decide) ?_
        have f222 := (f151_0.wr W154)
        have f223 := (f151_1.other W154 (Or.inr (slot_ne (Or.inr (hw _ (List.mem_of_getElem? (i := 16) rfl))) (Or.inl (hw _ (List.mem_of_getElem? (i := 29) rfl))) (by decide) (t := (.array .byte)) (t' := .int) (by decide) (by decide))))
        have f224 := (f151_3.other W154 (Or.inr (slot_ne (Or.inl (hw _ (List.mem_of_getElem? (i := 36) rfl))) (Or.inl (hw _ (List.mem_of_getElem? (i := 29) rfl))) (by decide) (t := .int) (t' := .int) (by decide) (by decide))))
        have f225 := (f151_4.other W154 (Or.inr (slot_ne (Or.inl (hw _ (List.mem_of_getElem? (i := 38) rfl))) (Or.inl (hw _ (List.mem_of_getElem? (i := 29) rfl))) (by decide) (t := .int) (t' := .int) (by decide) (by decide))))
        have f226 := (f151_5.other W154 (Or.inr (slot_ne (Or.inl (hw _ (List.mem_of_getElem? (i := 40) rfl))) (Or.inl (hw _ (List.mem_of_getElem? (i := 29) rfl))) (by decide) (t := .int) (t' := .int) (by decide) (by decide))))
        rw [e221]
        refine ⟨N154h, K155, Or.inr ⟨hlt, rfl, _, _, j, ⟨f222, f223, f158, f224, f225, f226, F154⟩, hen, hkj, hjl, hnb, hbr, ?_⟩⟩
        have wc160 := (not_congr (own_lt hen hln)).mp c160
        rw [nxA (by omega)]; exact hen
    have loop : ∀ (n j : Nat), n + j = ln → ∀ (T : State) (lc : List Loc) (h : Heap), Stand p l e ({ frames := 0, cells := 0, slots := 0, locals := 0 } : Room) s m #[(.ref r0)] below meth c T lc 0 0 → T.heap = h → Fr n0 lc → Keep h0 h [r0] → n0 ≤ h.size → ∀ (en1 : Int32), (en1.toInt = j) → (k1 ≤ j) → (j ≤ ln) → (∀ i, k1 ≤ i → i < j → ¬ brk (g i)) → Exa Z h r0 "com/example/caducee/caducee/ByteLines" → Fld Z h r0 "com/example/caducee/caducee/ByteLines" "bytes" "[B" (.ref r1) → Fld Z h r0 "com/example/caducee/caducee/ByteLines" "length" "I" (.int len) → Fld Z h r0 "com/example/caducee/caducee/ByteLines" "number" "I" (.int (nm + (1 : Int32))) → Fld Z h r0 "com/example/caducee/caducee/ByteLines" "start" "I" (.int nx) → Fld Z h r0 "com/example/caducee/caducee/ByteLines" "end" "I" (.int en1) → Fld Z h r0 "com/example/caducee/caducee/ByteLines" "next" "I" (.int nx) → G (T.setTop (mkF m 39 #[.val (.ref r0)] [])) := by
      intro n
      induction n with
      | zero =>
        intro j hn
        intro T227 lc227 h227 X227 e227 N227 K227 Z227 en1 hen hkj hjl hnb f227_0 f227_1 f227_2 f227_3 f227_4 f227_5 f227_6
        have A228 := A.keep K227 (ninS n10 nin0)
        show G (T227.setTop (mkF m 39 #[.val (.ref r0)] []))
        refine go _ _ (fun t' k' => XS.aloadN X227.here hx rfl (hb hby d5_39) rfl rfl  k') ?_
        show G (T227.setTop (mkF m 40 #[.val (.ref r0)] [(.ref r0)]))
        obtain ⟨T229, X229, e229, st229⟩ := getF X227 hx hZ hown (host := "") (Or.inl (hw _ (List.mem_of_getElem? (i := 39) rfl))) Via.refl e227 f227_5 (g := (mkF m 40 #[.val (.ref r0)] [(.ref r0)])) rfl rfl (hb hby d5_40)
        refine go _ _ st229 ?_
        show G (T229.setTop (mkF m 43 #[.val (.ref r0)] [(.int en1)]))
        refine go _ _ (fun t' k' => XS.aloadN X229.here hx rfl (hb hby d5_43) rfl rfl  k') ?_
        show G (T229.setTop (mkF m 44 #[.val (.ref r0)] [(.ref r0), (.int en1)]))
        obtain ⟨T230, X230, e230, st230⟩ := getF X229 hx hZ hown (host := "") (Or.inl (hw _ (List.mem_of_getElem? (i := 17) rfl))) Via.refl e229 f227_2 (g := (mkF m 44 #[.val (.ref r0)] [(.ref r0), (.int en1)])) rfl rfl (hb hby d5_44)
        refine go _ _ st230 ?_
        show G (T230.setTop (mkF m 47 #[.val (.ref r0)] [(.int len), (.int en1)]))
        refine go _ _ (fun t' k' => XS.icmpYes X230.here hx rfl (pc0 := 47) (pc' := 91) rfl (hb hby d5_47) rfl (Free.XT.ii_ge_t ((not_congr (own_lt hen hln)).mpr (by omega))) (by decide) (by decide) k') ?_
        show G (T230.setTop (mkF m 91 #[.val (.ref r0)] []))
        exact J91 T230 _ h227 X230 e230 N227 K227 Z227 _ j hen hkj hjl hnb (Or.inl (by omega)) f227_0 f227_1 f227_2 f227_3 f227_4 f227_5 f227_6
      | succ n ih =>
        intro j hn
        intro T231 lc231 h231 X231 e231 N231 K231 Z231 en1 hen hkj hjl hnb f231_0 f231_1 f231_2 f231_3 f231_4 f231_5 f231_6
        have A232 := A.keep K231 (ninS n10 nin0)
        show G (T231.setTop (mkF m 39 #[.val (.ref r0)] []))
        refine go _ _ (fun t' k' => XS.aloadN X231.here hx rfl (hb hby d5_39) rfl rfl  k') ?_
        show G (T231.setTop (mkF m 40 #[.val (.ref r0)] [(.ref r0)]))
        obtain ⟨T233, X233, e233, st233⟩ := getF X231 hx hZ hown (host := "") (Or.inl (hw _ (List.mem_of_getElem? (i := 39) rfl))) Via.refl e231 f231_5 (g := (mkF m 40 #[.val (.ref r0)] [(.ref r0)])) rfl rfl (hb hby d5_40)
        refine go _ _ st233 ?_
        show G (T233.setTop (mkF m 43 #[.val (.ref r0)] [(.int en1)]))
        refine go _ _ (fun t' k' => XS.aloadN X233.here hx rfl (hb hby d5_43) rfl rfl  k') ?_
        show G (T233.setTop (mkF m 44 #[.val (.ref r0)] [(.ref r0), (.int en1)]))
        obtain ⟨T234, X234, e234, st234⟩ := getF X233 hx hZ hown (host := "") (Or.inl (hw _ (List.mem_of_getElem? (i := 17) rfl))) Via.refl e233 f231_2 (g := (mkF m 44 #[.val (.ref r0)] [(.ref r0), (.int en1)])) rfl rfl (hb hby d5_44)
        refine go _ _ st234 ?_
        show G (T234.setTop (mkF m 47 #[.val (.ref r0)] [(.int len), (.int en1)]))
        refine go _ _ (fun t' k' => XS.icmpNo X234.here hx rfl (hb hby d5_47) rfl (Free.XT.ii_ge_f ((own_lt hen hln).mpr (by omega))) k') ?_
        show G (T234.setTop (mkF m 50 #[.val (.ref r0)] []))
        refine go _ _ (fun t' k' => XS.aloadN X234.here hx rfl (hb hby d5_50) rfl rfl  k') ?_
        show G (T234.setTop (mkF m 51 #[.val (.ref r0)] [(.ref r0)]))
        obtain ⟨T235, X235, e235, st235⟩ := getF X234 hx hZ hown (host := "") (Or.inl (hw _ (List.mem_of_getElem? (i := 15) rfl))) Via.refl e234 f231_1 (g := (mkF m 51 #[.val (.ref r0)] [(.ref r0)])) rfl rfl (hb hby d5_51)
        refine go _ _ st235 ?_
        show G (T235.setTop (mkF m 54 #[.val (.ref r0)] [(.ref r1)]))
        refine go _ _ (fun t' k' => XS.aloadN X235.here hx rfl (hb hby d5_54) rfl rfl  k') ?_
        show G (T235.setTop (mkF m 55 #[.val (.ref r0)] [(.ref r0), (.ref r1)]))
        obtain ⟨T236, X236, e236, st236⟩ := getF X235 hx hZ hown (host := "") (Or.inl (hw _ (List.mem_of_getElem? (i := 39) rfl))) Via.refl e235 f231_5 (g := (mkF m 55 #[.val (.ref r0)] [(.ref r0), (.ref r1)])) rfl rfl (hb hby d5_55)
        refine go _ _ st236 ?_
        show G (T236.setTop (mkF m 58 #[.val (.ref r0)] [(.int en1), (.ref r1)]))
        refine own_baload go X236 hx hZ e236 j hen (by omega) (g := (mkF m 58 #[.val (.ref r0)] [(.int en1), (.ref r1)])) rfl A232 rfl (hb hby d5_58) ?_
        show G (T236.setTop (mkF m 59 #[.val (.ref r0)] [(.int (g j))]))
        refine go _ _ (fun t' k' => XS.bipush X236.here hx rfl (hb hby d5_59) k') ?_
        show G (T236.setTop (mkF m 61 #[.val (.ref r0)] [(.int (10 : Int32)), (.int (g j))]))
        by_cases c237 : (g j) = (10 : Int32)
        · refine go _ _ (fun t' k' => XS.icmpYes X236.here hx rfl (pc0 := 61) (pc' := 91) rfl (hb hby d5_61) rfl (Free.XT.ii_eq_t c237) (by decide) (by decide) k') ?_
          show G (T236.setTop (mkF m 91 #[.val (.ref r0)] []))
          exact J91 T236 _ h231 X236 e236 N231 K231 Z231 _ j hen hkj hjl hnb (Or.inr (Or.inl c237)) f231_0 f231_1 f231_2 f231_3 f231_4 f231_5 f231_6
        · refine go _ _ (fun t' k' => XS.icmpNo X236.here hx rfl (hb hby d5_61) rfl (Free.XT.ii_eq_f c237) k') ?_
          show G (T236.setTop (mkF m 64 #[.val (.ref r0)] []))
          refine go _ _ (fun t' k' => XS.aloadN X236.here hx rfl (hb hby d5_64) rfl rfl  k') ?_
          show G (T236.setTop (mkF m 65 #[.val (.ref r0)] [(.ref r0)]))
          obtain ⟨T238, X238, e238, st238⟩ := getF X236 hx hZ hown (host := "") (Or.inl (hw _ (List.mem_of_getElem? (i := 15) rfl))) Via.refl e236 f231_1 (g := (mkF m 65 #[.val (.ref r0)] [(.ref r0)])) rfl rfl (hb hby d5_65)
          refine go _ _ st238 ?_
          show G (T238.setTop (mkF m 68 #[.val (.ref r0)] [(.ref r1)]))
          refine go _ _ (fun t' k' => XS.aloadN X238.here hx rfl (hb hby d5_68) rfl rfl  k') ?_
          show G (T238.setTop (mkF m 69 #[.val (.ref r0)] [(.ref r0), (.ref r1)]))
          obtain ⟨T239, X239, e239, st239⟩ := getF X238 hx hZ hown (host := "") (Or.inl (hw _ (List.mem_of_getElem? (i := 39) rfl))) Via.refl e238 f231_5 (g := (mkF m 69 #[.val (.ref r0)] [(.ref r0), (.ref r1)])) rfl rfl (hb hby d5_69)
          refine go _ _ st239 ?_
          show G (T239.setTop (mkF m 72 #[.val (.ref r0)] [(.int en1), (.ref r1)]))
          refine own_baload go X239 hx hZ e239 j hen (by omega) (g := (mkF m 72 #[.val (.ref r0)] [(.int en1), (.ref r1)])) rfl A232 rfl (hb hby d5_72) ?_
          show G (T239.setTop (mkF m 73 #[.val (.ref r0)] [(.int (g j))]))
          refine go _ _ (fun t' k' => XS.bipush X239.here hx rfl (hb hby d5_73) k') ?_
          show G (T239.setTop (mkF m 75 #[.val (.ref r0)] [(.int (13 : Int32)), (.int (g j))]))
          by_cases c240 : (g j) = (13 : Int32)
          · refine go _ _ (fun t' k' => XS.icmpYes X239.here hx rfl (pc0 := 75) (pc' := 91) rfl (hb hby d5_75) rfl (Free.XT.ii_eq_t c240) (by decide) (by decide) k') ?_
            show G (T239.setTop (mkF m 91 #[.val (.ref r0)] []))
            exact J91 T239 _ h231 X239 e239 N231 K231 Z231 _ j hen hkj hjl hnb (Or.inr (Or.inr c240)) f231_0 f231_1 f231_2 f231_3 f231_4 f231_5 f231_6
          · refine go _ _ (fun t' k' => XS.icmpNo X239.here hx rfl (hb hby d5_75) rfl (Free.XT.ii_eq_f c240) k') ?_
            show G (T239.setTop (mkF m 78 #[.val (.ref r0)] []))
            refine go _ _ (fun t' k' => XS.aloadN X239.here hx rfl (hb hby d5_78) rfl rfl  k') ?_
            show G (T239.setTop (mkF m 79 #[.val (.ref r0)] [(.ref r0)]))
            refine go _ _ (fun t' k' => XS.dup X239.here hx rfl (hb hby d5_79) rfl rfl k') ?_
            show G (T239.setTop (mkF m 80 #[.val (.ref r0)] [(.ref r0), (.ref r0)]))
            obtain ⟨T241, X241, e241, st241⟩ := getF X239 hx hZ hown (host := "") (Or.inl (hw _ (List.mem_of_getElem? (i := 39) rfl))) Via.refl e239 f231_5 (g := (mkF m 80 #[.val (.ref r0)] [(.ref r0), (.ref r0)])) rfl rfl (hb hby d5_80)
            refine go _ _ st241 ?_
            show G (T241.setTop (mkF m 83 #[.val (.ref r0)] [(.int en1), (.ref r0)]))
            refine go _ _ (fun t' k' => XS.iconst X241.here hx rfl (hb hby d5_83) k') ?_
            show G (T241.setTop (mkF m 84 #[.val (.ref r0)] [(.int (1 : Int32)), (.int en1), (.ref r0)]))
            refine go _ _ (fun t' k' => XS.iadd X241.here hx rfl (hb hby d5_84) rfl k') ?_
            show G (T241.setTop (mkF m 85 #[.val (.ref r0)] [(.int (en1 + (1 : Int32))), (.ref r0)]))
            obtain ⟨T242, h242, X242, e242, W242, st242⟩ := putF X241 hx hZ hown (host := "") (Or.inl (hw _ (List.mem_of_getElem? (i := 39) rfl))) Via.refl e241 f231_5 f231_0 (Or.inl (hw _ (List.mem_of_getElem? (i := 40) rfl))) (hw _ (List.mem_of_getElem? (i := 7) rfl)) (ty := .int) (by decide) rfl rfl (g := (mkF m 85 #[.val (.ref r0)] [(.int (en1 + (1 : Int32))), (.ref r0)])) rfl rfl (hb hby d5_85)
            have F242 := f231_5.same W242
            have K243 : Keep h0 h242 [r0] := K231.wr W242 (Or.inl (List.mem_of_getElem? (i := 0) rfl))
            obtain ⟨lc242, X242h, N242h⟩ := own_hide X242 (Fr.snoc X242 N231 g_r0)
            have Z244 : n0 ≤ h242.size := Nat.le_trans Z231 (Nat.le_of_eq W242.size.symm)
            refine go _ _ st242 ?_
            show G (T242.setTop (mkF m 88 #[.val (.ref r0)] []))
            refine go _ _ (fun t' k' => XS.goto X242h.here hx rfl (pc0 := 88) (pc' := 39) rfl (hb hby d5_88) (by decide) (by decide) k') ?_
            show G (T242.setTop (mkF m 39 #[.val (.ref r0)] []))
            have f245 := (f231_0.wr W242)
            have f246 := (f231_1.other W242 (Or.inr (slot_ne (Or.inr (hw _ (List.mem_of_getElem? (i := 16) rfl))) (Or.inl (hw _ (List.mem_of_getElem? (i := 40) rfl))) (by decide) (t := (.array .byte)) (t' := .int) (by decide) (by decide))))
            have f247 := (f231_2.other W242 (Or.inr (slot_ne (Or.inr (hw _ (List.mem_of_getElem? (i := 18) rfl))) (Or.inl (hw _ (List.mem_of_getElem? (i := 40) rfl))) (by decide) (t := .int) (t' := .int) (by decide) (by decide))))
            have f248 := (f231_3.other W242 (Or.inr (slot_ne (Or.inl (hw _ (List.mem_of_getElem? (i := 36) rfl))) (Or.inl (hw _ (List.mem_of_getElem? (i := 40) rfl))) (by decide) (t := .int) (t' := .int) (by decide) (by decide))))
            have f249 := (f231_4.other W242 (Or.inr (slot_ne (Or.inl (hw _ (List.mem_of_getElem? (i := 38) rfl))) (Or.inl (hw _ (List.mem_of_getElem? (i := 40) rfl))) (by decide) (t := .int) (t' := .int) (by decide) (by decide))))
            have f250 := (f231_6.other W242 (Or.inr (slot_ne (Or.inl (hw _ (List.mem_of_getElem? (i := 29) rfl))) (Or.inl (hw _ (List.mem_of_getElem? (i := 40) rfl))) (by decide) (t := .int) (t' := .int) (by decide) (by decide))))
            exact ih (j + 1) (by omega) T242 _ h242 X242h e242 N242h K243 Z244 _ (own_inc hen (by omega)) (by omega) (by omega) (own_nb hnb c237 c240) f245 f246 f247 f248 f249 F242 f250
    have f251 := (f147.wr W148)
    have f252 := (((B130b.other W135 (Or.inr (slot_ne (Or.inr (hw _ (List.mem_of_getElem? (i := 16) rfl))) (Or.inl (hw _ (List.mem_of_getElem? (i := 36) rfl))) (by decide) (t := (.array .byte)) (t' := .int) (by decide) (by decide)))).other W142 (Or.inr (slot_ne (Or.inr (hw _ (List.mem_of_getElem? (i := 16) rfl))) (Or.inl (hw _ (List.mem_of_getElem? (i := 38) rfl))) (by decide) (t := (.array .byte)) (t' := .int) (by decide) (by decide)))).other W148 (Or.inr (slot_ne (Or.inr (hw _ (List.mem_of_getElem? (i := 16) rfl))) (Or.inl (hw _ (List.mem_of_getElem? (i := 40) rfl))) (by decide) (t := (.array .byte)) (t' := .int) (by decide) (by decide))))
    have f253 := (((B130L.other W135 (Or.inr (slot_ne (Or.inr (hw _ (List.mem_of_getElem? (i := 18) rfl))) (Or.inl (hw _ (List.mem_of_getElem? (i := 36) rfl))) (by decide) (t := .int) (t' := .int) (by decide) (by decide)))).other W142 (Or.inr (slot_ne (Or.inr (hw _ (List.mem_of_getElem? (i := 18) rfl))) (Or.inl (hw _ (List.mem_of_getElem? (i := 38) rfl))) (by decide) (t := .int) (t' := .int) (by decide) (by decide)))).other W148 (Or.inr (slot_ne (Or.inr (hw _ (List.mem_of_getElem? (i := 18) rfl))) (Or.inl (hw _ (List.mem_of_getElem? (i := 40) rfl))) (by decide) (t := .int) (t' := .int) (by decide) (by decide))))
    have f254 := ((F135.other W142 (Or.inr (slot_ne (Or.inl (hw _ (List.mem_of_getElem? (i := 36) rfl))) (Or.inl (hw _ (List.mem_of_getElem? (i := 38) rfl))) (by decide) (t := .int) (t' := .int) (by decide) (by decide)))).other W148 (Or.inr (slot_ne (Or.inl (hw _ (List.mem_of_getElem? (i := 36) rfl))) (Or.inl (hw _ (List.mem_of_getElem? (i := 40) rfl))) (by decide) (t := .int) (t' := .int) (by decide) (by decide))))
    have f255 := (F142.other W148 (Or.inr (slot_ne (Or.inl (hw _ (List.mem_of_getElem? (i := 38) rfl))) (Or.inl (hw _ (List.mem_of_getElem? (i := 40) rfl))) (by decide) (t := .int) (t' := .int) (by decide) (by decide))))
    have f256 := ((f138.other W142 (Or.inr (slot_ne (Or.inl (hw _ (List.mem_of_getElem? (i := 29) rfl))) (Or.inl (hw _ (List.mem_of_getElem? (i := 38) rfl))) (by decide) (t := .int) (t' := .int) (by decide) (by decide)))).other W148 (Or.inr (slot_ne (Or.inl (hw _ (List.mem_of_getElem? (i := 29) rfl))) (Or.inl (hw _ (List.mem_of_getElem? (i := 40) rfl))) (by decide) (t := .int) (t' := .int) (by decide) (by decide))))
    exact loop (ln - k1) k1 (by omega) T148 _ h148 X148h e148 N148h K149 Z150 _ hnx (Nat.le_refl _) (by omega) (fun i h1 h2 => by omega) f251 f252 f253 f254 f255 F148 f256
  · refine go _ _ (fun t' k' => XS.icmpNo X132.here hx rfl (hb hby d5_8) rfl (Free.XT.ii_lt_f c133) k') ?_
    show G (T132.setTop (mkF m 11 #[.val (.ref r0)] []))
    refine go _ _ (fun t' k' => XS.iconst X132.here hx rfl (hb hby d5_11) k') ?_
    show G (T132.setTop (mkF m 12 #[.val (.ref r0)] [(.int (0 : Int32))]))
    refine own_retZ rt X132 hx (t := .boolean) hret (by simp) (hb hby d5_12) (by decide) (by decide) ?_
    rw [e132]
    exact ⟨N0, Keep.refl _ _, Or.inl ⟨(by have := (not_congr (own_lt hnx hln)).mp c133; omega), rfl, _, _, ⟨B130E, B130b, B130L, B130m, B130s, B130e, B130n⟩⟩⟩
theorem pn_4 : plainName "com/example/caducee/caducee/ByteLinesNextPinLaw" = true := by first | (simp [plainName, overriddenIn]; done) | decide +kernel
theorem ef_rm8 (m : MethodId) (x0 : Addr) (x1 : Addr) (x2 : Int32) (x3 : Addr) : entryFrame m #[(.ref x0), (.ref x1), (.int x2), (.ref x3)] 12 = mkF m 0 #[.val (.ref x0), .val (.ref x1), .val (.int x2), .val (.ref x3), .unset, .unset, .unset, .unset, .unset, .unset, .unset, .unset] [] := by first | (simp [entryFrame, mkF, argsToLocals, Value.category]; done) | rfl
set_option maxRecDepth 65536 in
set_option maxHeartbeats 40000000 in
theorem rm8 (l : Launch) (Z : State) (a0 : Array Value) (hw : ∀ d ∈ tables_1, d.before a0 Z = true) (r0 r1 : Addr) (u2 : Int32) (r3 : Addr) (nm st en nx : Int32) (g : Nat → Int32) (k1 ln : Nat) (h0 : Heap) (n0 : Nat) (Z0 : n0 ≤ h0.size) (g_r0 : n0 ≤ r0) (g_r3 : n0 ≤ r3) (n10 : r1 ≠ r0) (n13 : r1 ≠ r3) (n30 : r3 ≠ r0) (Bl : BL Z h0 r0 r1 u2 nm st en nx) (A : Ary Z h0 r1 .byte 4 (fun i => .int (g i))) (As : Ary Z h0 r3 .int 3 (fun i => .int (stf nx nm i))) (hln : u2.toInt = ln) (hl4 : ln ≤ 4) (hnx : nx.toInt = k1) (hkl : k1 ≤ ln) :
    Con l Z (⟨"com/example/caducee/caducee/ByteLinesNextPinLaw", "step", "(Lcom/example/caducee/caducee/ByteLines;[BI[I)V"⟩ : MethodName) method_7_code 12 none ({ frames := 3, cells := 0, slots := 0, locals := 41 } : Room) #[(.ref r0), (.ref r1), (.int u2), (.ref r3)] h0 (fun v h L => v = none ∧ Fr n0 L ∧ Keep h0 h [r0, r3] ∧ (∃ nm2 st2 en2 nx2 : Int32, ∃ k2 : Nat, BL Z h r0 r1 u2 nm2 st2 en2 nx2 ∧ nx2.toInt = k2 ∧ k2 ≤ ln ∧ Ary Z h r3 .int 3 (fun i => .int (stf nx2 nm2 i)))) := by
  refine own_body pn_4 ?_
  intro p e s m below meth c s₁ hx hby hml hown hnm hret hZ e0 X0 G go rt
  have N0 := Fr.nil n0
  rw [ef_rm8 m r0 r1 u2 r3]
  obtain ⟨B257E, B257b, B257L, B257m, B257s, B257e, B257n⟩ := Bl
  show G (s₁.setTop (mkF m 0 #[.val (.ref r0), .val (.ref r1), .val (.int u2), .val (.ref r3), .unset, .unset, .unset, .unset, .unset, .unset, .unset, .unset] []))
  refine go _ _ (fun t' k' => XS.aloadN X0.here hx rfl (hb hby d4_0) rfl rfl  k') ?_
  show G (s₁.setTop (mkF m 1 #[.val (.ref r0), .val (.ref r1), .val (.int u2), .val (.ref r3), .unset, .unset, .unset, .unset, .unset, .unset, .unset, .unset] [(.ref r0)]))
  refine own_virtual go X0 hx hZ e0 hown (hw _ (List.mem_of_getElem? (i := 23) rfl)) (hw _ (List.mem_of_getElem? (i := 24) rfl)) (notFace_of_selects (args := #[]) (mvT hZ (hw _ (List.mem_of_getElem? (i := 26) rfl)))) (hw _ (List.mem_of_getElem? (i := 26) rfl)) (hw _ (List.mem_of_getElem? (i := 25) rfl)) (hw _ (List.mem_of_getElem? (i := 8) rfl)) (hw _ (List.mem_of_getElem? (i := 27) rfl)) (by decide) (rm7 l Z a0 hw r0 r1 u2 nm st en nx g k1 ln h0 n0 Z0 g_r0 n10 ⟨B257E, B257b, B257L, B257m, B257s, B257e, B257n⟩ A hln hl4 hnx hkl) 0 (by decide) (by decide) (by decide) (by decide) B257E (g := (mkF m 1 #[.val (.ref r0), .val (.ref r1), .val (.int u2), .val (.ref r3), .unset, .unset, .unset, .unset, .unset, .unset, .unset, .unset] [(.ref r0)])) rfl (by rw [hml]; rfl) [] [] rfl (lenOf pd_2 rfl) rfl (by show 2 * 0 + _ ≤ _; exact Nat.le_of_eq rfl) (hb hby d4_1) ?_
  intro T258 L258 v258 X258 q258
  obtain ⟨N258, K258, hq⟩ := q258
  obtain ⟨lc258, X258h, N258h⟩ := own_hide X258 (Fr.app N0 N258)
  have K259 : Keep h0 T258.heap [r0, r3] := (Keep.refl h0 [r0, r3]).trans K258 (allS (Or.inl (List.mem_of_getElem? (i := 0) rfl)) all0)
  have Z260 : n0 ≤ T258.heap.size := Nat.le_trans Z0 K258.1
  rcases hq with ⟨hk, rfl, st2, en2, B2⟩ | ⟨hk, rfl, en2, nx2, e2, B2, he2, hke, hel, hnb, hbr, hnx2⟩
  · obtain ⟨B261E, B261b, B261L, B261m, B261s, B261e, B261n⟩ := B2
    show G (T258.setTop (mkF m 4 #[.val (.ref r0), .val (.ref r1), .val (.int u2), .val (.ref r3), .unset, .unset, .unset, .unset, .unset, .unset, .unset, .unset] [(.int (0 : Int32))]))
    refine go _ _ (fun t' k' => XS.istore X258h.here hx rfl (hb hby d4_4) rfl (l' := #[.val (.ref r0), .val (.ref r1), .val (.int u2), .val (.ref r3), .val (.int (0 : Int32)), .unset, .unset, .unset, .unset, .unset, .unset, .unset]) rfl k') ?_
    show G (T258.setTop (mkF m 6 #[.val (.ref r0), .val (.ref r1), .val (.int u2), .val (.ref r3), .val (.int (0 : Int32)), .unset, .unset, .unset, .unset, .unset, .unset, .unset] []))
    refine go _ _ (fun t' k' => XS.aloadN X258h.here hx rfl (hb hby d4_6) rfl rfl  k') ?_
    show G (T258.setTop (mkF m 7 #[.val (.ref r0), .val (.ref r1), .val (.int u2), .val (.ref r3), .val (.int (0 : Int32)), .unset, .unset, .unset, .unset, .unset, .unset, .unset] [(.ref r3)]))
    refine go _ _ (fun t' k' => XS.iconst X258h.here hx rfl (hb hby d4_7) k') ?_
    show G (T258.setTop (mkF m 8 #[.val (.ref r0), .val (.ref r1), .val (.int u2), .val (.ref r3), .val (.int (0 : Int32)), .unset, .unset, .unset, .unset, .unset, .unset, .unset] [(.int (0 : Int32)), (.ref r3)]))
    have f262 := (As.keep K258 (ninS n30 nin0))
    refine own_iaload go X258h hx hZ rfl 0 rfl (by decide) (g := (mkF m 8 #[.val (.ref r0), .val (.ref r1), .val (.int u2), .val (.ref r3), .val (.int (0 : Int32)), .unset, .unset, .unset, .unset, .unset, .unset, .unset] [(.int (0 : Int32)), (.ref r3)])) rfl f262 rfl (hb hby d4_8) ?_
    show G (T258.setTop (mkF m 9 #[.val (.ref r0), .val (.ref r1), .val (.int u2), .val (.ref r3), .val (.int (0 : Int32)), .unset, .unset, .unset, .unset, .unset, .unset, .unset] [(.int nx)]))
    refine go _ _ (fun t' k' => XS.istore X258h.here hx rfl (hb hby d4_9) rfl (l' := #[.val (.ref r0), .val (.ref r1), .val (.int u2), .val (.ref r3), .val (.int (0 : Int32)), .val (.int nx), .unset, .unset, .unset, .unset, .unset, .unset]) rfl k') ?_
    show G (T258.setTop (mkF m 11 #[.val (.ref r0), .val (.ref r1), .val (.int u2), .val (.ref r3), .val (.int (0 : Int32)), .val (.int nx), .unset, .unset, .unset, .unset, .unset, .unset] []))
    refine go _ _ (fun t' k' => XS.aloadN X258h.here hx rfl (hb hby d4_11) rfl rfl  k') ?_
    show G (T258.setTop (mkF m 12 #[.val (.ref r0), .val (.ref r1), .val (.int u2), .val (.ref r3), .val (.int (0 : Int32)), .val (.int nx), .unset, .unset, .unset, .unset, .unset, .unset] [(.ref r3)]))
    refine go _ _ (fun t' k' => XS.iconst X258h.here hx rfl (hb hby d4_12) k') ?_
    show G (T258.setTop (mkF m 13 #[.val (.ref r0), .val (.ref r1), .val (.int u2), .val (.ref r3), .val (.int (0 : Int32)), .val (.int nx), .unset, .unset, .unset, .unset, .unset, .unset] [(.int (1 : Int32)), (.ref r3)]))
    refine own_iaload go X258h hx hZ rfl 1 rfl (by decide) (g := (mkF m 13 #[.val (.ref r0), .val (.ref r1), .val (.int u2), .val (.ref r3), .val (.int (0 : Int32)), .val (.int nx), .unset, .unset, .unset, .unset, .unset, .unset] [(.int (1 : Int32)), (.ref r3)])) rfl f262 rfl (hb hby d4_13) ?_
    show G (T258.setTop (mkF m 14 #[.val (.ref r0), .val (.ref r1), .val (.int u2), .val (.ref r3), .val (.int (0 : Int32)), .val (.int nx), .unset, .unset, .unset, .unset, .unset, .unset] [(.int nm)]))
    refine go _ _ (fun t' k' => XS.istore X258h.here hx rfl (hb hby d4_14) rfl (l' := #[.val (.ref r0), .val (.ref r1), .val (.int u2), .val (.ref r3), .val (.int (0 : Int32)), .val (.int nx), .val (.int nm), .unset, .unset, .unset, .unset, .unset]) rfl k') ?_
    show G (T258.setTop (mkF m 16 #[.val (.ref r0), .val (.ref r1), .val (.int u2), .val (.ref r3), .val (.int (0 : Int32)), .val (.int nx), .val (.int nm), .unset, .unset, .unset, .unset, .unset] []))
    refine go _ _ (fun t' k' => XS.iload X258h.here hx rfl (hb hby d4_16) rfl  k') ?_
    show G (T258.setTop (mkF m 18 #[.val (.ref r0), .val (.ref r1), .val (.int u2), .val (.ref r3), .val (.int (0 : Int32)), .val (.int nx), .val (.int nm), .unset, .unset, .unset, .unset, .unset] [(.int nx)]))
    refine go _ _ (fun t' k' => XS.iloadN X258h.here hx rfl (hb hby d4_18) rfl  k') ?_
    show G (T258.setTop (mkF m 19 #[.val (.ref r0), .val (.ref r1), .val (.int u2), .val (.ref r3), .val (.int (0 : Int32)), .val (.int nx), .val (.int nm), .unset, .unset, .unset, .unset, .unset] [(.int u2), (.int nx)]))
    refine go _ _ (fun t' k' => XS.icmpNo X258h.here hx rfl (hb hby d4_19) rfl (Free.XT.ii_lt_f ((not_congr (own_lt hnx hln)).mpr (by omega))) k') ?_
    show G (T258.setTop (mkF m 22 #[.val (.ref r0), .val (.ref r1), .val (.int u2), .val (.ref r3), .val (.int (0 : Int32)), .val (.int nx), .val (.int nm), .unset, .unset, .unset, .unset, .unset] []))
    refine go _ _ (fun t' k' => XS.iload X258h.here hx rfl (hb hby d4_22) rfl  k') ?_
    show G (T258.setTop (mkF m 24 #[.val (.ref r0), .val (.ref r1), .val (.int u2), .val (.ref r3), .val (.int (0 : Int32)), .val (.int nx), .val (.int nm), .unset, .unset, .unset, .unset, .unset] [(.int (0 : Int32))]))
    refine go _ _ (fun t' k' => XS.ifNo X258h.here hx rfl (hb hby d4_24) rfl (Free.XT.i0_ne_f (by decide)) k') ?_
    show G (T258.setTop (mkF m 27 #[.val (.ref r0), .val (.ref r1), .val (.int u2), .val (.ref r3), .val (.int (0 : Int32)), .val (.int nx), .val (.int nm), .unset, .unset, .unset, .unset, .unset] []))
    refine go _ _ (fun t' k' => XS.aloadN X258h.here hx rfl (hb hby d4_27) rfl rfl  k') ?_
    show G (T258.setTop (mkF m 28 #[.val (.ref r0), .val (.ref r1), .val (.int u2), .val (.ref r3), .val (.int (0 : Int32)), .val (.int nx), .val (.int nm), .unset, .unset, .unset, .unset, .unset] [(.ref r0)]))
    refine own_virtual go X258h hx hZ rfl hown (hw _ (List.mem_of_getElem? (i := 30) rfl)) (hw _ (List.mem_of_getElem? (i := 31) rfl)) (notFace_of_selects (args := #[]) (mvT hZ (hw _ (List.mem_of_getElem? (i := 33) rfl)))) (hw _ (List.mem_of_getElem? (i := 33) rfl)) (hw _ (List.mem_of_getElem? (i := 32) rfl)) (hw _ (List.mem_of_getElem? (i := 8) rfl)) (hw _ (List.mem_of_getElem? (i := 34) rfl)) (by decide) (rm_number l Z a0 hw r0 nm T258.heap n0 Z260 B261m) 0 (by decide) (by decide) (by decide) (by decide) B261E (g := (mkF m 28 #[.val (.ref r0), .val (.ref r1), .val (.int u2), .val (.ref r3), .val (.int (0 : Int32)), .val (.int nx), .val (.int nm), .unset, .unset, .unset, .unset, .unset] [(.ref r0)])) rfl (by rw [hml]; rfl) [] [] rfl (lenOf pd_3 rfl) rfl (by show 2 * 0 + _ ≤ _; exact Nat.le_of_eq rfl) (hb hby d4_28) ?_
    intro T263 L263 v263 X263 q263
    obtain ⟨rfl, N263, hh263⟩ := q263
    obtain ⟨lc263, X263h, N263h⟩ := own_hide X263 (Fr.app N258h N263)
    show G (T263.setTop (mkF m 31 #[.val (.ref r0), .val (.ref r1), .val (.int u2), .val (.ref r3), .val (.int (0 : Int32)), .val (.int nx), .val (.int nm), .unset, .unset, .unset, .unset, .unset] [(.int nm)]))
    refine go _ _ (fun t' k' => XS.iload X263h.here hx rfl (hb hby d4_31) rfl  k') ?_
    show G (T263.setTop (mkF m 33 #[.val (.ref r0), .val (.ref r1), .val (.int u2), .val (.ref r3), .val (.int (0 : Int32)), .val (.int nx), .val (.int nm), .unset, .unset, .unset, .unset, .unset] [(.int nm), (.int nm)]))
    refine go _ _ (fun t' k' => XS.icmpYes X263h.here hx rfl (pc0 := 33) (pc' := 40) rfl (hb hby d4_33) rfl (Free.XT.ii_eq_t rfl) (by decide) (by decide) k') ?_
    show G (T263.setTop (mkF m 40 #[.val (.ref r0), .val (.ref r1), .val (.int u2), .val (.ref r3), .val (.int (0 : Int32)), .val (.int nx), .val (.int nm), .unset, .unset, .unset, .unset, .unset] []))
    refine own_retV rt X263h hx hret (hb hby d4_40) (by decide) (by decide) ?_
    rw [hh263]
    exact ⟨rfl, N263h, K259, _, _, _, _, k1, ⟨B261E, B261b, B261L, B261m, B261s, B261e, B261n⟩, hnx, hkl, f262⟩
  · obtain ⟨B264E, B264b, B264L, B264m, B264s, B264e, B264n⟩ := B2
    show G (T258.setTop (mkF m 4 #[.val (.ref r0), .val (.ref r1), .val (.int u2), .val (.ref r3), .unset, .unset, .unset, .unset, .unset, .unset, .unset, .unset] [(.int (1 : Int32))]))
    refine go _ _ (fun t' k' => XS.istore X258h.here hx rfl (hb hby d4_4) rfl (l' := #[.val (.ref r0), .val (.ref r1), .val (.int u2), .val (.ref r3), .val (.int (1 : Int32)), .unset, .unset, .unset, .unset, .unset, .unset, .unset]) rfl k') ?_
    show G (T258.setTop (mkF m 6 #[.val (.ref r0), .val (.ref r1), .val (.int u2), .val (.ref r3), .val (.int (1 : Int32)), .unset, .unset, .unset, .unset, .unset, .unset, .unset] []))
    refine go _ _ (fun t' k' => XS.aloadN X258h.here hx rfl (hb hby d4_6) rfl rfl  k') ?_
    show G (T258.setTop (mkF m 7 #[.val (.ref r0), .val (.ref r1), .val (.int u2), .val (.ref r3), .val (.int (1 : Int32)), .unset, .unset, .unset, .unset, .unset, .unset, .unset] [(.ref r3)]))
    refine go _ _ (fun t' k' => XS.iconst X258h.here hx rfl (hb hby d4_7) k') ?_
    show G (T258.setTop (mkF m 8 #[.val (.ref r0), .val (.ref r1), .val (.int u2), .val (.ref r3), .val (.int (1 : Int32)), .unset, .unset, .unset, .unset, .unset, .unset, .unset] [(.int (0 : Int32)), (.ref r3)]))
    have f265 := (As.keep K258 (ninS n30 nin0))
    refine own_iaload go X258h hx hZ rfl 0 rfl (by decide) (g := (mkF m 8 #[.val (.ref r0), .val (.ref r1), .val (.int u2), .val (.ref r3), .val (.int (1 : Int32)), .unset, .unset, .unset, .unset, .unset, .unset, .unset] [(.int (0 : Int32)), (.ref r3)])) rfl f265 rfl (hb hby d4_8) ?_
    show G (T258.setTop (mkF m 9 #[.val (.ref r0), .val (.ref r1), .val (.int u2), .val (.ref r3), .val (.int (1 : Int32)), .unset, .unset, .unset, .unset, .unset, .unset, .unset] [(.int nx)]))
    refine go _ _ (fun t' k' => XS.istore X258h.here hx rfl (hb hby d4_9) rfl (l' := #[.val (.ref r0), .val (.ref r1), .val (.int u2), .val (.ref r3), .val (.int (1 : Int32)), .val (.int nx), .unset, .unset, .unset, .unset, .unset, .unset]) rfl k') ?_
    show G (T258.setTop (mkF m 11 #[.val (.ref r0), .val (.ref r1), .val (.int u2), .val (.ref r3), .val (.int (1 : Int32)), .val (.int nx), .unset, .unset, .unset, .unset, .unset, .unset] []))
    refine go _ _ (fun t' k' => XS.aloadN X258h.here hx rfl (hb hby d4_11) rfl rfl  k') ?_
    show G (T258.setTop (mkF m 12 #[.val (.ref r0), .val (.ref r1), .val (.int u2), .val (.ref r3), .val (.int (1 : Int32)), .val (.int nx), .unset, .unset, .unset, .unset, .unset, .unset] [(.ref r3)]))
    refine go _ _ (fun t' k' => XS.iconst X258h.here hx rfl (hb hby d4_12) k') ?_
    show G (T258.setTop (mkF m 13 #[.val (.ref r0), .val (.ref r1), .val (.int u2), .val (.ref r3), .val (.int (1 : Int32)), .val (.int nx), .unset, .unset, .unset, .unset, .unset, .unset] [(.int (1 : Int32)), (.ref r3)]))
    refine own_iaload go X258h hx hZ rfl 1 rfl (by decide) (g := (mkF m 13 #[.val (.ref r0), .val (.ref r1), .val (.int u2), .val (.ref r3), .val (.int (1 : Int32)), .val (.int nx), .unset, .unset, .unset, .unset, .unset, .unset] [(.int (1 : Int32)), (.ref r3)])) rfl f265 rfl (hb hby d4_13) ?_
    show G (T258.setTop (mkF m 14 #[.val (.ref r0), .val (.ref r1), .val (.int u2), .val (.ref r3), .val (.int (1 : Int32)), .val (.int nx), .unset, .unset, .unset, .unset, .unset, .unset] [(.int nm)]))
    refine go _ _ (fun t' k' => XS.istore X258h.here hx rfl (hb hby d4_14) rfl (l' := #[.val (.ref r0), .val (.ref r1), .val (.int u2), .val (.ref r3), .val (.int (1 : Int32)), .val (.int nx), .val (.int nm), .unset, .unset, .unset, .unset, .unset]) rfl k') ?_
    show G (T258.setTop (mkF m 16 #[.val (.ref r0), .val (.ref r1), .val (.int u2), .val (.ref r3), .val (.int (1 : Int32)), .val (.int nx), .val (.int nm), .unset, .unset, .unset, .unset, .unset] []))
    refine go _ _ (fun t' k' => XS.iload X258h.here hx rfl (hb hby d4_16) rfl  k') ?_
    show G (T258.setTop (mkF m 18 #[.val (.ref r0), .val (.ref r1), .val (.int u2), .val (.ref r3), .val (.int (1 : Int32)), .val (.int nx), .val (.int nm), .unset, .unset, .unset, .unset, .unset] [(.int nx)]))
    refine go _ _ (fun t' k' => XS.iloadN X258h.here hx rfl (hb hby d4_18) rfl  k') ?_
    show G (T258.setTop (mkF m 19 #[.val (.ref r0), .val (.ref r1), .val (.int u2), .val (.ref r3), .val (.int (1 : Int32)), .val (.int nx), .val (.int nm), .unset, .unset, .unset, .unset, .unset] [(.int u2), (.int nx)]))
    refine go _ _ (fun t' k' => XS.icmpYes X258h.here hx rfl (pc0 := 19) (pc' := 41) rfl (hb hby d4_19) rfl (Free.XT.ii_lt_t ((own_lt hnx hln).mpr hk)) (by decide) (by decide) k') ?_
    show G (T258.setTop (mkF m 41 #[.val (.ref r0), .val (.ref r1), .val (.int u2), .val (.ref r3), .val (.int (1 : Int32)), .val (.int nx), .val (.int nm), .unset, .unset, .unset, .unset, .unset] []))
    refine go _ _ (fun t' k' => XS.aloadN X258h.here hx rfl (hb hby d4_41) rfl rfl  k') ?_
    show G (T258.setTop (mkF m 42 #[.val (.ref r0), .val (.ref r1), .val (.int u2), .val (.ref r3), .val (.int (1 : Int32)), .val (.int nx), .val (.int nm), .unset, .unset, .unset, .unset, .unset] [(.ref r0)]))
    refine own_virtual go X258h hx hZ rfl hown (hw _ (List.mem_of_getElem? (i := 30) rfl)) (hw _ (List.mem_of_getElem? (i := 31) rfl)) (notFace_of_selects (args := #[]) (mvT hZ (hw _ (List.mem_of_getElem? (i := 33) rfl)))) (hw _ (List.mem_of_getElem? (i := 33) rfl)) (hw _ (List.mem_of_getElem? (i := 32) rfl)) (hw _ (List.mem_of_getElem? (i := 8) rfl)) (hw _ (List.mem_of_getElem? (i := 34) rfl)) (by decide) (rm_number l Z a0 hw r0 (nm + (1 : Int32)) T258.heap n0 Z260 B264m) 0 (by decide) (by decide) (by decide) (by decide) B264E (g := (mkF m 42 #[.val (.ref r0), .val (.ref r1), .val (.int u2), .val (.ref r3), .val (.int (1 : Int32)), .val (.int nx), .val (.int nm), .unset, .unset, .unset, .unset, .unset] [(.ref r0)])) rfl (by rw [hml]; rfl) [] [] rfl (lenOf pd_3 rfl) rfl (by show 2 * 0 + _ ≤ _; exact Nat.le_of_eq rfl) (hb hby d4_42) ?_
    intro T266 L266 v266 X266 q266
    obtain ⟨rfl, N266, hh266⟩ := q266
    obtain ⟨lc266, X266h, N266h⟩ := own_hide X266 (Fr.app N258h N266)
    show G (T266.setTop (mkF m 45 #[.val (.ref r0), .val (.ref r1), .val (.int u2), .val (.ref r3), .val (.int (1 : Int32)), .val (.int nx), .val (.int nm), .unset, .unset, .unset, .unset, .unset] [(.int (nm + (1 : Int32)))]))
    refine go _ _ (fun t' k' => XS.istore X266h.here hx rfl (hb hby d4_45) rfl (l' := #[.val (.ref r0), .val (.ref r1), .val (.int u2), .val (.ref r3), .val (.int (1 : Int32)), .val (.int nx), .val (.int nm), .val (.int (nm + (1 : Int32))), .unset, .unset, .unset, .unset]) rfl k') ?_
    show G (T266.setTop (mkF m 47 #[.val (.ref r0), .val (.ref r1), .val (.int u2), .val (.ref r3), .val (.int (1 : Int32)), .val (.int nx), .val (.int nm), .val (.int (nm + (1 : Int32))), .unset, .unset, .unset, .unset] []))
    refine go _ _ (fun t' k' => XS.aloadN X266h.here hx rfl (hb hby d4_47) rfl rfl  k') ?_
    show G (T266.setTop (mkF m 48 #[.val (.ref r0), .val (.ref r1), .val (.int u2), .val (.ref r3), .val (.int (1 : Int32)), .val (.int nx), .val (.int nm), .val (.int (nm + (1 : Int32))), .unset, .unset, .unset, .unset] [(.ref r0)]))
    refine own_virtual go X266h hx hZ hh266 hown (hw _ (List.mem_of_getElem? (i := 41) rfl)) (hw _ (List.mem_of_getElem? (i := 42) rfl)) (notFace_of_selects (args := #[]) (mvT hZ (hw _ (List.mem_of_getElem? (i := 44) rfl)))) (hw _ (List.mem_of_getElem? (i := 44) rfl)) (hw _ (List.mem_of_getElem? (i := 43) rfl)) (hw _ (List.mem_of_getElem? (i := 8) rfl)) (hw _ (List.mem_of_getElem? (i := 45) rfl)) (by decide) (rm_start l Z a0 hw r0 nx T258.heap n0 Z260 B264s) 0 (by decide) (by decide) (by decide) (by decide) B264E (g := (mkF m 48 #[.val (.ref r0), .val (.ref r1), .val (.int u2), .val (.ref r3), .val (.int (1 : Int32)), .val (.int nx), .val (.int nm), .val (.int (nm + (1 : Int32))), .unset, .unset, .unset, .unset] [(.ref r0)])) rfl (by rw [hml]; rfl) [] [] rfl (lenOf pd_3 rfl) rfl (by show 2 * 0 + _ ≤ _; exact Nat.le_of_eq rfl) (hb hby d4_48) ?_
    intro T267 L267 v267 X267 q267
    obtain ⟨rfl, N267, hh267⟩ := q267
    obtain ⟨lc267, X267h, N267h⟩ := own_hide X267 (Fr.app N266h N267)
    show G (T267.setTop (mkF m 51 #[.val (.ref r0), .val (.ref r1), .val (.int u2), .val (.ref r3), .val (.int (1 : Int32)), .val (.int nx), .val (.int nm), .val (.int (nm + (1 : Int32))), .unset, .unset, .unset, .unset] [(.int nx)]))
    refine go _ _ (fun t' k' => XS.istore X267h.here hx rfl (hb hby d4_51) rfl (l' := #[.val (.ref r0), .val (.ref r1), .val (.int u2), .val (.ref r3), .val (.int (1 : Int32)), .val (.int nx), .val (.int nm), .val (.int (nm + (1 : Int32))), .val (.int nx), .unset, .unset, .unset]) rfl k') ?_
    show G (T267.setTop (mkF m 53 #[.val (.ref r0), .val (.ref r1), .val (.int u2), .val (.ref r3), .val (.int (1 : Int32)), .val (.int nx), .val (.int nm), .val (.int (nm + (1 : Int32))), .val (.int nx), .unset, .unset, .unset] []))
    refine go _ _ (fun t' k' => XS.aloadN X267h.here hx rfl (hb hby d4_53) rfl rfl  k') ?_
    show G (T267.setTop (mkF m 54 #[.val (.ref r0), .val (.ref r1), .val (.int u2), .val (.ref r3), .val (.int (1 : Int32)), .val (.int nx), .val (.int nm), .val (.int (nm + (1 : Int32))), .val (.int nx), .unset, .unset, .unset] [(.ref r0)]))
    refine own_virtual go X267h hx hZ hh267 hown (hw _ (List.mem_of_getElem? (i := 46) rfl)) (hw _ (List.mem_of_getElem? (i := 47) rfl)) (notFace_of_selects (args := #[]) (mvT hZ (hw _ (List.mem_of_getElem? (i := 49) rfl)))) (hw _ (List.mem_of_getElem? (i := 49) rfl)) (hw _ (List.mem_of_getElem? (i := 48) rfl)) (hw _ (List.mem_of_getElem? (i := 8) rfl)) (hw _ (List.mem_of_getElem? (i := 50) rfl)) (by decide) (rm_end l Z a0 hw r0 en2 T258.heap n0 Z260 B264e) 0 (by decide) (by decide) (by decide) (by decide) B264E (g := (mkF m 54 #[.val (.ref r0), .val (.ref r1), .val (.int u2), .val (.ref r3), .val (.int (1 : Int32)), .val (.int nx), .val (.int nm), .val (.int (nm + (1 : Int32))), .val (.int nx), .unset, .unset, .unset] [(.ref r0)])) rfl (by rw [hml]; rfl) [] [] rfl (lenOf pd_3 rfl) rfl (by show 2 * 0 + _ ≤ _; exact Nat.le_of_eq rfl) (hb hby d4_54) ?_
    intro T268 L268 v268 X268 q268
    obtain ⟨rfl, N268, hh268⟩ := q268
    obtain ⟨lc268, X268h, N268h⟩ := own_hide X268 (Fr.app N267h N268)
    show G (T268.setTop (mkF m 57 #[.val (.ref r0), .val (.ref r1), .val (.int u2), .val (.ref r3), .val (.int (1 : Int32)), .val (.int nx), .val (.int nm), .val (.int (nm + (1 : Int32))), .val (.int nx), .unset, .unset, .unset] [(.int en2)]))
    refine go _ _ (fun t' k' => XS.istore X268h.here hx rfl (hb hby d4_57) rfl (l' := #[.val (.ref r0), .val (.ref r1), .val (.int u2), .val (.ref r3), .val (.int (1 : Int32)), .val (.int nx), .val (.int nm), .val (.int (nm + (1 : Int32))), .val (.int nx), .val (.int en2), .unset, .unset]) rfl k') ?_
    show G (T268.setTop (mkF m 59 #[.val (.ref r0), .val (.ref r1), .val (.int u2), .val (.ref r3), .val (.int (1 : Int32)), .val (.int nx), .val (.int nm), .val (.int (nm + (1 : Int32))), .val (.int nx), .val (.int en2), .unset, .unset] []))
    refine go _ _ (fun t' k' => XS.iload X268h.here hx rfl (hb hby d4_59) rfl  k') ?_
    show G (T268.setTop (mkF m 61 #[.val (.ref r0), .val (.ref r1), .val (.int u2), .val (.ref r3), .val (.int (1 : Int32)), .val (.int nx), .val (.int nm), .val (.int (nm + (1 : Int32))), .val (.int nx), .val (.int en2), .unset, .unset] [(.int (1 : Int32))]))
    refine go _ _ (fun t' k' => XS.ifNo X268h.here hx rfl (hb hby d4_61) rfl (Free.XT.i0_eq_f (by decide)) k') ?_
    show G (T268.setTop (mkF m 64 #[.val (.ref r0), .val (.ref r1), .val (.int u2), .val (.ref r3), .val (.int (1 : Int32)), .val (.int nx), .val (.int nm), .val (.int (nm + (1 : Int32))), .val (.int nx), .val (.int en2), .unset, .unset] []))
    refine go _ _ (fun t' k' => XS.iload X268h.here hx rfl (hb hby d4_64) rfl  k') ?_
    show G (T268.setTop (mkF m 66 #[.val (.ref r0), .val (.ref r1), .val (.int u2), .val (.ref r3), .val (.int (1 : Int32)), .val (.int nx), .val (.int nm), .val (.int (nm + (1 : Int32))), .val (.int nx), .val (.int en2), .unset, .unset] [(.int (nm + (1 : Int32)))]))
    refine go _ _ (fun t' k' => XS.iload X268h.here hx rfl (hb hby d4_66) rfl  k') ?_
    show G (T268.setTop (mkF m 68 #[.val (.ref r0), .val (.ref r1), .val (.int u2), .val (.ref r3), .val (.int (1 : Int32)), .val (.int nx), .val (.int nm), .val (.int (nm + (1 : Int32))), .val (.int nx), .val (.int en2), .unset, .unset] [(.int nm), (.int (nm + (1 : Int32)))]))
    refine go _ _ (fun t' k' => XS.iconst X268h.here hx rfl (hb hby d4_68) k') ?_
    show G (T268.setTop (mkF m 69 #[.val (.ref r0), .val (.ref r1), .val (.int u2), .val (.ref r3), .val (.int (1 : Int32)), .val (.int nx), .val (.int nm), .val (.int (nm + (1 : Int32))), .val (.int nx), .val (.int en2), .unset, .unset] [(.int (1 : Int32)), (.int nm), (.int (nm + (1 : Int32)))]))
    refine go _ _ (fun t' k' => XS.iadd X268h.here hx rfl (hb hby d4_69) rfl k') ?_
    show G (T268.setTop (mkF m 70 #[.val (.ref r0), .val (.ref r1), .val (.int u2), .val (.ref r3), .val (.int (1 : Int32)), .val (.int nx), .val (.int nm), .val (.int (nm + (1 : Int32))), .val (.int nx), .val (.int en2), .unset, .unset] [(.int (nm + (1 : Int32))), (.int (nm + (1 : Int32)))]))
    refine go _ _ (fun t' k' => XS.icmpNo X268h.here hx rfl (hb hby d4_70) rfl (Free.XT.ii_ne_f rfl) k') ?_
    show G (T268.setTop (mkF m 73 #[.val (.ref r0), .val (.ref r1), .val (.int u2), .val (.ref r3), .val (.int (1 : Int32)), .val (.int nx), .val (.int nm), .val (.int (nm + (1 : Int32))), .val (.int nx), .val (.int en2), .unset, .unset] []))
    refine go _ _ (fun t' k' => XS.iload X268h.here hx rfl (hb hby d4_73) rfl  k') ?_
    show G (T268.setTop (mkF m 75 #[.val (.ref r0), .val (.ref r1), .val (.int u2), .val (.ref r3), .val (.int (1 : Int32)), .val (.int nx), .val (.int nm), .val (.int (nm + (1 : Int32))), .val (.int nx), .val (.int en2), .unset, .unset] [(.int nx)]))
    refine go _ _ (fun t' k' => XS.iload X268h.here hx rfl (hb hby d4_75) rfl  k') ?_
    show G (T268.setTop (mkF m 77 #[.val (.ref r0), .val (.ref r1), .val (.int u2), .val (.ref r3), .val (.int (1 : Int32)), .val (.int nx), .val (.int nm), .val (.int (nm + (1 : Int32))), .val (.int nx), .val (.int en2), .unset, .unset] [(.int nx), (.int nx)]))
    refine go _ _ (fun t' k' => XS.icmpNo X268h.here hx rfl (hb hby d4_77) rfl (Free.XT.ii_ne_f rfl) k') ?_
    show G (T268.setTop (mkF m 80 #[.val (.ref r0), .val (.ref r1), .val (.int u2), .val (.ref r3), .val (.int (1 : Int32)), .val (.int nx), .val (.int nm), .val (.int (nm + (1 : Int32))), .val (.int nx), .val (.int en2), .unset, .unset] []))
    refine go _ _ (fun t' k' => XS.iload X268h.here hx rfl (hb hby d4_80) rfl  k') ?_
    show G (T268.setTop (mkF m 82 #[.val (.ref r0), .val (.ref r1), .val (.int u2), .val (.ref r3), .val (.int (1 : Int32)), .val (.int nx), .val (.int nm), .val (.int (nm + (1 : Int32))), .val (.int nx), .val (.int en2), .unset, .unset] [(.int nx)]))
    refine go _ _ (fun t' k' => XS.iload X268h.here hx rfl (hb hby d4_82) rfl  k') ?_
    show G (T268.setTop (mkF m 84 #[.val (.ref r0), .val (.ref r1), .val (.int u2), .val (.ref r3), .val (.int (1 : Int32)), .val (.int nx), .val (.int nm), .val (.int (nm + (1 : Int32))), .val (.int nx), .val (.int en2), .unset, .unset] [(.int en2), (.int nx)]))
    refine go _ _ (fun t' k' => XS.icmpNo X268h.here hx rfl (hb hby d4_84) rfl (Free.XT.ii_gt_f ((not_congr (own_lt he2 hnx)).mpr (by omega))) k') ?_
    show G (T268.setTop (mkF m 87 #[.val (.ref r0), .val (.ref r1), .val (.int u2), .val (.ref r3), .val (.int (1 : Int32)), .val (.int nx), .val (.int nm), .val (.int (nm + (1 : Int32))), .val (.int nx), .val (.int en2), .unset, .unset] []))
    refine go _ _ (fun t' k' => XS.iload X268h.here hx rfl (hb hby d4_87) rfl  k') ?_
    show G (T268.setTop (mkF m 89 #[.val (.ref r0), .val (.ref r1), .val (.int u2), .val (.ref r3), .val (.int (1 : Int32)), .val (.int nx), .val (.int nm), .val (.int (nm + (1 : Int32))), .val (.int nx), .val (.int en2), .unset, .unset] [(.int en2)]))
    refine go _ _ (fun t' k' => XS.iloadN X268h.here hx rfl (hb hby d4_89) rfl  k') ?_
    show G (T268.setTop (mkF m 90 #[.val (.ref r0), .val (.ref r1), .val (.int u2), .val (.ref r3), .val (.int (1 : Int32)), .val (.int nx), .val (.int nm), .val (.int (nm + (1 : Int32))), .val (.int nx), .val (.int en2), .unset, .unset] [(.int u2), (.int en2)]))
    refine go _ _ (fun t' k' => XS.icmpNo X268h.here hx rfl (hb hby d4_90) rfl (Free.XT.ii_gt_f ((not_congr (own_lt hln he2)).mpr (by omega))) k') ?_
    show G (T268.setTop (mkF m 93 #[.val (.ref r0), .val (.ref r1), .val (.int u2), .val (.ref r3), .val (.int (1 : Int32)), .val (.int nx), .val (.int nm), .val (.int (nm + (1 : Int32))), .val (.int nx), .val (.int en2), .unset, .unset] []))
    refine go _ _ (fun t' k' => XS.aloadN X268h.here hx rfl (hb hby d4_93) rfl rfl  k') ?_
    show G (T268.setTop (mkF m 94 #[.val (.ref r0), .val (.ref r1), .val (.int u2), .val (.ref r3), .val (.int (1 : Int32)), .val (.int nx), .val (.int nm), .val (.int (nm + (1 : Int32))), .val (.int nx), .val (.int en2), .unset, .unset] [(.ref r1)]))
    refine go _ _ (fun t' k' => XS.iload X268h.here hx rfl (hb hby d4_94) rfl  k') ?_
    show G (T268.setTop (mkF m 96 #[.val (.ref r0), .val (.ref r1), .val (.int u2), .val (.ref r3), .val (.int (1 : Int32)), .val (.int nx), .val (.int nm), .val (.int (nm + (1 : Int32))), .val (.int nx), .val (.int en2), .unset, .unset] [(.int nx), (.ref r1)]))
    refine go _ _ (fun t' k' => XS.iload X268h.here hx rfl (hb hby d4_96) rfl  k') ?_
    show G (T268.setTop (mkF m 98 #[.val (.ref r0), .val (.ref r1), .val (.int u2), .val (.ref r3), .val (.int (1 : Int32)), .val (.int nx), .val (.int nm), .val (.int (nm + (1 : Int32))), .val (.int nx), .val (.int en2), .unset, .unset] [(.int en2), (.int nx), (.ref r1)]))
    have f269 := (A.keep K258 (ninS n10 nin0))
    refine own_static go X268h hx hZ hh268 hown (hw _ (List.mem_of_getElem? (i := 51) rfl)) (hw _ (List.mem_of_getElem? (i := 52) rfl)) (hw _ (List.mem_of_getElem? (i := 3) rfl)) (hw _ (List.mem_of_getElem? (i := 53) rfl)) (by decide) (rm6 l Z a0 hw r1 nx en2 g T258.heap n0 Z260 f269 (own_nb3 hnx he2 hnb)) 0 (by decide) (by decide) (by decide) (by decide) (g := (mkF m 98 #[.val (.ref r0), .val (.ref r1), .val (.int u2), .val (.ref r3), .val (.int (1 : Int32)), .val (.int nx), .val (.int nm), .val (.int (nm + (1 : Int32))), .val (.int nx), .val (.int en2), .unset, .unset] [(.int en2), (.int nx), (.ref r1)])) rfl (by rw [hml]; rfl) [(.ref r1), (.int nx), (.int en2)] [] rfl (lenOf pd_4 rfl) rfl (by show 2 * 0 + _ ≤ _; exact Nat.le_of_eq rfl) (hb hby d4_98) ?_
    intro T270 L270 v270 X270 q270
    obtain ⟨rfl, N270, hh270⟩ := q270
    obtain ⟨lc270, X270h, N270h⟩ := own_hide X270 (Fr.app N268h N270)
    show G (T270.setTop (mkF m 101 #[.val (.ref r0), .val (.ref r1), .val (.int u2), .val (.ref r3), .val (.int (1 : Int32)), .val (.int nx), .val (.int nm), .val (.int (nm + (1 : Int32))), .val (.int nx), .val (.int en2), .unset, .unset] [(.int (1 : Int32))]))
    refine go _ _ (fun t' k' => XS.ifNo X270h.here hx rfl (hb hby d4_101) rfl (Free.XT.i0_eq_f (by decide)) k') ?_
    show G (T270.setTop (mkF m 104 #[.val (.ref r0), .val (.ref r1), .val (.int u2), .val (.ref r3), .val (.int (1 : Int32)), .val (.int nx), .val (.int nm), .val (.int (nm + (1 : Int32))), .val (.int nx), .val (.int en2), .unset, .unset] []))
    refine go _ _ (fun t' k' => XS.iload X270h.here hx rfl (hb hby d4_104) rfl  k') ?_
    show G (T270.setTop (mkF m 106 #[.val (.ref r0), .val (.ref r1), .val (.int u2), .val (.ref r3), .val (.int (1 : Int32)), .val (.int nx), .val (.int nm), .val (.int (nm + (1 : Int32))), .val (.int nx), .val (.int en2), .unset, .unset] [(.int en2)]))
    refine go _ _ (fun t' k' => XS.iloadN X270h.here hx rfl (hb hby d4_106) rfl  k') ?_
    show G (T270.setTop (mkF m 107 #[.val (.ref r0), .val (.ref r1), .val (.int u2), .val (.ref r3), .val (.int (1 : Int32)), .val (.int nx), .val (.int nm), .val (.int (nm + (1 : Int32))), .val (.int nx), .val (.int en2), .unset, .unset] [(.int u2), (.int en2)]))
    by_cases c271 : en2 = u2
    · refine go _ _ (fun t' k' => XS.icmpYes X270h.here hx rfl (pc0 := 107) (pc' := 120) rfl (hb hby d4_107) rfl (Free.XT.ii_eq_t c271) (by decide) (by decide) k') ?_
      show G (T270.setTop (mkF m 120 #[.val (.ref r0), .val (.ref r1), .val (.int u2), .val (.ref r3), .val (.int (1 : Int32)), .val (.int nx), .val (.int nm), .val (.int (nm + (1 : Int32))), .val (.int nx), .val (.int en2), .unset, .unset] []))
      refine go _ _ (fun t' k' => XS.iconst X270h.here hx rfl (hb hby d4_120) k') ?_
      show G (T270.setTop (mkF m 121 #[.val (.ref r0), .val (.ref r1), .val (.int u2), .val (.ref r3), .val (.int (1 : Int32)), .val (.int nx), .val (.int nm), .val (.int (nm + (1 : Int32))), .val (.int nx), .val (.int en2), .unset, .unset] [(.int (1 : Int32))]))
      refine go _ _ (fun t' k' => XS.goto X270h.here hx rfl (pc0 := 121) (pc' := 125) rfl (hb hby d4_121) (by decide) (by decide) k') ?_
      show G (T270.setTop (mkF m 125 #[.val (.ref r0), .val (.ref r1), .val (.int u2), .val (.ref r3), .val (.int (1 : Int32)), .val (.int nx), .val (.int nm), .val (.int (nm + (1 : Int32))), .val (.int nx), .val (.int en2), .unset, .unset] [(.int (1 : Int32))]))
      refine go _ _ (fun t' k' => XS.istore X270h.here hx rfl (hb hby d4_125) rfl (l' := #[.val (.ref r0), .val (.ref r1), .val (.int u2), .val (.ref r3), .val (.int (1 : Int32)), .val (.int nx), .val (.int nm), .val (.int (nm + (1 : Int32))), .val (.int nx), .val (.int en2), .val (.int (1 : Int32)), .unset]) rfl k') ?_
      show G (T270.setTop (mkF m 127 #[.val (.ref r0), .val (.ref r1), .val (.int u2), .val (.ref r3), .val (.int (1 : Int32)), .val (.int nx), .val (.int nm), .val (.int (nm + (1 : Int32))), .val (.int nx), .val (.int en2), .val (.int (1 : Int32)), .unset] []))
      refine go _ _ (fun t' k' => XS.iload X270h.here hx rfl (hb hby d4_127) rfl  k') ?_
      show G (T270.setTop (mkF m 129 #[.val (.ref r0), .val (.ref r1), .val (.int u2), .val (.ref r3), .val (.int (1 : Int32)), .val (.int nx), .val (.int nm), .val (.int (nm + (1 : Int32))), .val (.int nx), .val (.int en2), .val (.int (1 : Int32)), .unset] [(.int (1 : Int32))]))
      refine go _ _ (fun t' k' => XS.ifYes X270h.here hx rfl (pc0 := 129) (pc' := 137) rfl (hb hby d4_129) rfl (Free.XT.i0_ne_t (by decide)) (by decide) (by decide) k') ?_
      show G (T270.setTop (mkF m 137 #[.val (.ref r0), .val (.ref r1), .val (.int u2), .val (.ref r3), .val (.int (1 : Int32)), .val (.int nx), .val (.int nm), .val (.int (nm + (1 : Int32))), .val (.int nx), .val (.int en2), .val (.int (1 : Int32)), .unset] []))
      refine go _ _ (fun t' k' => XS.iload X270h.here hx rfl (hb hby d4_137) rfl  k') ?_
      show G (T270.setTop (mkF m 139 #[.val (.ref r0), .val (.ref r1), .val (.int u2), .val (.ref r3), .val (.int (1 : Int32)), .val (.int nx), .val (.int nm), .val (.int (nm + (1 : Int32))), .val (.int nx), .val (.int en2), .val (.int (1 : Int32)), .unset] [(.int en2)]))
      refine go _ _ (fun t' k' => XS.iloadN X270h.here hx rfl (hb hby d4_139) rfl  k') ?_
      show G (T270.setTop (mkF m 140 #[.val (.ref r0), .val (.ref r1), .val (.int u2), .val (.ref r3), .val (.int (1 : Int32)), .val (.int nx), .val (.int nm), .val (.int (nm + (1 : Int32))), .val (.int nx), .val (.int en2), .val (.int (1 : Int32)), .unset] [(.int u2), (.int en2)]))
      refine go _ _ (fun t' k' => XS.icmpNo X270h.here hx rfl (hb hby d4_140) rfl (Free.XT.ii_ne_f c271) k') ?_
      show G (T270.setTop (mkF m 143 #[.val (.ref r0), .val (.ref r1), .val (.int u2), .val (.ref r3), .val (.int (1 : Int32)), .val (.int nx), .val (.int nm), .val (.int (nm + (1 : Int32))), .val (.int nx), .val (.int en2), .val (.int (1 : Int32)), .unset] []))
      refine go _ _ (fun t' k' => XS.iconst X270h.here hx rfl (hb hby d4_143) k') ?_
      show G (T270.setTop (mkF m 144 #[.val (.ref r0), .val (.ref r1), .val (.int u2), .val (.ref r3), .val (.int (1 : Int32)), .val (.int nx), .val (.int nm), .val (.int (nm + (1 : Int32))), .val (.int nx), .val (.int en2), .val (.int (1 : Int32)), .unset] [(.int (0 : Int32))]))
      refine go _ _ (fun t' k' => XS.istore X270h.here hx rfl (hb hby d4_144) rfl (l' := #[.val (.ref r0), .val (.ref r1), .val (.int u2), .val (.ref r3), .val (.int (1 : Int32)), .val (.int nx), .val (.int nm), .val (.int (nm + (1 : Int32))), .val (.int nx), .val (.int en2), .val (.int (1 : Int32)), .val (.int (0 : Int32))]) rfl k') ?_
      show G (T270.setTop (mkF m 146 #[.val (.ref r0), .val (.ref r1), .val (.int u2), .val (.ref r3), .val (.int (1 : Int32)), .val (.int nx), .val (.int nm), .val (.int (nm + (1 : Int32))), .val (.int nx), .val (.int en2), .val (.int (1 : Int32)), .val (.int (0 : Int32))] []))
      refine go _ _ (fun t' k' => XS.goto X270h.here hx rfl (pc0 := 146) (pc' := 192) rfl (hb hby d4_146) (by decide) (by decide) k') ?_
      show G (T270.setTop (mkF m 192 #[.val (.ref r0), .val (.ref r1), .val (.int u2), .val (.ref r3), .val (.int (1 : Int32)), .val (.int nx), .val (.int nm), .val (.int (nm + (1 : Int32))), .val (.int nx), .val (.int en2), .val (.int (1 : Int32)), .val (.int (0 : Int32))] []))
      have hq : (en2 + (0 : Int32)).toInt = nxt g ln e2 := by
        have w1 := (own_eq he2 hln).mp c271
        rw [nxA w1]; exact own_inc0 he2
      refine go _ _ (fun t' k' => XS.aloadN X270h.here hx rfl (hb hby d4_192) rfl rfl  k') ?_
      show G (T270.setTop (mkF m 193 #[.val (.ref r0), .val (.ref r1), .val (.int u2), .val (.ref r3), .val (.int (1 : Int32)), .val (.int nx), .val (.int nm), .val (.int (nm + (1 : Int32))), .val (.int nx), .val (.int en2), .val (.int (1 : Int32)), .val (.int (0 : Int32))] [(.ref r3)]))
      refine go _ _ (fun t' k' => XS.iconst X270h.here hx rfl (hb hby d4_193) k') ?_
      show G (T270.setTop (mkF m 194 #[.val (.ref r0), .val (.ref r1), .val (.int u2), .val (.ref r3), .val (.int (1 : Int32)), .val (.int nx), .val (.int nm), .val (.int (nm + (1 : Int32))), .val (.int nx), .val (.int en2), .val (.int (1 : Int32)), .val (.int (0 : Int32))] [(.int (0 : Int32)), (.ref r3)]))
      refine go _ _ (fun t' k' => XS.iload X270h.here hx rfl (hb hby d4_194) rfl  k') ?_
      show G (T270.setTop (mkF m 196 #[.val (.ref r0), .val (.ref r1), .val (.int u2), .val (.ref r3), .val (.int (1 : Int32)), .val (.int nx), .val (.int nm), .val (.int (nm + (1 : Int32))), .val (.int nx), .val (.int en2), .val (.int (1 : Int32)), .val (.int (0 : Int32))] [(.int en2), (.int (0 : Int32)), (.ref r3)]))
      refine go _ _ (fun t' k' => XS.iload X270h.here hx rfl (hb hby d4_196) rfl  k') ?_
      show G (T270.setTop (mkF m 198 #[.val (.ref r0), .val (.ref r1), .val (.int u2), .val (.ref r3), .val (.int (1 : Int32)), .val (.int nx), .val (.int nm), .val (.int (nm + (1 : Int32))), .val (.int nx), .val (.int en2), .val (.int (1 : Int32)), .val (.int (0 : Int32))] [(.int (0 : Int32)), (.int en2), (.int (0 : Int32)), (.ref r3)]))
      refine go _ _ (fun t' k' => XS.iadd X270h.here hx rfl (hb hby d4_198) rfl k') ?_
      show G (T270.setTop (mkF m 199 #[.val (.ref r0), .val (.ref r1), .val (.int u2), .val (.ref r3), .val (.int (1 : Int32)), .val (.int nx), .val (.int nm), .val (.int (nm + (1 : Int32))), .val (.int nx), .val (.int en2), .val (.int (1 : Int32)), .val (.int (0 : Int32))] [(.int (en2 + (0 : Int32))), (.int (0 : Int32)), (.ref r3)]))
      refine own_iastore go X270h hx hZ hh270 0 rfl (by decide) (g := (mkF m 199 #[.val (.ref r0), .val (.ref r1), .val (.int u2), .val (.ref r3), .val (.int (1 : Int32)), .val (.int nx), .val (.int nm), .val (.int (nm + (1 : Int32))), .val (.int nx), .val (.int en2), .val (.int (1 : Int32)), .val (.int (0 : Int32))] [(.int (en2 + (0 : Int32))), (.int (0 : Int32)), (.ref r3)])) rfl f265 rfl (hb hby d4_199) ?_
      intro T272 h272 X272 e272 W272 A272
      have K273 : Keep h0 h272 [r0, r3] := K259.wr W272 (Or.inl (List.mem_of_getElem? (i := 1) rfl))
      obtain ⟨lc272, X272h, N272h⟩ := own_hide X272 (Fr.snoc X272 N270h g_r3)
      have Z274 : n0 ≤ h272.size := Nat.le_trans Z260 (Nat.le_of_eq W272.size.symm)
      show G (T272.setTop (mkF m 200 #[.val (.ref r0), .val (.ref r1), .val (.int u2), .val (.ref r3), .val (.int (1 : Int32)), .val (.int nx), .val (.int nm), .val (.int (nm + (1 : Int32))), .val (.int nx), .val (.int en2), .val (.int (1 : Int32)), .val (.int (0 : Int32))] []))
      have hxx : en2 + (0 : Int32) = nx2 := Int32.toInt_inj.mp (by rw [hq, hnx2])
      refine go _ _ (fun t' k' => XS.aloadN X272h.here hx rfl (hb hby d4_200) rfl rfl  k') ?_
      show G (T272.setTop (mkF m 201 #[.val (.ref r0), .val (.ref r1), .val (.int u2), .val (.ref r3), .val (.int (1 : Int32)), .val (.int nx), .val (.int nm), .val (.int (nm + (1 : Int32))), .val (.int nx), .val (.int en2), .val (.int (1 : Int32)), .val (.int (0 : Int32))] [(.ref r3)]))
      refine go _ _ (fun t' k' => XS.iconst X272h.here hx rfl (hb hby d4_201) k') ?_
      show G (T272.setTop (mkF m 202 #[.val (.ref r0), .val (.ref r1), .val (.int u2), .val (.ref r3), .val (.int (1 : Int32)), .val (.int nx), .val (.int nm), .val (.int (nm + (1 : Int32))), .val (.int nx), .val (.int en2), .val (.int (1 : Int32)), .val (.int (0 : Int32))] [(.int (1 : Int32)), (.ref r3)]))
      refine go _ _ (fun t' k' => XS.iload X272h.here hx rfl (hb hby d4_202) rfl  k') ?_
      show G (T272.setTop (mkF m 204 #[.val (.ref r0), .val (.ref r1), .val (.int u2), .val (.ref r3), .val (.int (1 : Int32)), .val (.int nx), .val (.int nm), .val (.int (nm + (1 : Int32))), .val (.int nx), .val (.int en2), .val (.int (1 : Int32)), .val (.int (0 : Int32))] [(.int nm), (.int (1 : Int32)), (.ref r3)]))
      refine go _ _ (fun t' k' => XS.iconst X272h.here hx rfl (hb hby d4_204) k') ?_
      show G (T272.setTop (mkF m 205 #[.val (.ref r0), .val (.ref r1), .val (.int u2), .val (.ref r3), .val (.int (1 : Int32)), .val (.int nx), .val (.int nm), .val (.int (nm + (1 : Int32))), .val (.int nx), .val (.int en2), .val (.int (1 : Int32)), .val (.int (0 : Int32))] [(.int (1 : Int32)), (.int nm), (.int (1 : Int32)), (.ref r3)]))
      refine go _ _ (fun t' k' => XS.iadd X272h.here hx rfl (hb hby d4_205) rfl k') ?_
      show G (T272.setTop (mkF m 206 #[.val (.ref r0), .val (.ref r1), .val (.int u2), .val (.ref r3), .val (.int (1 : Int32)), .val (.int nx), .val (.int nm), .val (.int (nm + (1 : Int32))), .val (.int nx), .val (.int en2), .val (.int (1 : Int32)), .val (.int (0 : Int32))] [(.int (nm + (1 : Int32))), (.int (1 : Int32)), (.ref r3)]))
      refine own_iastore go X272h hx hZ e272 1 rfl (by decide) (g := (mkF m 206 #[.val (.ref r0), .val (.ref r1), .val (.int u2), .val (.ref r3), .val (.int (1 : Int32)), .val (.int nx), .val (.int nm), .val (.int (nm + (1 : Int32))), .val (.int nx), .val (.int en2), .val (.int (1 : Int32)), .val (.int (0 : Int32))] [(.int (nm + (1 : Int32))), (.int (1 : Int32)), (.ref r3)])) rfl A272 rfl (hb hby d4_206) ?_
      intro T275 h275 X275 e275 W275 A275
      have K276 : Keep h0 h275 [r0, r3] := K273.wr W275 (Or.inl (List.mem_of_getElem? (i := 1) rfl))
      obtain ⟨lc275, X275h, N275h⟩ := own_hide X275 (Fr.snoc X275 N272h g_r3)
      have Z277 : n0 ≤ h275.size := Nat.le_trans Z274 (Nat.le_of_eq W275.size.symm)
      have A275c := A275.cong (g := (fun i => .int (stf nx2 (nm + 1) i))) (own_stf hxx)
      show G (T275.setTop (mkF m 207 #[.val (.ref r0), .val (.ref r1), .val (.int u2), .val (.ref r3), .val (.int (1 : Int32)), .val (.int nx), .val (.int nm), .val (.int (nm + (1 : Int32))), .val (.int nx), .val (.int en2), .val (.int (1 : Int32)), .val (.int (0 : Int32))] []))
      refine own_retV rt X275h hx hret (hb hby d4_207) (by decide) (by decide) ?_
      have f278 := ((B264E.wr W272).wr W275)
      have f279 := ((B264b.other W272 (Or.inl (Ne.symm n30))).other W275 (Or.inl (Ne.symm n30)))
      have f280 := ((B264L.other W272 (Or.inl (Ne.symm n30))).other W275 (Or.inl (Ne.symm n30)))
      have f281 := ((B264m.other W272 (Or.inl (Ne.symm n30))).other W275 (Or.inl (Ne.symm n30)))
      have f282 := ((B264s.other W272 (Or.inl (Ne.symm n30))).other W275 (Or.inl (Ne.symm n30)))
      have f283 := ((B264e.other W272 (Or.inl (Ne.symm n30))).other W275 (Or.inl (Ne.symm n30)))
      have f284 := ((B264n.other W272 (Or.inl (Ne.symm n30))).other W275 (Or.inl (Ne.symm n30)))
      rw [e275]
      exact ⟨rfl, N275h, K276, _, _, _, _, nxt g ln e2, ⟨f278, f279, f280, f281, f282, f283, f284⟩, hnx2, own_nxt_le hel, A275c⟩
    · refine go _ _ (fun t' k' => XS.icmpNo X270h.here hx rfl (hb hby d4_107) rfl (Free.XT.ii_eq_f c271) k') ?_
      show G (T270.setTop (mkF m 110 #[.val (.ref r0), .val (.ref r1), .val (.int u2), .val (.ref r3), .val (.int (1 : Int32)), .val (.int nx), .val (.int nm), .val (.int (nm + (1 : Int32))), .val (.int nx), .val (.int en2), .unset, .unset] []))
      refine go _ _ (fun t' k' => XS.aloadN X270h.here hx rfl (hb hby d4_110) rfl rfl  k') ?_
      show G (T270.setTop (mkF m 111 #[.val (.ref r0), .val (.ref r1), .val (.int u2), .val (.ref r3), .val (.int (1 : Int32)), .val (.int nx), .val (.int nm), .val (.int (nm + (1 : Int32))), .val (.int nx), .val (.int en2), .unset, .unset] [(.ref r1)]))
      refine go _ _ (fun t' k' => XS.iload X270h.here hx rfl (hb hby d4_111) rfl  k') ?_
      show G (T270.setTop (mkF m 113 #[.val (.ref r0), .val (.ref r1), .val (.int u2), .val (.ref r3), .val (.int (1 : Int32)), .val (.int nx), .val (.int nm), .val (.int (nm + (1 : Int32))), .val (.int nx), .val (.int en2), .unset, .unset] [(.int en2), (.ref r1)]))
      refine own_baload go X270h hx hZ hh270 e2 he2 (by have z := c271; rw [own_eq he2 hln] at z; omega) (g := (mkF m 113 #[.val (.ref r0), .val (.ref r1), .val (.int u2), .val (.ref r3), .val (.int (1 : Int32)), .val (.int nx), .val (.int nm), .val (.int (nm + (1 : Int32))), .val (.int nx), .val (.int en2), .unset, .unset] [(.int en2), (.ref r1)])) rfl f269 rfl (hb hby d4_113) ?_
      show G (T270.setTop (mkF m 114 #[.val (.ref r0), .val (.ref r1), .val (.int u2), .val (.ref r3), .val (.int (1 : Int32)), .val (.int nx), .val (.int nm), .val (.int (nm + (1 : Int32))), .val (.int nx), .val (.int en2), .unset, .unset] [(.int (g e2))]))
      refine own_static go X270h hx hZ hh270 hown (hw _ (List.mem_of_getElem? (i := 57) rfl)) (hw _ (List.mem_of_getElem? (i := 58) rfl)) (hw _ (List.mem_of_getElem? (i := 3) rfl)) (hw _ (List.mem_of_getElem? (i := 59) rfl)) (by decide) (rm4 l Z a0 hw (g e2) T258.heap n0 Z260) 0 (by decide) (by decide) (by decide) (by decide) (g := (mkF m 114 #[.val (.ref r0), .val (.ref r1), .val (.int u2), .val (.ref r3), .val (.int (1 : Int32)), .val (.int nx), .val (.int nm), .val (.int (nm + (1 : Int32))), .val (.int nx), .val (.int en2), .unset, .unset] [(.int (g e2))])) rfl (by rw [hml]; rfl) [(.int (g e2))] [] rfl (lenOf pd_0 rfl) rfl (by show 2 * 0 + _ ≤ _; exact Nat.le_of_eq rfl) (hb hby d4_114) ?_
      intro T285 L285 v285 X285 q285
      obtain ⟨rfl, N285, hh285⟩ := q285
      obtain ⟨lc285, X285h, N285h⟩ := own_hide X285 (Fr.app N270h N285)
      show G (T285.setTop (mkF m 117 #[.val (.ref r0), .val (.ref r1), .val (.int u2), .val (.ref r3), .val (.int (1 : Int32)), .val (.int nx), .val (.int nm), .val (.int (nm + (1 : Int32))), .val (.int nx), .val (.int en2), .unset, .unset] [(.int (if brk (g e2) then (1 : Int32) else 0))]))
      refine go _ _ (fun t' k' => XS.ifNo X285h.here hx rfl (hb hby d4_117) rfl (Free.XT.i0_eq_f (by rw [if_pos (hbr.resolve_left (by have z := c271; rw [own_eq he2 hln] at z; exact z))]; decide)) k') ?_
      show G (T285.setTop (mkF m 120 #[.val (.ref r0), .val (.ref r1), .val (.int u2), .val (.ref r3), .val (.int (1 : Int32)), .val (.int nx), .val (.int nm), .val (.int (nm + (1 : Int32))), .val (.int nx), .val (.int en2), .unset, .unset] []))
      refine go _ _ (fun t' k' => XS.iconst X285h.here hx rfl (hb hby d4_120) k') ?_
      show G (T285.setTop (mkF m 121 #[.val (.ref r0), .val (.ref r1), .val (.int u2), .val (.ref r3), .val (.int (1 : Int32)), .val (.int nx), .val (.int nm), .val (.int (nm + (1 : Int32))), .val (.int nx), .val (.int en2), .unset, .unset] [(.int (1 : Int32))]))
      refine go _ _ (fun t' k' => XS.goto X285h.here hx rfl (pc0 := 121) (pc' := 125) rfl (hb hby d4_121) (by decide) (by decide) k') ?_
      show G (T285.setTop (mkF m 125 #[.val (.ref r0), .val (.ref r1), .val (.int u2), .val (.ref r3), .val (.int (1 : Int32)), .val (.int nx), .val (.int nm), .val (.int (nm + (1 : Int32))), .val (.int nx), .val (.int en2), .unset, .unset] [(.int (1 : Int32))]))
      refine go _ _ (fun t' k' => XS.istore X285h.here hx rfl (hb hby d4_125) rfl (l' := #[.val (.ref r0), .val (.ref r1), .val (.int u2), .val (.ref r3), .val (.int (1 : Int32)), .val (.int nx), .val (.int nm), .val (.int (nm + (1 : Int32))), .val (.int nx), .val (.int en2), .val (.int (1 : Int32)), .unset]) rfl k') ?_
      show G (T285.setTop (mkF m 127 #[.val (.ref r0), .val (.ref r1), .val (.int u2), .val (.ref r3), .val (.int (1 : Int32)), .val (.int nx), .val (.int nm), .val (.int (nm + (1 : Int32))), .val (.int nx), .val (.int en2), .val (.int (1 : Int32)), .unset] []))
      refine go _ _ (fun t' k' => XS.iload X285h.here hx rfl (hb hby d4_127) rfl  k') ?_
      show G (T285.setTop (mkF m 129 #[.val (.ref r0), .val (.ref r1), .val (.int u2), .val (.ref r3), .val (.int (1 : Int32)), .val (.int nx), .val (.int nm), .val (.int (nm + (1 : Int32))), .val (.int nx), .val (.int en2), .val (.int (1 : Int32)), .unset] [(.int (1 : Int32))]))
      refine go _ _ (fun t' k' => XS.ifYes X285h.here hx rfl (pc0 := 129) (pc' := 137) rfl (hb hby d4_129) rfl (Free.XT.i0_ne_t (by decide)) (by decide) (by decide) k') ?_
      show G (T285.setTop (mkF m 137 #[.val (.ref r0), .val (.ref r1), .val (.int u2), .val (.ref r3), .val (.int (1 : Int32)), .val (.int nx), .val (.int nm), .val (.int (nm + (1 : Int32))), .val (.int nx), .val (.int en2), .val (.int (1 : Int32)), .unset] []))
      refine go _ _ (fun t' k' => XS.iload X285h.here hx rfl (hb hby d4_137) rfl  k') ?_
      show G (T285.setTop (mkF m 139 #[.val (.ref r0), .val (.ref r1), .val (.int u2), .val (.ref r3), .val (.int (1 : Int32)), .val (.int nx), .val (.int nm), .val (.int (nm + (1 : Int32))), .val (.int nx), .val (.int en2), .val (.int (1 : Int32)), .unset] [(.int en2)]))
      refine go _ _ (fun t' k' => XS.iloadN X285h.here hx rfl (hb hby d4_139) rfl  k') ?_
      show G (T285.setTop (mkF m 140 #[.val (.ref r0), .val (.ref r1), .val (.int u2), .val (.ref r3), .val (.int (1 : Int32)), .val (.int nx), .val (.int nm), .val (.int (nm + (1 : Int32))), .val (.int nx), .val (.int en2), .val (.int (1 : Int32)), .unset] [(.int u2), (.int en2)]))
      refine go _ _ (fun t' k' => XS.icmpYes X285h.here hx rfl (pc0 := 140) (pc' := 149) rfl (hb hby d4_140) rfl (Free.XT.ii_ne_t c271) (by decide) (by decide) k') ?_
      show G (T285.setTop (mkF m 149 #[.val (.ref r0), .val (.ref r1), .val (.int u2), .val (.ref r3), .val (.int (1 : Int32)), .val (.int nx), .val (.int nm), .val (.int (nm + (1 : Int32))), .val (.int nx), .val (.int en2), .val (.int (1 : Int32)), .unset] []))
      refine go _ _ (fun t' k' => XS.aloadN X285h.here hx rfl (hb hby d4_149) rfl rfl  k') ?_
      show G (T285.setTop (mkF m 150 #[.val (.ref r0), .val (.ref r1), .val (.int u2), .val (.ref r3), .val (.int (1 : Int32)), .val (.int nx), .val (.int nm), .val (.int (nm + (1 : Int32))), .val (.int nx), .val (.int en2), .val (.int (1 : Int32)), .unset] [(.ref r1)]))
      refine go _ _ (fun t' k' => XS.iload X285h.here hx rfl (hb hby d4_150) rfl  k') ?_
      show G (T285.setTop (mkF m 152 #[.val (.ref r0), .val (.ref r1), .val (.int u2), .val (.ref r3), .val (.int (1 : Int32)), .val (.int nx), .val (.int nm), .val (.int (nm + (1 : Int32))), .val (.int nx), .val (.int en2), .val (.int (1 : Int32)), .unset] [(.int en2), (.ref r1)]))
      refine own_baload go X285h hx hZ hh285 e2 he2 (by have z := c271; rw [own_eq he2 hln] at z; omega) (g := (mkF m 152 #[.val (.ref r0), .val (.ref r1), .val (.int u2), .val (.ref r3), .val (.int (1 : Int32)), .val (.int nx), .val (.int nm), .val (.int (nm + (1 : Int32))), .val (.int nx), .val (.int en2), .val (.int (1 : Int32)), .unset] [(.int en2), (.ref r1)])) rfl f269 rfl (hb hby d4_152) ?_
      show G (T285.setTop (mkF m 153 #[.val (.ref r0), .val (.ref r1), .val (.int u2), .val (.ref r3), .val (.int (1 : Int32)), .val (.int nx), .val (.int nm), .val (.int (nm + (1 : Int32))), .val (.int nx), .val (.int en2), .val (.int (1 : Int32)), .unset] [(.int (g e2))]))
      refine go _ _ (fun t' k' => XS.bipush X285h.here hx rfl (hb hby d4_153) k') ?_
      show G (T285.setTop (mkF m 155 #[.val (.ref r0), .val (.ref r1), .val (.int u2), .val (.ref r3), .val (.int (1 : Int32)), .val (.int nx), .val (.int nm), .val (.int (nm + (1 : Int32))), .val (.int nx), .val (.int en2), .val (.int (1 : Int32)), .unset] [(.int (10 : Int32)), (.int (g e2))]))
      by_cases c286 : (g e2) = (10 : Int32)
      · refine go _ _ (fun t' k' => XS.icmpNo X285h.here hx rfl (hb hby d4_155) rfl (Free.XT.ii_ne_f c286) k') ?_
        show G (T285.setTop (mkF m 158 #[.val (.ref r0), .val (.ref r1), .val (.int u2), .val (.ref r3), .val (.int (1 : Int32)), .val (.int nx), .val (.int nm), .val (.int (nm + (1 : Int32))), .val (.int nx), .val (.int en2), .val (.int (1 : Int32)), .unset] []))
        refine go _ _ (fun t' k' => XS.iconst X285h.here hx rfl (hb hby d4_158) k') ?_
        show G (T285.setTop (mkF m 159 #[.val (.ref r0), .val (.ref r1), .val (.int u2), .val (.ref r3), .val (.int (1 : Int32)), .val (.int nx), .val (.int nm), .val (.int (nm + (1 : Int32))), .val (.int nx), .val (.int en2), .val (.int (1 : Int32)), .unset] [(.int (1 : Int32))]))
        refine go _ _ (fun t' k' => XS.istore X285h.here hx rfl (hb hby d4_159) rfl (l' := #[.val (.ref r0), .val (.ref r1), .val (.int u2), .val (.ref r3), .val (.int (1 : Int32)), .val (.int nx), .val (.int nm), .val (.int (nm + (1 : Int32))), .val (.int nx), .val (.int en2), .val (.int (1 : Int32)), .val (.int (1 : Int32))]) rfl k') ?_
        show G (T285.setTop (mkF m 161 #[.val (.ref r0), .val (.ref r1), .val (.int u2), .val (.ref r3), .val (.int (1 : Int32)), .val (.int nx), .val (.int nm), .val (.int (nm + (1 : Int32))), .val (.int nx), .val (.int en2), .val (.int (1 : Int32)), .val (.int (1 : Int32))] []))
        refine go _ _ (fun t' k' => XS.goto X285h.here hx rfl (pc0 := 161) (pc' := 192) rfl (hb hby d4_161) (by decide) (by decide) k') ?_
        show G (T285.setTop (mkF m 192 #[.val (.ref r0), .val (.ref r1), .val (.int u2), .val (.ref r3), .val (.int (1 : Int32)), .val (.int nx), .val (.int nm), .val (.int (nm + (1 : Int32))), .val (.int nx), .val (.int en2), .val (.int (1 : Int32)), .val (.int (1 : Int32))] []))
        have hq : (en2 + (1 : Int32)).toInt = nxt g ln e2 := by
          have w1 := (not_congr (own_eq he2 hln)).mp c271
          rw [nxB w1 c286]; exact own_inc he2 (by omega)
        refine go _ _ (fun t' k' => XS.aloadN X285h.here hx rfl (hb hby d4_192) rfl rfl  k') ?_
        show G (T285.setTop (mkF m 193 #[.val (.ref r0), .val (.ref r1), .val (.int u2), .val (.ref r3), .val (.int (1 : Int32)), .val (.int nx), .val (.int nm), .val (.int (nm + (1 : Int32))), .val (.int nx), .val (.int en2), .val (.int (1 : Int32)), .val (.int (1 : Int32))] [(.ref r3)]))
        refine go _ _ (fun t' k' => XS.iconst X285h.here hx rfl (hb hby d4_193) k') ?_
        show G (T285.setTop (mkF m 194 #[.val (.ref r0), .val (.ref r1), .val (.int u2), .val (.ref r3), .val (.int (1 : Int32)), .val (.int nx), .val (.int nm), .val (.int (nm + (1 : Int32))), .val (.int nx), .val (.int en2), .val (.int (1 : Int32)), .val (.int (1 : Int32))] [(.int (0 : Int32)), (.ref r3)]))
        refine go _ _ (fun t' k' => XS.iload X285h.here hx rfl (hb hby d4_194) rfl  k') ?_
        show G (T285.setTop (mkF m 196 #[.val (.ref r0), .val (.ref r1), .val (.int u2), .val (.ref r3), .val (.int (1 : Int32)), .val (.int nx), .val (.int nm), .val (.int (nm + (1 : Int32))), .val (.int nx), .val (.int en2), .val (.int (1 : Int32)), .val (.int (1 : Int32))] [(.int en2), (.int (0 : Int32)), (.ref r3)]))
        refine go _ _ (fun t' k' => XS.iload X285h.here hx rfl (hb hby d4_196) rfl  k') ?_
        show G (T285.setTop (mkF m 198 #[.val (.ref r0), .val (.ref r1), .val (.int u2), .val (.ref r3), .val (.int (1 : Int32)), .val (.int nx), .val (.int nm), .val (.int (nm + (1 : Int32))), .val (.int nx), .val (.int en2), .val (.int (1 : Int32)), .val (.int (1 : Int32))] [(.int (1 : Int32)), (.int en2), (.int (0 : Int32)), (.ref r3)]))
        refine go _ _ (fun t' k' => XS.iadd X285h.here hx rfl (hb hby d4_198) rfl k') ?_
        show G (T285.setTop (mkF m 199 #[.val (.ref r0), .val (.ref r1), .val (.int u2), .val (.ref r3), .val (.int (1 : Int32)), .val (.int nx), .val (.int nm), .val (.int (nm + (1 : Int32))), .val (.int nx), .val (.int en2), .val (.int (1 : Int32)), .val (.int (1 : Int32))] [(.int (en2 + (1 : Int32))), (.int (0 : Int32)), (.ref r3)]))
        refine own_iastore go X285h hx hZ hh285 0 rfl (by decide) (g := (mkF m 199 #[.val (.ref r0), .val (.ref r1), .val (.int u2), .val (.ref r3), .val (.int (1 : Int32)), .val (.int nx), .val (.int nm), .val (.int (nm + (1 : Int32))), .val (.int nx), .val (.int en2), .val (.int (1 : Int32)), .val (.int (1 : Int32))] [(.int (en2 + (1 : Int32))), (.int (0 : Int32)), (.ref r3)])) rfl f265 rfl (hb hby d4_199) ?_
        intro T287 h287 X287 e287 W287 A287
        have K288 : Keep h0 h287 [r0, r3] := K259.wr W287 (Or.inl (List.mem_of_getElem? (i := 1) rfl))
        obtain ⟨lc287, X287h, N287h⟩ := own_hide X287 (Fr.snoc X287 N285h g_r3)
        have Z289 : n0 ≤ h287.size := Nat.le_trans Z260 (Nat.le_of_eq W287.size.symm)
        show G (T287.setTop (mkF m 200 #[.val (.ref r0), .val (.ref r1), .val (.int u2), .val (.ref r3), .val (.int (1 : Int32)), .val (.int nx), .val (.int nm), .val (.int (nm + (1 : Int32))), .val (.int nx), .val (.int en2), .val (.int (1 : Int32)), .val (.int (1 : Int32))] []))
        have hxx : en2 + (1 : Int32) = nx2 := Int32.toInt_inj.mp (by rw [hq, hnx2])
        refine go _ _ (fun t' k' => XS.aloadN X287h.here hx rfl (hb hby d4_200) rfl rfl  k') ?_
        show G (T287.setTop (mkF m 201 #[.val (.ref r0), .val (.ref r1), .val (.int u2), .val (.ref r3), .val (.int (1 : Int32)), .val (.int nx), .val (.int nm), .val (.int (nm + (1 : Int32))), .val (.int nx), .val (.int en2), .val (.int (1 : Int32)), .val (.int (1 : Int32))] [(.ref r3)]))
        refine go _ _ (fun t' k' => XS.iconst X287h.here hx rfl (hb hby d4_201) k') ?_
        show G (T287.setTop (mkF m 202 #[.val (.ref r0), .val (.ref r1), .val (.int u2), .val (.ref r3), .val (.int (1 : Int32)), .val (.int nx), .val (.int nm), .val (.int (nm + (1 : Int32))), .val (.int nx), .val (.int en2), .val (.int (1 : Int32)), .val (.int (1 : Int32))] [(.int (1 : Int32)), (.ref r3)]))
        refine go _ _ (fun t' k' => XS.iload X287h.here hx rfl (hb hby d4_202) rfl  k') ?_
        show G (T287.setTop (mkF m 204 #[.val (.ref r0), .val (.ref r1), .val (.int u2), .val (.ref r3), .val (.int (1 : Int32)), .val (.int nx), .val (.int nm), .val (.int (nm + (1 : Int32))), .val (.int nx), .val (.int en2), .val (.int (1 : Int32)), .val (.int (1 : Int32))] [(.int nm), (.int (1 : Int32)), (.ref r3)]))
        refine go _ _ (fun t' k' => XS.iconst X287h.here hx rfl (hb hby d4_204) k') ?_
        show G (T287.setTop (mkF m 205 #[.val (.ref r0), .val (.ref r1), .val (.int u2), .val (.ref r3), .val (.int (1 : Int32)), .val (.int nx), .val (.int nm), .val (.int (nm + (1 : Int32))), .val (.int nx), .val (.int en2), .val (.int (1 : Int32)), .val (.int (1 : Int32))] [(.int (1 : Int32)), (.int nm), (.int (1 : Int32)), (.ref r3)]))
        refine go _ _ (fun t' k' => XS.iadd X287h.here hx rfl (hb hby d4_205) rfl k') ?_
        show G (T287.setTop (mkF m 206 #[.val (.ref r0), .val (.ref r1), .val (.int u2), .val (.ref r3), .val (.int (1 : Int32)), .val (.int nx), .val (.int nm), .val (.int (nm + (1 : Int32))), .val (.int nx), .val (.int en2), .val (.int (1 : Int32)), .val (.int (1 : Int32))] [(.int (nm + (1 : Int32))), (.int (1 : Int32)), (.ref r3)]))
        refine own_iastore go X287h hx hZ e287 1 rfl (by decide) (g := (mkF m 206 #[.val (.ref r0), .val (.ref r1), .val (.int u2), .val (.ref r3), .val (.int (1 : Int32)), .val (.int nx), .val (.int nm), .val (.int (nm + (1 : Int32))), .val (.int nx), .val (.int en2), .val (.int (1 : Int32)), .val (.int (1 : Int32))] [(.int (nm + (1 : Int32))), (.int (1 : Int32)), (.ref r3)])) rfl A287 rfl (hb hby d4_206) ?_
        intro T290 h290 X290 e290 W290 A290
        have K291 : Keep h0 h290 [r0, r3] := K288.wr W290 (Or.inl (List.mem_of_getElem? (i := 1) rfl))
        obtain ⟨lc290, X290h, N290h⟩ := own_hide X290 (Fr.snoc X290 N287h g_r3)
        have Z292 : n0 ≤ h290.size := Nat.le_trans Z289 (Nat.le_of_eq W290.size.symm)
        have A290c := A290.cong (g := (fun i => .int (stf nx2 (nm + 1) i))) (own_stf hxx)
        show G (T290.setTop (mkF m 207 #[.val (.ref r0), .val (.ref r1), .val (.int u2), .val (.ref r3), .val (.int (1 : Int32)), .val (.int nx), .val (.int nm), .val (.int (nm + (1 : Int32))), .val (.int nx), .val (.int en2), .val (.int (1 : Int32)), .val (.int (1 : Int32))] []))
        refine own_retV rt X290h hx hret (hb hby d4_207) (by decide) (by decide) ?_
        have f293 := ((B264E.wr W287).wr W290)
        have f294 := ((B264b.other W287 (Or.inl (Ne.symm n30))).other W290 (Or.inl (Ne.symm n30)))
        have f295 := ((B264L.other W287 (Or.inl (Ne.symm n30))).other W290 (Or.inl (Ne.symm n30)))
        have f296 := ((B264m.other W287 (Or.inl (Ne.symm n30))).other W290 (Or.inl (Ne.symm n30)))
        have f297 := ((B264s.other W287 (Or.inl (Ne.symm n30))).other W290 (Or.inl (Ne.symm n30)))
        have f298 := ((B264e.other W287 (Or.inl (Ne.symm n30))).other W290 (Or.inl (Ne.symm n30)))
        have f299 := ((B264n.other W287 (Or.inl (Ne.symm n30))).other W290 (Or.inl (Ne.symm n30)))
        rw [e290]
        exact ⟨rfl, N290h, K291, _, _, _, _, nxt g ln e2, ⟨f293, f294, f295, f296, f297, f298, f299⟩, hnx2, own_nxt_le hel, A290c⟩
      · refine go _ _ (fun t' k' => XS.icmpYes X285h.here hx rfl (pc0 := 155) (pc' := 164) rfl (hb hby d4_155) rfl (Free.XT.ii_ne_t c286) (by decide) (by decide) k') ?_
        show G (T285.setTop (mkF m 164 #[.val (.ref r0), .val (.ref r1), .val (.int u2), .val (.ref r3), .val (.int (1 : Int32)), .val (.int nx), .val (.int nm), .val (.int (nm + (1 : Int32))), .val (.int nx), .val (.int en2), .val (.int (1 : Int32)), .unset] []))
        refine go _ _ (fun t' k' => XS.iload X285h.here hx rfl (hb hby d4_164) rfl  k') ?_
        show G (T285.setTop (mkF m 166 #[.val (.ref r0), .val (.ref r1), .val (.int u2), .val (.ref r3), .val (.int (1 : Int32)), .val (.int nx), .val (.int nm), .val (.int (nm + (1 : Int32))), .val (.int nx), .val (.int en2), .val (.int (1 : Int32)), .unset] [(.int en2)]))
        refine go _ _ (fun t' k' => XS.iconst X285h.here hx rfl (hb hby d4_166) k') ?_
        show G (T285.setTop (mkF m 167 #[.val (.ref r0), .val (.ref r1), .val (.int u2), .val (.ref r3), .val (.int (1 : Int32)), .val (.int nx), .val (.int nm), .val (.int (nm + (1 : Int32))), .val (.int nx), .val (.int en2), .val (.int (1 : Int32)), .unset] [(.int (1 : Int32)), (.int en2)]))
        refine go _ _ (fun t' k' => XS.iadd X285h.here hx rfl (hb hby d4_167) rfl k') ?_
        show G (T285.setTop (mkF m 168 #[.val (.ref r0), .val (.ref r1), .val (.int u2), .val (.ref r3), .val (.int (1 : Int32)), .val (.int nx), .val (.int nm), .val (.int (nm + (1 : Int32))), .val (.int nx), .val (.int en2), .val (.int (1 : Int32)), .unset] [(.int (en2 + (1 : Int32)))]))
        refine go _ _ (fun t' k' => XS.iloadN X285h.here hx rfl (hb hby d4_168) rfl  k') ?_
        show G (T285.setTop (mkF m 169 #[.val (.ref r0), .val (.ref r1), .val (.int u2), .val (.ref r3), .val (.int (1 : Int32)), .val (.int nx), .val (.int nm), .val (.int (nm + (1 : Int32))), .val (.int nx), .val (.int en2), .val (.int (1 : Int32)), .unset] [(.int u2), (.int (en2 + (1 : Int32)))]))
        by_cases c300 : (en2 + (1 : Int32)) < u2
        · refine go _ _ (fun t' k' => XS.icmpNo X285h.here hx rfl (hb hby d4_169) rfl (Free.XT.ii_ge_f c300) k') ?_
          show G (T285.setTop (mkF m 172 #[.val (.ref r0), .val (.ref r1), .val (.int u2), .val (.ref r3), .val (.int (1 : Int32)), .val (.int nx), .val (.int nm), .val (.int (nm + (1 : Int32))), .val (.int nx), .val (.int en2), .val (.int (1 : Int32)), .unset] []))
          refine go _ _ (fun t' k' => XS.aloadN X285h.here hx rfl (hb hby d4_172) rfl rfl  k') ?_
          show G (T285.setTop (mkF m 173 #[.val (.ref r0), .val (.ref r1), .val (.int u2), .val (.ref r3), .val (.int (1 : Int32)), .val (.int nx), .val (.int nm), .val (.int (nm + (1 : Int32))), .val (.int nx), .val (.int en2), .val (.int (1 : Int32)), .unset] [(.ref r1)]))
          refine go _ _ (fun t' k' => XS.iload X285h.here hx rfl (hb hby d4_173) rfl  k') ?_
          show G (T285.setTop (mkF m 175 #[.val (.ref r0), .val (.ref r1), .val (.int u2), .val (.ref r3), .val (.int (1 : Int32)), .val (.int nx), .val (.int nm), .val (.int (nm + (1 : Int32))), .val (.int nx), .val (.int en2), .val (.int (1 : Int32)), .unset] [(.int en2), (.ref r1)]))
          refine go _ _ (fun t' k' => XS.iconst X285h.here hx rfl (hb hby d4_175) k') ?_
          show G (T285.setTop (mkF m 176 #[.val (.ref r0), .val (.ref r1), .val (.int u2), .val (.ref r3), .val (.int (1 : Int32)), .val (.int nx), .val (.int nm), .val (.int (nm + (1 : Int32))), .val (.int nx), .val (.int en2), .val (.int (1 : Int32)), .unset] [(.int (1 : Int32)), (.int en2), (.ref r1)]))
          refine go _ _ (fun t' k' => XS.iadd X285h.here hx rfl (hb hby d4_176) rfl k') ?_
          show G (T285.setTop (mkF m 177 #[.val (.ref r0), .val (.ref r1), .val (.int u2), .val (.ref r3), .val (.int (1 : Int32)), .val (.int nx), .val (.int nm), .val (.int (nm + (1 : Int32))), .val (.int nx), .val (.int en2), .val (.int (1 : Int32)), .unset] [(.int (en2 + (1 : Int32))), (.ref r1)]))
          refine own_baload go X285h hx hZ hh285 (e2 + 1) (own_inc he2 (by omega)) (by have := (own_lt (own_inc he2 (by omega)) hln).mp c300; omega) (g := (mkF m 177 #[.val (.ref r0), .val (.ref r1), .val (.int u2), .val (.ref r3), .val (.int (1 : Int32)), .val (.int nx), .val (.int nm), .val (.int (nm + (1 : Int32))), .val (.int nx), .val (.int en2), .val (.int (1 : Int32)), .unset] [(.int (en2 + (1 : Int32))), (.ref r1)])) rfl f269 rfl (hb hby d4_177) ?_
          show G (T285.setTop (mkF m 178 #[.val (.ref r0), .val (.ref r1), .val (.int u2), .val (.ref r3), .val (.int (1 : Int32)), .val (.int nx), .val (.int nm), .val (.int (nm + (1 : Int32))), .val (.int nx), .val (.int en2), .val (.int (1 : Int32)), .unset] [(.int (g (e2 + 1)))]))
          refine go _ _ (fun t' k' => XS.bipush X285h.here hx rfl (hb hby d4_178) k') ?_
          show G (T285.setTop (mkF m 180 #[.val (.ref r0), .val (.ref r1), .val (.int u2), .val (.ref r3), .val (.int (1 : Int32)), .val (.int nx), .val (.int nm), .val (.int (nm + (1 : Int32))), .val (.int nx), .val (.int en2), .val (.int (1 : Int32)), .unset] [(.int (10 : Int32)), (.int (g (e2 + 1)))]))
          by_cases c301 : (g (e2 + 1)) = (10 : Int32)
          · refine go _ _ (fun t' k' => XS.icmpNo X285h.here hx rfl (hb hby d4_180) rfl (Free.XT.ii_ne_f c301) k') ?_
            show G (T285.setTop (mkF m 183 #[.val (.ref r0), .val (.ref r1), .val (.int u2), .val (.ref r3), .val (.int (1 : Int32)), .val (.int nx), .val (.int nm), .val (.int (nm + (1 : Int32))), .val (.int nx), .val (.int en2), .val (.int (1 : Int32)), .unset] []))
            refine go _ _ (fun t' k' => XS.iconst X285h.here hx rfl (hb hby d4_183) k') ?_
            show G (T285.setTop (mkF m 184 #[.val (.ref r0), .val (.ref r1), .val (.int u2), .val (.ref r3), .val (.int (1 : Int32)), .val (.int nx), .val (.int nm), .val (.int (nm + (1 : Int32))), .val (.int nx), .val (.int en2), .val (.int (1 : Int32)), .unset] [(.int (2 : Int32))]))
            refine go _ _ (fun t' k' => XS.istore X285h.here hx rfl (hb hby d4_184) rfl (l' := #[.val (.ref r0), .val (.ref r1), .val (.int u2), .val (.ref r3), .val (.int (1 : Int32)), .val (.int nx), .val (.int nm), .val (.int (nm + (1 : Int32))), .val (.int nx), .val (.int en2), .val (.int (1 : Int32)), .val (.int (2 : Int32))]) rfl k') ?_
            show G (T285.setTop (mkF m 186 #[.val (.ref r0), .val (.ref r1), .val (.int u2), .val (.ref r3), .val (.int (1 : Int32)), .val (.int nx), .val (.int nm), .val (.int (nm + (1 : Int32))), .val (.int nx), .val (.int en2), .val (.int (1 : Int32)), .val (.int (2 : Int32))] []))
            refine go _ _ (fun t' k' => XS.goto X285h.here hx rfl (pc0 := 186) (pc' := 192) rfl (hb hby d4_186) (by decide) (by decide) k') ?_
            show G (T285.setTop (mkF m 192 #[.val (.ref r0), .val (.ref r1), .val (.int u2), .val (.ref r3), .val (.int (1 : Int32)), .val (.int nx), .val (.int nm), .val (.int (nm + (1 : Int32))), .val (.int nx), .val (.int en2), .val (.int (1 : Int32)), .val (.int (2 : Int32))] []))
            have hq : (en2 + (2 : Int32)).toInt = nxt g ln e2 := by
              have w2 := (own_lt (own_inc he2 (by omega)) hln).mp c300
              have w1 := (not_congr (own_eq he2 hln)).mp c271
              rw [nxC w1 c286 w2 c301]; exact own_inc2 he2 (by omega)
            refine go _ _ (fun t' k' => XS.aloadN X285h.here hx rfl (hb hby d4_192) rfl rfl  k') ?_
            show G (T285.setTop (mkF m 193 #[.val (.ref r0), .val (.ref r1), .val (.int u2), .val (.ref r3), .val (.int (1 : Int32)), .val (.int nx), .val (.int nm), .val (.int (nm + (1 : Int32))), .val (.int nx), .val (.int en2), .val (.int (1 : Int32)), .val (.int (2 : Int32))] [(.ref r3)]))
            refine go _ _ (fun t' k' => XS.iconst X285h.here hx rfl (hb hby d4_193) k') ?_
            show G (T285.setTop (mkF m 194 #[.val (.ref r0), .val (.ref r1), .val (.int u2), .val (.ref r3), .val (.int (1 : Int32)), .val (.int nx), .val (.int nm), .val (.int (nm + (1 : Int32))), .val (.int nx), .val (.int en2), .val (.int (1 : Int32)), .val (.int (2 : Int32))] [(.int (0 : Int32)), (.ref r3)]))
            refine go _ _ (fun t' k' => XS.iload X285h.here hx rfl (hb hby d4_194) rfl  k') ?_
            show G (T285.setTop (mkF m 196 #[.val (.ref r0), .val (.ref r1), .val (.int u2), .val (.ref r3), .val (.int (1 : Int32)), .val (.int nx), .val (.int nm), .val (.int (nm + (1 : Int32))), .val (.int nx), .val (.int en2), .val (.int (1 : Int32)), .val (.int (2 : Int32))] [(.int en2), (.int (0 : Int32)), (.ref r3)]))
            refine go _ _ (fun t' k' => XS.iload X285h.here hx rfl (hb hby d4_196) rfl  k') ?_
            show G (T285.setTop (mkF m 198 #[.val (.ref r0), .val (.ref r1), .val (.int u2), .val (.ref r3), .val (.int (1 : Int32)), .val (.int nx), .val (.int nm), .val (.int (nm + (1 : Int32))), .val (.int nx), .val (.int en2), .val (.int (1 : Int32)), .val (.int (2 : Int32))] [(.int (2 : Int32)), (.int en2), (.int (0 : Int32)), (.ref r3)]))
            refine go _ _ (fun t' k' => XS.iadd X285h.here hx rfl (hb hby d4_198) rfl k') ?_
            show G (T285.setTop (mkF m 199 #[.val (.ref r0), .val (.ref r1), .val (.int u2), .val (.ref r3), .val (.int (1 : Int32)), .val (.int nx), .val (.int nm), .val (.int (nm + (1 : Int32))), .val (.int nx), .val (.int en2), .val (.int (1 : Int32)), .val (.int (2 : Int32))] [(.int (en2 + (2 : Int32))), (.int (0 : Int32)), (.ref r3)]))
            refine own_iastore go X285h hx hZ hh285 0 rfl (by decide) (g := (mkF m 199 #[.val (.ref r0), .val (.ref r1), .val (.int u2), .val (.ref r3), .val (.int (1 : Int32)), .val (.int nx), .val (.int nm), .val (.int (nm + (1 : Int32))), .val (.int nx), .val (.int en2), .val (.int (1 : Int32)), .val (.int (2 : Int32))] [(.int (en2 + (2 : Int32))), (.int (0 : Int32)), (.ref r3)])) rfl f265 rfl (hb hby d4_199) ?_
            intro T302 h302 X302 e302 W302 A302
            have K303 : Keep h0 h302 [r0, r3] := K259.wr W302 (Or.inl (List.mem_of_getElem? (i := 1) rfl))
            obtain ⟨lc302, X302h, N302h⟩ := own_hide X302 (Fr.snoc X302 N285h g_r3)
            have Z304 : n0 ≤ h302.size := Nat.le_trans Z260 (Nat.le_of_eq W302.size.symm)
            show G (T302.setTop (mkF m 200 #[.val (.ref r0), .val (.ref r1), .val (.int u2), .val (.ref r3), .val (.int (1 : Int32)), .val (.int nx), .val (.int nm), .val (.int (nm + (1 : Int32))), .val (.int nx), .val (.int en2), .val (.int (1 : Int32)), .val (.int (2 : Int32))] []))
            have hxx : en2 + (2 : Int32) = nx2 := Int32.toInt_inj.mp (by rw [hq, hnx2])
            refine go _ _ (fun t' k' => XS.aloadN X302h.here hx rfl (hb hby d4_200) rfl rfl  k') ?_
            show G (T302.setTop (mkF m 201 #[.val (.ref r0), .val (.ref r1), .val (.int u2), .val (.ref r3), .val (.int (1 : Int32)), .val (.int nx), .val (.int nm), .val (.int (nm + (1 : Int32))), .val (.int nx), .val (.int en2), .val (.int (1 : Int32)), .val (.int (2 : Int32))] [(.ref r3)]))
            refine go _ _ (fun t' k' => XS.iconst X302h.here hx rfl (hb hby d4_201) k') ?_
            show G (T302.setTop (mkF m 202 #[.val (.ref r0), .val (.ref r1), .val (.int u2), .val (.ref r3), .val (.int (1 : Int32)), .val (.int nx), .val (.int nm), .val (.int (nm + (1 : Int32))), .val (.int nx), .val (.int en2), .val (.int (1 : Int32)), .val (.int (2 : Int32))] [(.int (1 : Int32)), (.ref r3)]))
            refine go _ _ (fun t' k' => XS.iload X302h.here hx rfl (hb hby d4_202) rfl  k') ?_
            show G (T302.setTop (mkF m 204 #[.val (.ref r0), .val (.ref r1), .val (.int u2), .val (.ref r3), .val (.int (1 : Int32)), .val (.int nx), .val (.int nm), .val (.int (nm + (1 : Int32))), .val (.int nx), .val (.int en2), .val (.int (1 : Int32)), .val (.int (2 : Int32))] [(.int nm), (.int (1 : Int32)), (.ref r3)]))
            refine go _ _ (fun t' k' => XS.iconst X302h.here hx rfl (hb hby d4_204) k') ?_
            show G (T302.setTop (mkF m 205 #[.val (.ref r0), .val (.ref r1), .val (.int u2), .val (.ref r3), .val (.int (1 : Int32)), .val (.int nx), .val (.int nm), .val (.int (nm + (1 : Int32))), .val (.int nx), .val (.int en2), .val (.int (1 : Int32)), .val (.int (2 : Int32))] [(.int (1 : Int32)), (.int nm), (.int (1 : Int32)), (.ref r3)]))
            refine go _ _ (fun t' k' => XS.iadd X302h.here hx rfl (hb hby d4_205) rfl k') ?_
            show G (T302.setTop (mkF m 206 #[.val (.ref r0), .val (.ref r1), .val (.int u2), .val (.ref r3), .val (.int (1 : Int32)), .val (.int nx), .val (.int nm), .val (.int (nm + (1 : Int32))), .val (.int nx), .val (.int en2), .val (.int (1 : Int32)), .val (.int (2 : Int32))] [(.int (nm + (1 : Int32))), (.int (1 : Int32)), (.ref r3)]))
            refine own_iastore go X302h hx hZ e302 1 rfl (by decide) (g := (mkF m 206 #[.val (.ref r0), .val (.ref r1), .val (.int u2), .val (.ref r3), .val (.int (1 : Int32)), .val (.int nx), .val (.int nm), .val (.int (nm + (1 : Int32))), .val (.int nx), .val (.int en2), .val (.int (1 : Int32)), .val (.int (2 : Int32))] [(.int (nm + (1 : Int32))), (.int (1 : Int32)), (.ref r3)])) rfl A302 rfl (hb hby d4_206) ?_
            intro T305 h305 X305 e305 W305 A305
            have K306 : Keep h0 h305 [r0, r3] := K303.wr W305 (Or.inl (List.mem_of_getElem? (i := 1) rfl))
            obtain ⟨lc305, X305h, N305h⟩ := own_hide X305 (Fr.snoc X305 N302h g_r3)
            have Z307 : n0 ≤ h305.size := Nat.le_trans Z304 (Nat.le_of_eq W305.size.symm)
            have A305c := A305.cong (g := (fun i => .int (stf nx2 (nm + 1) i))) (own_stf hxx)
            show G (T305.setTop (mkF m 207 #[.val (.ref r0), .val (.ref r1), .val (.int u2), .val (.ref r3), .val (.int (1 : Int32)), .val (.int nx), .val (.int nm), .val (.int (nm + (1 : Int32))), .val (.int nx), .val (.int en2), .val (.int (1 : Int32)), .val (.int (2 : Int32))] []))
            refine own_retV rt X305h hx hret (hb hby d4_207) (by decide) (by decide) ?_
            have f308 := ((B264E.wr W302).wr W305)
            have f309 := ((B264b.other W302 (Or.inl (Ne.symm n30))).other W305 (Or.inl (Ne.symm n30)))
            have f310 := ((B264L.other W302 (Or.inl (Ne.symm n30))).other W305 (Or.inl (Ne.symm n30)))
            have f311 := ((B264m.other W302 (Or.inl (Ne.symm n30))).other W305 (Or.inl (Ne.symm n30)))
            have f312 := ((B264s.other W302 (Or.inl (Ne.symm n30))).other W305 (Or.inl (Ne.symm n30)))
            have f313 := ((B264e.other W302 (Or.inl (Ne.symm n30))).other W305 (Or.inl (Ne.symm n30)))
            have f314 := ((B264n.other W302 (Or.inl (Ne.symm n30))).other W305 (Or.inl (Ne.symm n30)))
            rw [e305]
            exact ⟨rfl, N305h, K306, _, _, _, _, nxt g ln e2, ⟨f308, f309, f310, f311, f312, f313, f314⟩, hnx2, own_nxt_le hel, A305c⟩
          · refine go _ _ (fun t' k' => XS.icmpYes X285h.here hx rfl (pc0 := 180) (pc' := 189) rfl (hb hby d4_180) rfl (Free.XT.ii_ne_t c301) (by decide) (by decide) k') ?_
            show G (T285.setTop (mkF m 189 #[.val (.ref r0), .val (.ref r1), .val (.int u2), .val (.ref r3), .val (.int (1 : Int32)), .val (.int nx), .val (.int nm), .val (.int (nm + (1 : Int32))), .val (.int nx), .val (.int en2), .val (.int (1 : Int32)), .unset] []))
            refine go _ _ (fun t' k' => XS.iconst X285h.here hx rfl (hb hby d4_189) k') ?_
            show G (T285.setTop (mkF m 190 #[.val (.ref r0), .val (.ref r1), .val (.int u2), .val (.ref r3), .val (.int (1 : Int32)), .val (.int nx), .val (.int nm), .val (.int (nm + (1 : Int32))), .val (.int nx), .val (.int en2), .val (.int (1 : Int32)), .unset] [(.int (1 : Int32))]))
            refine go _ _ (fun t' k' => XS.istore X285h.here hx rfl (hb hby d4_190) rfl (l' := #[.val (.ref r0), .val (.ref r1), .val (.int u2), .val (.ref r3), .val (.int (1 : Int32)), .val (.int nx), .val (.int nm), .val (.int (nm + (1 : Int32))), .val (.int nx), .val (.int en2), .val (.int (1 : Int32)), .val (.int (1 : Int32))]) rfl k') ?_
            show G (T285.setTop (mkF m 192 #[.val (.ref r0), .val (.ref r1), .val (.int u2), .val (.ref r3), .val (.int (1 : Int32)), .val (.int nx), .val (.int nm), .val (.int (nm + (1 : Int32))), .val (.int nx), .val (.int en2), .val (.int (1 : Int32)), .val (.int (1 : Int32))] []))
            have hq : (en2 + (1 : Int32)).toInt = nxt g ln e2 := by
              have w2 := (own_lt (own_inc he2 (by omega)) hln).mp c300
              have w1 := (not_congr (own_eq he2 hln)).mp c271
              rw [nxD w1 c286 (fun z => c301 z.2)]; exact own_inc he2 (by omega)
            refine go _ _ (fun t' k' => XS.aloadN X285h.here hx rfl (hb hby d4_192) rfl rfl  k') ?_
            show G (T285.setTop (mkF m 193 #[.val (.ref r0), .val (.ref r1), .val (.int u2), .val (.ref r3), .val (.int (1 : Int32)), .val (.int nx), .val (.int nm), .val (.int (nm + (1 : Int32))), .val (.int nx), .val (.int en2), .val (.int (1 : Int32)), .val (.int (1 : Int32))] [(.ref r3)]))
            refine go _ _ (fun t' k' => XS.iconst X285h.here hx rfl (hb hby d4_193) k') ?_
            show G (T285.setTop (mkF m 194 #[.val (.ref r0), .val (.ref r1), .val (.int u2), .val (.ref r3), .val (.int (1 : Int32)), .val (.int nx), .val (.int nm), .val (.int (nm + (1 : Int32))), .val (.int nx), .val (.int en2), .val (.int (1 : Int32)), .val (.int (1 : Int32))] [(.int (0 : Int32)), (.ref r3)]))
            refine go _ _ (fun t' k' => XS.iload X285h.here hx rfl (hb hby d4_194) rfl  k') ?_
            show G (T285.setTop (mkF m 196 #[.val (.ref r0), .val (.ref r1), .val (.int u2), .val (.ref r3), .val (.int (1 : Int32)), .val (.int nx), .val (.int nm), .val (.int (nm + (1 : Int32))), .val (.int nx), .val (.int en2), .val (.int (1 : Int32)), .val (.int (1 : Int32))] [(.int en2), (.int (0 : Int32)), (.ref r3)]))
            refine go _ _ (fun t' k' => XS.iload X285h.here hx rfl (hb hby d4_196) rfl  k') ?_
            show G (T285.setTop (mkF m 198 #[.val (.ref r0), .val (.ref r1), .val (.int u2), .val (.ref r3), .val (.int (1 : Int32)), .val (.int nx), .val (.int nm), .val (.int (nm + (1 : Int32))), .val (.int nx), .val (.int en2), .val (.int (1 : Int32)), .val (.int (1 : Int32))] [(.int (1 : Int32)), (.int en2), (.int (0 : Int32)), (.ref r3)]))
            refine go _ _ (fun t' k' => XS.iadd X285h.here hx rfl (hb hby d4_198) rfl k') ?_
            show G (T285.setTop (mkF m 199 #[.val (.ref r0), .val (.ref r1), .val (.int u2), .val (.ref r3), .val (.int (1 : Int32)), .val (.int nx), .val (.int nm), .val (.int (nm + (1 : Int32))), .val (.int nx), .val (.int en2), .val (.int (1 : Int32)), .val (.int (1 : Int32))] [(.int (en2 + (1 : Int32))), (.int (0 : Int32)), (.ref r3)]))
            refine own_iastore go X285h hx hZ hh285 0 rfl (by decide) (g := (mkF m 199 #[.val (.ref r0), .val (.ref r1), .val (.int u2), .val (.ref r3), .val (.int (1 : Int32)), .val (.int nx), .val (.int nm), .val (.int (nm + (1 : Int32))), .val (.int nx), .val (.int en2), .val (.int (1 : Int32)), .val (.int (1 : Int32))] [(.int (en2 + (1 : Int32))), (.int (0 : Int32)), (.ref r3)])) rfl f265 rfl (hb hby d4_199) ?_
            intro T315 h315 X315 e315 W315 A315
            have K316 : Keep h0 h315 [r0, r3] := K259.wr W315 (Or.inl (List.mem_of_getElem? (i := 1) rfl))
            obtain ⟨lc315, X315h, N315h⟩ := own_hide X315 (Fr.snoc X315 N285h g_r3)
            have Z317 : n0 ≤ h315.size := Nat.le_trans Z260 (Nat.le_of_eq W315.size.symm)
            show G (T315.setTop (mkF m 200 #[.val (.ref r0), .val (.ref r1), .val (.int u2), .val (.ref r3), .val (.int (1 : Int32)), .val (.int nx), .val (.int nm), .val (.int (nm + (1 : Int32))), .val (.int nx), .val (.int en2), .val (.int (1 : Int32)), .val (.int (1 : Int32))] []))
            have hxx : en2 + (1 : Int32) = nx2 := Int32.toInt_inj.mp (by rw [hq, hnx2])
            refine go _ _ (fun t' k' => XS.aloadN X315h.here hx rfl (hb hby d4_200) rfl rfl  k') ?_
            show G (T315.setTop (mkF m 201 #[.val (.ref r0), .val (.ref r1), .val (.int u2), .val (.ref r3), .val (.int (1 : Int32)), .val (.int nx), .val (.int nm), .val (.int (nm + (1 : Int32))), .val (.int nx), .val (.int en2), .val (.int (1 : Int32)), .val (.int (1 : Int32))] [(.ref r3)]))
            refine go _ _ (fun t' k' => XS.iconst X315h.here hx rfl (hb hby d4_201) k') ?_
            show G (T315.setTop (mkF m 202 #[.val (.ref r0), .val (.ref r1), .val (.int u2), .val (.ref r3), .val (.int (1 : Int32)), .val (.int nx), .val (.int nm), .val (.int (nm + (1 : Int32))), .val (.int nx), .val (.int en2), .val (.int (1 : Int32)), .val (.int (1 : Int32))] [(.int (1 : Int32)), (.ref r3)]))
            refine go _ _ (fun t' k' => XS.iload X315h.here hx rfl (hb hby d4_202) rfl  k') ?_
            show G (T315.setTop (mkF m 204 #[.val (.ref r0), .val (.ref r1), .val (.int u2), .val (.ref r3), .val (.int (1 : Int32)), .val (.int nx), .val (.int nm), .val (.int (nm + (1 : Int32))), .val (.int nx), .val (.int en2), .val (.int (1 : Int32)), .val (.int (1 : Int32))] [(.int nm), (.int (1 : Int32)), (.ref r3)]))
            refine go _ _ (fun t' k' => XS.iconst X315h.here hx rfl (hb hby d4_204) k') ?_
            show G (T315.setTop (mkF m 205 #[.val (.ref r0), .val (.ref r1), .val (.int u2), .val (.ref r3), .val (.int (1 : Int32)), .val (.int nx), .val (.int nm), .val (.int (nm + (1 : Int32))), .val (.int nx), .val (.int en2), .val (.int (1 : Int32)), .val (.int (1 : Int32))] [(.int (1 : Int32)), (.int nm), (.int (1 : Int32)), (.ref r3)]))
            refine go _ _ (fun t' k' => XS.iadd X315h.here hx rfl (hb hby d4_205) rfl k') ?_
            show G (T315.setTop (mkF m 206 #[.val (.ref r0), .val (.ref r1), .val (.int u2), .val (.ref r3), .val (.int (1 : Int32)), .val (.int nx), .val (.int nm), .val (.int (nm + (1 : Int32))), .val (.int nx), .val (.int en2), .val (.int (1 : Int32)), .val (.int (1 : Int32))] [(.int (nm + (1 : Int32))), (.int (1 : Int32)), (.ref r3)]))
            refine own_iastore go X315h hx hZ e315 1 rfl (by decide) (g := (mkF m 206 #[.val (.ref r0), .val (.ref r1), .val (.int u2), .val (.ref r3), .val (.int (1 : Int32)), .val (.int nx), .val (.int nm), .val (.int (nm + (1 : Int32))), .val (.int nx), .val (.int en2), .val (.int (1 : Int32)), .val (.int (1 : Int32))] [(.int (nm + (1 : Int32))), (.int (1 : Int32)), (.ref r3)])) rfl A315 rfl (hb hby d4_206) ?_
            intro T318 h318 X318 e318 W318 A318
            have K319 : Keep h0 h318 [r0, r3] := K316.wr W318 (Or.inl (List.mem_of_getElem? (i := 1) rfl))
            obtain ⟨lc318, X318h, N318h⟩ := own_hide X318 (Fr.snoc X318 N315h g_r3)
            have Z320 : n0 ≤ h318.size := Nat.le_trans Z317 (Nat.le_of_eq W318.size.symm)
            have A318c := A318.cong (g := (fun i => .int (stf nx2 (nm + 1) i))) (own_stf hxx)
            show G (T318.setTop (mkF m 207 #[.val (.ref r0), .val (.ref r1), .val (.int u2), .val (.ref r3), .val (.int (1 : Int32)), .val (.int nx), .val (.int nm), .val (.int (nm + (1 : Int32))), .val (.int nx), .val (.int en2), .val (.int (1 : Int32)), .val (.int (1 : Int32))] []))
            refine own_retV rt X318h hx hret (hb hby d4_207) (by decide) (by decide) ?_
            have f321 := ((B264E.wr W315).wr W318)
            have f322 := ((B264b.other W315 (Or.inl (Ne.symm n30))).other W318 (Or.inl (Ne.symm n30)))
            have f323 := ((B264L.other W315 (Or.inl (Ne.symm n30))).other W318 (Or.inl (Ne.symm n30)))
            have f324 := ((B264m.other W315 (Or.inl (Ne.symm n30))).other W318 (Or.inl (Ne.symm n30)))
            have f325 := ((B264s.other W315 (Or.inl (Ne.symm n30))).other W318 (Or.inl (Ne.symm n30)))
            have f326 := ((B264e.other W315 (Or.inl (Ne.symm n30))).other W318 (Or.inl (Ne.symm n30)))
            have f327 := ((B264n.other W315 (Or.inl (Ne.symm n30))).other W318 (Or.inl (Ne.symm n30)))
            rw [e318]
            exact ⟨rfl, N318h, K319, _, _, _, _, nxt g ln e2, ⟨f321, f322, f323, f324, f325, f326, f327⟩, hnx2, own_nxt_le hel, A318c⟩
        · refine go _ _ (fun t' k' => XS.icmpYes X285h.here hx rfl (pc0 := 169) (pc' := 189) rfl (hb hby d4_169) rfl (Free.XT.ii_ge_t c300) (by decide) (by decide) k') ?_
          show G (T285.setTop (mkF m 189 #[.val (.ref r0), .val (.ref r1), .val (.int u2), .val (.ref r3), .val (.int (1 : Int32)), .val (.int nx), .val (.int nm), .val (.int (nm + (1 : Int32))), .val (.int nx), .val (.int en2), .val (.int (1 : Int32)), .unset] []))
          refine go _ _ (fun t' k' => XS.iconst X285h.here hx rfl (hb hby d4_189) k') ?_
          show G (T285.setTop (mkF m 190 #[.val (.ref r0), .val (.ref r1), .val (.int u2), .val (.ref r3), .val (.int (1 : Int32)), .val (.int nx), .val (.int nm), .val (.int (nm + (1 : Int32))), .val (.int nx), .val (.int en2), .val (.int (1 : Int32)), .unset] [(.int (1 : Int32))]))
          refine go _ _ (fun t' k' => XS.istore X285h.here hx rfl (hb hby d4_190) rfl (l' := #[.val (.ref r0), .val (.ref r1), .val (.int u2), .val (.ref r3), .val (.int (1 : Int32)), .val (.int nx), .val (.int nm), .val (.int (nm + (1 : Int32))), .val (.int nx), .val (.int en2), .val (.int (1 : Int32)), .val (.int (1 : Int32))]) rfl k') ?_
          show G (T285.setTop (mkF m 192 #[.val (.ref r0), .val (.ref r1), .val (.int u2), .val (.ref r3), .val (.int (1 : Int32)), .val (.int nx), .val (.int nm), .val (.int (nm + (1 : Int32))), .val (.int nx), .val (.int en2), .val (.int (1 : Int32)), .val (.int (1 : Int32))] []))
          have hq : (en2 + (1 : Int32)).toInt = nxt g ln e2 := by
            have w1 := (not_congr (own_eq he2 hln)).mp c271
            have w2 := (not_congr (own_lt (own_inc he2 (by omega)) hln)).mp c300
            rw [nxD w1 c286 (fun z => w2 z.1)]; exact own_inc he2 (by omega)
          refine go _ _ (fun t' k' => XS.aloadN X285h.here hx rfl (hb hby d4_192) rfl rfl  k') ?_
          show G (T285.setTop (mkF m 193 #[.val (.ref r0), .val (.ref r1), .val (.int u2), .val (.ref r3), .val (.int (1 : Int32)), .val (.int nx), .val (.int nm), .val (.int (nm + (1 : Int32))), .val (.int nx), .val (.int en2), .val (.int (1 : Int32)), .val (.int (1 : Int32))] [(.ref r3)]))
          refine go _ _ (fun t' k' => XS.iconst X285h.here hx rfl (hb hby d4_193) k') ?_
          show G (T285.setTop (mkF m 194 #[.val (.ref r0), .val (.ref r1), .val (.int u2), .val (.ref r3), .val (.int (1 : Int32)), .val (.int nx), .val (.int nm), .val (.int (nm + (1 : Int32))), .val (.int nx), .val (.int en2), .val (.int (1 : Int32)), .val (.int (1 : Int32))] [(.int (0 : Int32)), (.ref r3)]))
          refine go _ _ (fun t' k' => XS.iload X285h.here hx rfl (hb hby d4_194) rfl  k') ?_
          show G (T285.setTop (mkF m 196 #[.val (.ref r0), .val (.ref r1), .val (.int u2), .val (.ref r3), .val (.int (1 : Int32)), .val (.int nx), .val (.int nm), .val (.int (nm + (1 : Int32))), .val (.int nx), .val (.int en2), .val (.int (1 : Int32)), .val (.int (1 : Int32))] [(.int en2), (.int (0 : Int32)), (.ref r3)]))
          refine go _ _ (fun t' k' => XS.iload X285h.here hx rfl (hb hby d4_196) rfl  k') ?_
          show G (T285.setTop (mkF m 198 #[.val (.ref r0), .val (.ref r1), .val (.int u2), .val (.ref r3), .val (.int (1 : Int32)), .val (.int nx), .val (.int nm), .val (.int (nm + (1 : Int32))), .val (.int nx), .val (.int en2), .val (.int (1 : Int32)), .val (.int (1 : Int32))] [(.int (1 : Int32)), (.int en2), (.int (0 : Int32)), (.ref r3)]))
          refine go _ _ (fun t' k' => XS.iadd X285h.here hx rfl (hb hby d4_198) rfl k') ?_
          show G (T285.setTop (mkF m 199 #[.val (.ref r0), .val (.ref r1), .val (.int u2), .val (.ref r3), .val (.int (1 : Int32)), .val (.int nx), .val (.int nm), .val (.int (nm + (1 : Int32))), .val (.int nx), .val (.int en2), .val (.int (1 : Int32)), .val (.int (1 : Int32))] [(.int (en2 + (1 : Int32))), (.int (0 : Int32)), (.ref r3)]))
          refine own_iastore go X285h hx hZ hh285 0 rfl (by decide) (g := (mkF m 199 #[.val (.ref r0), .val (.ref r1), .val (.int u2), .val (.ref r3), .val (.int (1 : Int32)), .val (.int nx), .val (.int nm), .val (.int (nm + (1 : Int32))), .val (.int nx), .val (.int en2), .val (.int (1 : Int32)), .val (.int (1 : Int32))] [(.int (en2 + (1 : Int32))), (.int (0 : Int32)), (.ref r3)])) rfl f265 rfl (hb hby d4_199) ?_
          intro T328 h328 X328 e328 W328 A328
          have K329 : Keep h0 h328 [r0, r3] := K259.wr W328 (Or.inl (List.mem_of_getElem? (i := 1) rfl))
          obtain ⟨lc328, X328h, N328h⟩ := own_hide X328 (Fr.snoc X328 N285h g_r3)
          have Z330 : n0 ≤ h328.size := Nat.le_trans Z260 (Nat.le_of_eq W328.size.symm)
          show G (T328.setTop (mkF m 200 #[.val (.ref r0), .val (.ref r1), .val (.int u2), .val (.ref r3), .val (.int (1 : Int32)), .val (.int nx), .val (.int nm), .val (.int (nm + (1 : Int32))), .val (.int nx), .val (.int en2), .val (.int (1 : Int32)), .val (.int (1 : Int32))] []))
          have hxx : en2 + (1 : Int32) = nx2 := Int32.toInt_inj.mp (by rw [hq, hnx2])
          refine go _ _ (fun t' k' => XS.aloadN X328h.here hx rfl (hb hby d4_200) rfl rfl  k') ?_
          show G (T328.setTop (mkF m 201 #[.val (.ref r0), .val (.ref r1), .val (.int u2), .val (.ref r3), .val (.int (1 : Int32)), .val (.int nx), .val (.int nm), .val (.int (nm + (1 : Int32))), .val (.int nx), .val (.int en2), .val (.int (1 : Int32)), .val (.int (1 : Int32))] [(.ref r3)]))
          refine go _ _ (fun t' k' => XS.iconst X328h.here hx rfl (hb hby d4_201) k') ?_
          show G (T328.setTop (mkF m 202 #[.val (.ref r0), .val (.ref r1), .val (.int u2), .val (.ref r3), .val (.int (1 : Int32)), .val (.int nx), .val (.int nm), .val (.int (nm + (1 : Int32))), .val (.int nx), .val (.int en2), .val (.int (1 : Int32)), .val (.int (1 : Int32))] [(.int (1 : Int32)), (.ref r3)]))
          refine go _ _ (fun t' k' => XS.iload X328h.here hx rfl (hb hby d4_202) rfl  k') ?_
          show G (T328.setTop (mkF m 204 #[.val (.ref r0), .val (.ref r1), .val (.int u2), .val (.ref r3), .val (.int (1 : Int32)), .val (.int nx), .val (.int nm), .val (.int (nm + (1 : Int32))), .val (.int nx), .val (.int en2), .val (.int (1 : Int32)), .val (.int (1 : Int32))] [(.int nm), (.int (1 : Int32)), (.ref r3)]))
          refine go _ _ (fun t' k' => XS.iconst X328h.here hx rfl (hb hby d4_204) k') ?_
          show G (T328.setTop (mkF m 205 #[.val (.ref r0), .val (.ref r1), .val (.int u2), .val (.ref r3), .val (.int (1 : Int32)), .val (.int nx), .val (.int nm), .val (.int (nm + (1 : Int32))), .val (.int nx), .val (.int en2), .val (.int (1 : Int32)), .val (.int (1 : Int32))] [(.int (1 : Int32)), (.int nm), (.int (1 : Int32)), (.ref r3)]))
          refine go _ _ (fun t' k' => XS.iadd X328h.here hx rfl (hb hby d4_205) rfl k') ?_
          show G (T328.setTop (mkF m 206 #[.val (.ref r0), .val (.ref r1), .val (.int u2), .val (.ref r3), .val (.int (1 : Int32)), .val (.int nx), .val (.int nm), .val (.int (nm + (1 : Int32))), .val (.int nx), .val (.int en2), .val (.int (1 : Int32)), .val (.int (1 : Int32))] [(.int (nm + (1 : Int32))), (.int (1 : Int32)), (.ref r3)]))
          refine own_iastore go X328h hx hZ e328 1 rfl (by decide) (g := (mkF m 206 #[.val (.ref r0), .val (.ref r1), .val (.int u2), .val (.ref r3), .val (.int (1 : Int32)), .val (.int nx), .val (.int nm), .val (.int (nm + (1 : Int32))), .val (.int nx), .val (.int en2), .val (.int (1 : Int32)), .val (.int (1 : Int32))] [(.int (nm + (1 : Int32))), (.int (1 : Int32)), (.ref r3)])) rfl A328 rfl (hb hby d4_206) ?_
          intro T331 h331 X331 e331 W331 A331
          have K332 : Keep h0 h331 [r0, r3] := K329.wr W331 (Or.inl (List.mem_of_getElem? (i := 1) rfl))
          obtain ⟨lc331, X331h, N331h⟩ := own_hide X331 (Fr.snoc X331 N328h g_r3)
          have Z333 : n0 ≤ h331.size := Nat.le_trans Z330 (Nat.le_of_eq W331.size.symm)
          have A331c := A331.cong (g := (fun i => .int (stf nx2 (nm + 1) i))) (own_stf hxx)
          show G (T331.setTop (mkF m 207 #[.val (.ref r0), .val (.ref r1), .val (.int u2), .val (.ref r3), .val (.int (1 : Int32)), .val (.int nx), .val (.int nm), .val (.int (nm + (1 : Int32))), .val (.int nx), .val (.int en2), .val (.int (1 : Int32)), .val (.int (1 : Int32))] []))
          refine own_retV rt X331h hx hret (hb hby d4_207) (by decide) (by decide) ?_
          have f334 := ((B264E.wr W328).wr W331)
          have f335 := ((B264b.other W328 (Or.inl (Ne.symm n30))).other W331 (Or.inl (Ne.symm n30)))
          have f336 := ((B264L.other W328 (Or.inl (Ne.symm n30))).other W331 (Or.inl (Ne.symm n30)))
          have f337 := ((B264m.other W328 (Or.inl (Ne.symm n30))).other W331 (Or.inl (Ne.symm n30)))
          have f338 := ((B264s.other W328 (Or.inl (Ne.symm n30))).other W331 (Or.inl (Ne.symm n30)))
          have f339 := ((B264e.other W328 (Or.inl (Ne.symm n30))).other W331 (Or.inl (Ne.symm n30)))
          have f340 := ((B264n.other W328 (Or.inl (Ne.symm n30))).other W331 (Or.inl (Ne.symm n30)))
          rw [e331]
          exact ⟨rfl, N331h, K332, _, _, _, _, nxt g ln e2, ⟨f334, f335, f336, f337, f338, f339, f340⟩, hnx2, own_nxt_le hel, A331c⟩
theorem pn_0 : plainName "com/example/caducee/caducee/ByteLinesNextPinLaw" = true := by first | (simp [plainName, overriddenIn]; done) | decide +kernel
theorem ef_rm0 (m : MethodId) (x0 : Int32) (x1 : Int32) (x2 : Int32) (x3 : Int32) (x4 : Int32) : entryFrame m #[(.int x0), (.int x1), (.int x2), (.int x3), (.int x4)] maxLocals = mkF m 0 #[.val (.int x0), .val (.int x1), .val (.int x2), .val (.int x3), .val (.int x4), .unset, .unset, .unset, .unset] [] := by first | (simp [entryFrame, mkF, argsToLocals, Value.category, maxLocals]; done) | rfl
set_option maxRecDepth 65536 in
set_option maxHeartbeats 40000000 in
theorem rm0 (l : Launch) (Z : State) (a0 : Array Value) (hw : ∀ d ∈ tables_1, d.before a0 Z = true) (u0 u1 u2 u3 u4 : Int32) (h0 : Heap) (n0 : Nat) (Z0 : n0 ≤ h0.size)  :
    Con l Z x code maxLocals ret room_1 #[(.int u0), (.int u1), (.int u2), (.int u3), (.int u4)] h0 (fun v h L => v = some (.int 1) ∧ Fr n0 L) := by
  refine own_body pn_0 ?_
  intro p e s m below meth c s₁ hx hby hml hown hnm hret hZ e0 X0 G go rt
  have N0 := Fr.nil n0
  rw [ef_rm0 m u0 u1 u2 u3 u4]
  show G (s₁.setTop (mkF m 0 #[.val (.int u0), .val (.int u1), .val (.int u2), .val (.int u3), .val (.int u4), .unset, .unset, .unset, .unset] []))
  refine go _ _ (fun t' k' => XS.iconst X0.here hx rfl (hb hby at_0) k') ?_
  show G (s₁.setTop (mkF m 1 #[.val (.int u0), .val (.int u1), .val (.int u2), .val (.int u3), .val (.int u4), .unset, .unset, .unset, .unset] [(.int (4 : Int32))]))
  refine own_newarr go X0 hx hZ e0 (g := (mkF m 1 #[.val (.int u0), .val (.int u1), .val (.int u2), .val (.int u3), .val (.int u4), .unset, .unset, .unset, .unset] [(.int (4 : Int32))])) rfl (hw _ (List.mem_of_getElem? (i := 0) rfl)) 4 rfl (hb hby at_1) rfl 4 (by decide) (by decide) (by decide) (by decide) ?_
  intro T341 h341 b341 X341 e341 E341 g341 A341
  have g_b341 : n0 ≤ b341 := Nat.le_trans Z0 (Nat.le_of_eq g341.symm)
  have sz_b341 : h0.size ≤ b341 := Nat.le_of_eq g341.symm
  have Z342 : n0 ≤ h341.size := Nat.le_trans Z0 E341.1
  have K343 : Keep h0 h341 [] := (Keep.refl h0 []).ext E341
  show G (T341.setTop (mkF m 3 #[.val (.int u0), .val (.int u1), .val (.int u2), .val (.int u3), .val (.int u4), .unset, .unset, .unset, .unset] [(.ref b341)]))
  refine go _ _ (fun t' k' => XS.astore X341.here hx rfl (hb hby at_3) rfl rfl (l' := #[.val (.int u0), .val (.int u1), .val (.int u2), .val (.int u3), .val (.int u4), .val (.ref b341), .unset, .unset, .unset]) rfl k') ?_
  show G (T341.setTop (mkF m 5 #[.val (.int u0), .val (.int u1), .val (.int u2), .val (.int u3), .val (.int u4), .val (.ref b341), .unset, .unset, .unset] []))
  refine go _ _ (fun t' k' => XS.aload X341.here hx rfl (hb hby at_5) rfl rfl  k') ?_
  show G (T341.setTop (mkF m 7 #[.val (.int u0), .val (.int u1), .val (.int u2), .val (.int u3), .val (.int u4), .val (.ref b341), .unset, .unset, .unset] [(.ref b341)]))
  refine go _ _ (fun t' k' => XS.iconst X341.here hx rfl (hb hby at_7) k') ?_
  show G (T341.setTop (mkF m 8 #[.val (.int u0), .val (.int u1), .val (.int u2), .val (.int u3), .val (.int u4), .val (.ref b341), .unset, .unset, .unset] [(.int (0 : Int32)), (.ref b341)]))
  refine go _ _ (fun t' k' => XS.iloadN X341.here hx rfl (hb hby at_8) rfl  k') ?_
  show G (T341.setTop (mkF m 9 #[.val (.int u0), .val (.int u1), .val (.int u2), .val (.int u3), .val (.int u4), .val (.ref b341), .unset, .unset, .unset] [(.int u0), (.int (0 : Int32)), (.ref b341)]))
  refine own_static go X341 hx hZ e341 hown (hw _ (List.mem_of_getElem? (i := 1) rfl)) (hw _ (List.mem_of_getElem? (i := 2) rfl)) (hw _ (List.mem_of_getElem? (i := 3) rfl)) (hw _ (List.mem_of_getElem? (i := 4) rfl)) (by decide) (rm1 l Z a0 hw u0 h341 n0 Z342) 2 (by decide) (by decide) (by decide) (by decide) (g := (mkF m 9 #[.val (.int u0), .val (.int u1), .val (.int u2), .val (.int u3), .val (.int u4), .val (.ref b341), .unset, .unset, .unset] [(.int u0), (.int (0 : Int32)), (.ref b341)])) rfl (by rw [hml]; rfl) [(.int u0)] [(.int (0 : Int32)), (.ref b341)] rfl (lenOf pd_5 rfl) rfl (by show 2 * 0 + _ ≤ _; exact Nat.le_of_eq rfl) (hb hby at_9) ?_
  intro T344 L344 v344 X344 q344
  obtain ⟨⟨y344, rfl⟩, N344, hh344⟩ := q344
  obtain ⟨lc344, X344h, N344h⟩ := own_hide X344 (Fr.app N0 N344)
  show G (T344.setTop (mkF m 12 #[.val (.int u0), .val (.int u1), .val (.int u2), .val (.int u3), .val (.int u4), .val (.ref b341), .unset, .unset, .unset] [(.int y344), (.int (0 : Int32)), (.ref b341)]))
  refine own_bastore go X344h hx hZ hh344 0 rfl (by decide) (g := (mkF m 12 #[.val (.int u0), .val (.int u1), .val (.int u2), .val (.int u3), .val (.int u4), .val (.ref b341), .unset, .unset, .unset] [(.int y344), (.int (0 : Int32)), (.ref b341)])) rfl A341 rfl (hb hby at_12) ?_
  intro T345 h345 X345 e345 W345 A345
  have K346 : Keep h0 h345 [] := K343.wr W345 (Or.inr sz_b341)
  obtain ⟨lc345, X345h, N345h⟩ := own_hide X345 (Fr.snoc X345 N344h g_b341)
  have Z347 : n0 ≤ h345.size := Nat.le_trans Z342 (Nat.le_of_eq W345.size.symm)
  show G (T345.setTop (mkF m 13 #[.val (.int u0), .val (.int u1), .val (.int u2), .val (.int u3), .val (.int u4), .val (.ref b341), .unset, .unset, .unset] []))
  refine go _ _ (fun t' k' => XS.aload X345h.here hx rfl (hb hby at_13) rfl rfl  k') ?_
  show G (T345.setTop (mkF m 15 #[.val (.int u0), .val (.int u1), .val (.int u2), .val (.int u3), .val (.int u4), .val (.ref b341), .unset, .unset, .unset] [(.ref b341)]))
  refine go _ _ (fun t' k' => XS.iconst X345h.here hx rfl (hb hby at_15) k') ?_
  show G (T345.setTop (mkF m 16 #[.val (.int u0), .val (.int u1), .val (.int u2), .val (.int u3), .val (.int u4), .val (.ref b341), .unset, .unset, .unset] [(.int (1 : Int32)), (.ref b341)]))
  refine go _ _ (fun t' k' => XS.iloadN X345h.here hx rfl (hb hby at_16) rfl  k') ?_
  show G (T345.setTop (mkF m 17 #[.val (.int u0), .val (.int u1), .val (.int u2), .val (.int u3), .val (.int u4), .val (.ref b341), .unset, .unset, .unset] [(.int u1), (.int (1 : Int32)), (.ref b341)]))
  refine own_static go X345h hx hZ e345 hown (hw _ (List.mem_of_getElem? (i := 1) rfl)) (hw _ (List.mem_of_getElem? (i := 2) rfl)) (hw _ (List.mem_of_getElem? (i := 3) rfl)) (hw _ (List.mem_of_getElem? (i := 4) rfl)) (by decide) (rm1 l Z a0 hw u1 h345 n0 Z347) 2 (by decide) (by decide) (by decide) (by decide) (g := (mkF m 17 #[.val (.int u0), .val (.int u1), .val (.int u2), .val (.int u3), .val (.int u4), .val (.ref b341), .unset, .unset, .unset] [(.int u1), (.int (1 : Int32)), (.ref b341)])) rfl (by rw [hml]; rfl) [(.int u1)] [(.int (1 : Int32)), (.ref b341)] rfl (lenOf pd_5 rfl) rfl (by show 2 * 0 + _ ≤ _; exact Nat.le_of_eq rfl) (hb hby at_17) ?_
  intro T348 L348 v348 X348 q348
  obtain ⟨⟨y348, rfl⟩, N348, hh348⟩ := q348
  obtain ⟨lc348, X348h, N348h⟩ := own_hide X348 (Fr.app N345h N348)
  show G (T348.setTop (mkF m 20 #[.val (.int u0), .val (.int u1), .val (.int u2), .val (.int u3), .val (.int u4), .val (.ref b341), .unset, .unset, .unset] [(.int y348), (.int (1 : Int32)), (.ref b341)]))
  refine own_bastore go X348h hx hZ hh348 1 rfl (by decide) (g := (mkF m 20 #[.val (.int u0), .val (.int u1), .val (.int u2), .val (.int u3), .val (.int u4), .val (.ref b341), .unset, .unset, .unset] [(.int y348), (.int (1 : Int32)), (.ref b341)])) rfl A345 rfl (hb hby at_20) ?_
  intro T349 h349 X349 e349 W349 A349
  have K350 : Keep h0 h349 [] := K346.wr W349 (Or.inr sz_b341)
  obtain ⟨lc349, X349h, N349h⟩ := own_hide X349 (Fr.snoc X349 N348h g_b341)
  have Z351 : n0 ≤ h349.size := Nat.le_trans Z347 (Nat.le_of_eq W349.size.symm)
  show G (T349.setTop (mkF m 21 #[.val (.int u0), .val (.int u1), .val (.int u2), .val (.int u3), .val (.int u4), .val (.ref b341), .unset, .unset, .unset] []))
  refine go _ _ (fun t' k' => XS.aload X349h.here hx rfl (hb hby at_21) rfl rfl  k') ?_
  show G (T349.setTop (mkF m 23 #[.val (.int u0), .val (.int u1), .val (.int u2), .val (.int u3), .val (.int u4), .val (.ref b341), .unset, .unset, .unset] [(.ref b341)]))
  refine go _ _ (fun t' k' => XS.iconst X349h.here hx rfl (hb hby at_23) k') ?_
  show G (T349.setTop (mkF m 24 #[.val (.int u0), .val (.int u1), .val (.int u2), .val (.int u3), .val (.int u4), .val (.ref b341), .unset, .unset, .unset] [(.int (2 : Int32)), (.ref b341)]))
  refine go _ _ (fun t' k' => XS.iloadN X349h.here hx rfl (hb hby at_24) rfl  k') ?_
  show G (T349.setTop (mkF m 25 #[.val (.int u0), .val (.int u1), .val (.int u2), .val (.int u3), .val (.int u4), .val (.ref b341), .unset, .unset, .unset] [(.int u2), (.int (2 : Int32)), (.ref b341)]))
  refine own_static go X349h hx hZ e349 hown (hw _ (List.mem_of_getElem? (i := 1) rfl)) (hw _ (List.mem_of_getElem? (i := 2) rfl)) (hw _ (List.mem_of_getElem? (i := 3) rfl)) (hw _ (List.mem_of_getElem? (i := 4) rfl)) (by decide) (rm1 l Z a0 hw u2 h349 n0 Z351) 2 (by decide) (by decide) (by decide) (by decide) (g := (mkF m 25 #[.val (.int u0), .val (.int u1), .val (.int u2), .val (.int u3), .val (.int u4), .val (.ref b341), .unset, .unset, .unset] [(.int u2), (.int (2 : Int32)), (.ref b341)])) rfl (by rw [hml]; rfl) [(.int u2)] [(.int (2 : Int32)), (.ref b341)] rfl (lenOf pd_5 rfl) rfl (by show 2 * 0 + _ ≤ _; exact Nat.le_of_eq rfl) (hb hby at_25) ?_
  intro T352 L352 v352 X352 q352
  obtain ⟨⟨y352, rfl⟩, N352, hh352⟩ := q352
  obtain ⟨lc352, X352h, N352h⟩ := own_hide X352 (Fr.app N349h N352)
  show G (T352.setTop (mkF m 28 #[.val (.int u0), .val (.int u1), .val (.int u2), .val (.int u3), .val (.int u4), .val (.ref b341), .unset, .unset, .unset] [(.int y352), (.int (2 : Int32)), (.ref b341)]))
  refine own_bastore go X352h hx hZ hh352 2 rfl (by decide) (g := (mkF m 28 #[.val (.int u0), .val (.int u1), .val (.int u2), .val (.int u3), .val (.int u4), .val (.ref b341), .unset, .unset, .unset] [(.int y352), (.int (2 : Int32)), (.ref b341)])) rfl A349 rfl (hb hby at_28) ?_
  intro T353 h353 X353 e353 W353 A353
  have K354 : Keep h0 h353 [] := K350.wr W353 (Or.inr sz_b341)
  obtain ⟨lc353, X353h, N353h⟩ := own_hide X353 (Fr.snoc X353 N352h g_b341)
  have Z355 : n0 ≤ h353.size := Nat.le_trans Z351 (Nat.le_of_eq W353.size.symm)
  show G (T353.setTop (mkF m 29 #[.val (.int u0), .val (.int u1), .val (.int u2), .val (.int u3), .val (.int u4), .val (.ref b341), .unset, .unset, .unset] []))
  refine go _ _ (fun t' k' => XS.aload X353h.here hx rfl (hb hby at_29) rfl rfl  k') ?_
  show G (T353.setTop (mkF m 31 #[.val (.int u0), .val (.int u1), .val (.int u2), .val (.int u3), .val (.int u4), .val (.ref b341), .unset, .unset, .unset] [(.ref b341)]))
  refine go _ _ (fun t' k' => XS.iconst X353h.here hx rfl (hb hby at_31) k') ?_
  show G (T353.setTop (mkF m 32 #[.val (.int u0), .val (.int u1), .val (.int u2), .val (.int u3), .val (.int u4), .val (.ref b341), .unset, .unset, .unset] [(.int (3 : Int32)), (.ref b341)]))
  refine go _ _ (fun t' k' => XS.iloadN X353h.here hx rfl (hb hby at_32) rfl  k') ?_
  show G (T353.setTop (mkF m 33 #[.val (.int u0), .val (.int u1), .val (.int u2), .val (.int u3), .val (.int u4), .val (.ref b341), .unset, .unset, .unset] [(.int u3), (.int (3 : Int32)), (.ref b341)]))
  refine own_static go X353h hx hZ e353 hown (hw _ (List.mem_of_getElem? (i := 1) rfl)) (hw _ (List.mem_of_getElem? (i := 2) rfl)) (hw _ (List.mem_of_getElem? (i := 3) rfl)) (hw _ (List.mem_of_getElem? (i := 4) rfl)) (by decide) (rm1 l Z a0 hw u3 h353 n0 Z355) 2 (by decide) (by decide) (by decide) (by decide) (g := (mkF m 33 #[.val (.int u0), .val (.int u1), .val (.int u2), .val (.int u3), .val (.int u4), .val (.ref b341), .unset, .unset, .unset] [(.int u3), (.int (3 : Int32)), (.ref b341)])) rfl (by rw [hml]; rfl) [(.int u3)] [(.int (3 : Int32)), (.ref b341)] rfl (lenOf pd_5 rfl) rfl (by show 2 * 0 + _ ≤ _; exact Nat.le_of_eq rfl) (hb hby at_33) ?_
  intro T356 L356 v356 X356 q356
  obtain ⟨⟨y356, rfl⟩, N356, hh356⟩ := q356
  obtain ⟨lc356, X356h, N356h⟩ := own_hide X356 (Fr.app N353h N356)
  show G (T356.setTop (mkF m 36 #[.val (.int u0), .val (.int u1), .val (.int u2), .val (.int u3), .val (.int u4), .val (.ref b341), .unset, .unset, .unset] [(.int y356), (.int (3 : Int32)), (.ref b341)]))
  refine own_bastore go X356h hx hZ hh356 3 rfl (by decide) (g := (mkF m 36 #[.val (.int u0), .val (.int u1), .val (.int u2), .val (.int u3), .val (.int u4), .val (.ref b341), .unset, .unset, .unset] [(.int y356), (.int (3 : Int32)), (.ref b341)])) rfl A353 rfl (hb hby at_36) ?_
  intro T357 h357 X357 e357 W357 A357
  have K358 : Keep h0 h357 [] := K354.wr W357 (Or.inr sz_b341)
  obtain ⟨lc357, X357h, N357h⟩ := own_hide X357 (Fr.snoc X357 N356h g_b341)
  have Z359 : n0 ≤ h357.size := Nat.le_trans Z355 (Nat.le_of_eq W357.size.symm)
  show G (T357.setTop (mkF m 37 #[.val (.int u0), .val (.int u1), .val (.int u2), .val (.int u3), .val (.int u4), .val (.ref b341), .unset, .unset, .unset] []))
  obtain ⟨gg, Agg⟩ := Ary.ints A357 (by simp)
  refine go _ _ (fun t' k' => XS.iload X357h.here hx rfl (hb hby at_37) rfl  k') ?_
  show G (T357.setTop (mkF m 39 #[.val (.int u0), .val (.int u1), .val (.int u2), .val (.int u3), .val (.int u4), .val (.ref b341), .unset, .unset, .unset] [(.int u4)]))
  refine go _ _ (fun t' k' => X357h.ldcInt hx hown (mvT hZ (hw _ (List.mem_of_getElem? (i := 5) rfl))) (g := (mkF m 39 #[.val (.int u0), .val (.int u1), .val (.int u2), .val (.int u3), .val (.int u4), .val (.ref b341), .unset, .unset, .unset] [(.int u4)])) rfl (hb hby at_39) _ k') ?_
  show G (T357.setTop (mkF m 41 #[.val (.int u0), .val (.int u1), .val (.int u2), .val (.int u3), .val (.int u4), .val (.ref b341), .unset, .unset, .unset] [(.int (2147483647 : Int32)), (.int u4)]))
  refine go _ _ (fun t' k' => XS.iand X357h.here hx rfl (hb hby at_41) rfl k') ?_
  show G (T357.setTop (mkF m 42 #[.val (.int u0), .val (.int u1), .val (.int u2), .val (.int u3), .val (.int u4), .val (.ref b341), .unset, .unset, .unset] [(.int (u4 &&& (2147483647 : Int32)))]))
  refine go _ _ (fun t' k' => XS.iconst X357h.here hx rfl (hb hby at_42) k') ?_
  show G (T357.setTop (mkF m 43 #[.val (.int u0), .val (.int u1), .val (.int u2), .val (.int u3), .val (.int u4), .val (.ref b341), .unset, .unset, .unset] [(.int (5 : Int32)), (.int (u4 &&& (2147483647 : Int32)))]))
  refine go _ _ (fun t' k' => iremM X357h hx rfl (hb hby at_43) rfl (by decide) k') ?_
  show G (T357.setTop (mkF m 44 #[.val (.int u0), .val (.int u1), .val (.int u2), .val (.int u3), .val (.int u4), .val (.ref b341), .unset, .unset, .unset] [(.int ((u4 &&& (2147483647 : Int32)) % (5 : Int32)))]))
  refine go _ _ (fun t' k' => XS.istore X357h.here hx rfl (hb hby at_44) rfl (l' := #[.val (.int u0), .val (.int u1), .val (.int u2), .val (.int u3), .val (.int u4), .val (.ref b341), .val (.int ((u4 &&& (2147483647 : Int32)) % (5 : Int32))), .unset, .unset]) rfl k') ?_
  show G (T357.setTop (mkF m 46 #[.val (.int u0), .val (.int u1), .val (.int u2), .val (.int u3), .val (.int u4), .val (.ref b341), .val (.int ((u4 &&& (2147483647 : Int32)) % (5 : Int32))), .unset, .unset] []))
  obtain ⟨len, hlen⟩ : ∃ z, z = ((u4 &&& (2147483647 : Int32)) % (5 : Int32)) := ⟨_, rfl⟩
  rw [← hlen]
  show G (T357.setTop (mkF m 46 #[.val (.int u0), .val (.int u1), .val (.int u2), .val (.int u3), .val (.int u4), .val (.ref b341), .val (.int len), .unset, .unset] []))
  obtain ⟨ln, hln, hl5⟩ := own_rem (d := 5) rfl (by decide) hlen
  obtain ⟨T360, h360, X360, e360, E360, A360, D360, -, st360⟩ := newO X357h hx hZ hown (hw _ (List.mem_of_getElem? (i := 6) rfl)) (hw _ (List.mem_of_getElem? (i := 7) rfl)) (hw _ (List.mem_of_getElem? (i := 8) rfl)) e357 (g := (mkF m 46 #[.val (.int u0), .val (.int u1), .val (.int u2), .val (.int u3), .val (.int u4), .val (.ref b341), .val (.int len), .unset, .unset] [])) rfl (hb hby at_46) (by decide) (by decide)
  obtain ⟨b360, g360⟩ : ∃ z, z = h357.size := ⟨_, rfl⟩
  rw [← g360] at A360 D360 st360
  have ne361 : b341 ≠ b360 := Nat.ne_of_lt (by rw [g360]; exact Agg.lt)
  have g_b360 : n0 ≤ b360 := Nat.le_trans Z359 (Nat.le_of_eq g360.symm)
  have sz_b360 : h0.size ≤ b360 := Nat.le_trans K358.1 (Nat.le_of_eq g360.symm)
  have Z362 : n0 ≤ h360.size := Nat.le_trans Z359 E360.1
  have K363 : Keep h0 h360 [] := K358.ext E360
  have F364 : Fld Z h360 b360 "com/example/caducee/caducee/ByteLines" "bytes" "[B" .null := D360 (Or.inr (hw _ (List.mem_of_getElem? (i := 16) rfl))) (ty := (.array .byte)) (by decide)
  have F365 : Fld Z h360 b360 "com/example/caducee/caducee/ByteLines" "length" "I" (.int (0 : Int32)) := D360 (Or.inr (hw _ (List.mem_of_getElem? (i := 18) rfl))) (ty := .int) (by decide)
  have F366 : Fld Z h360 b360 "com/example/caducee/caducee/ByteLines" "next" "I" (.int (0 : Int32)) := D360 (Or.inl (hw _ (List.mem_of_getElem? (i := 29) rfl))) (ty := .int) (by decide)
  have F367 : Fld Z h360 b360 "com/example/caducee/caducee/ByteLines" "number" "I" (.int (0 : Int32)) := D360 (Or.inl (hw _ (List.mem_of_getElem? (i := 36) rfl))) (ty := .int) (by decide)
  have F368 : Fld Z h360 b360 "com/example/caducee/caducee/ByteLines" "start" "I" (.int (0 : Int32)) := D360 (Or.inl (hw _ (List.mem_of_getElem? (i := 38) rfl))) (ty := .int) (by decide)
  have F369 : Fld Z h360 b360 "com/example/caducee/caducee/ByteLines" "end" "I" (.int (0 : Int32)) := D360 (Or.inl (hw _ (List.mem_of_getElem? (i := 40) rfl))) (ty := .int) (by decide)
  refine go _ _ st360 ?_
  show G (T360.setTop (mkF m 49 #[.val (.int u0), .val (.int u1), .val (.int u2), .val (.int u3), .val (.int u4), .val (.ref b341), .val (.int len), .unset, .unset] [(.ref b360)]))
  refine go _ _ (fun t' k' => XS.dup X360.here hx rfl (hb hby at_49) rfl rfl k') ?_
  show G (T360.setTop (mkF m 50 #[.val (.int u0), .val (.int u1), .val (.int u2), .val (.int u3), .val (.int u4), .val (.ref b341), .val (.int len), .unset, .unset] [(.ref b360), (.ref b360)]))
  refine go _ _ (fun t' k' => XS.aload X360.here hx rfl (hb hby at_50) rfl rfl  k') ?_
  show G (T360.setTop (mkF m 52 #[.val (.int u0), .val (.int u1), .val (.int u2), .val (.int u3), .val (.int u4), .val (.ref b341), .val (.int len), .unset, .unset] [(.ref b341), (.ref b360), (.ref b360)]))
  refine go _ _ (fun t' k' => XS.iload X360.here hx rfl (hb hby at_52) rfl  k') ?_
  show G (T360.setTop (mkF m 54 #[.val (.int u0), .val (.int u1), .val (.int u2), .val (.int u3), .val (.int u4), .val (.ref b341), .val (.int len), .unset, .unset] [(.int len), (.ref b341), (.ref b360), (.ref b360)]))
  refine own_init go X360 hx hZ e360 rfl hown (hw _ (List.mem_of_getElem? (i := 9) rfl)) (hw _ (List.mem_of_getElem? (i := 10) rfl)) (hw _ (List.mem_of_getElem? (i := 8) rfl)) (hw _ (List.mem_of_getElem? (i := 11) rfl)) (by decide) (rm2 l Z a0 hw b360 b341 len h360 n0 Z362 g_b360 A360 F364 F365 F367 F368 F369 F366) 1 (by decide) (by decide) (by decide) (by decide) (g := (mkF m 54 #[.val (.int u0), .val (.int u1), .val (.int u2), .val (.int u3), .val (.int u4), .val (.ref b341), .val (.int len), .unset, .unset] [(.int len), (.ref b341), (.ref b360), (.ref b360)])) rfl (by rw [hml]; rfl) b360 [(.ref b341), (.int len)] [(.ref b360)] rfl (lenOf pd_6 rfl) rfl (by show 2 * 0 + _ ≤ _; exact Nat.le_of_eq rfl) (hb hby at_54) ?_
  intro T370 L370 v370 X370 q370
  obtain ⟨rfl, N370, K370, B370⟩ := q370
  obtain ⟨lc370, X370h, N370h⟩ := own_hide X370 (Fr.app N357h N370)
  have K371 : Keep h0 T370.heap [] := K363.trans K370 (allS (Or.inr sz_b360) all0)
  have Z372 : n0 ≤ T370.heap.size := Nat.le_trans Z362 K370.1
  obtain ⟨B373E, B373b, B373L, B373m, B373s, B373e, B373n⟩ := B370
  show G (T370.setTop (mkF m 57 #[.val (.int u0), .val (.int u1), .val (.int u2), .val (.int u3), .val (.int u4), .val (.ref b341), .val (.int len), .unset, .unset] [(.ref b360)]))
  refine go _ _ (fun t' k' => XS.astore X370h.here hx rfl (hb hby at_57) rfl rfl (l' := #[.val (.int u0), .val (.int u1), .val (.int u2), .val (.int u3), .val (.int u4), .val (.ref b341), .val (.int len), .val (.ref b360), .unset]) rfl k') ?_
  show G (T370.setTop (mkF m 59 #[.val (.int u0), .val (.int u1), .val (.int u2), .val (.int u3), .val (.int u4), .val (.ref b341), .val (.int len), .val (.ref b360), .unset] []))
  refine go _ _ (fun t' k' => XS.iconst X370h.here hx rfl (hb hby at_59) k') ?_
  show G (T370.setTop (mkF m 60 #[.val (.int u0), .val (.int u1), .val (.int u2), .val (.int u3), .val (.int u4), .val (.ref b341), .val (.int len), .val (.ref b360), .unset] [(.int (3 : Int32))]))
  refine own_newarr go X370h hx hZ rfl (g := (mkF m 60 #[.val (.int u0), .val (.int u1), .val (.int u2), .val (.int u3), .val (.int u4), .val (.ref b341), .val (.int len), .val (.ref b360), .unset] [(.int (3 : Int32))])) rfl (hw _ (List.mem_of_getElem? (i := 19) rfl)) 3 rfl (hb hby at_60) rfl 3 (by decide) (by decide) (by decide) (by decide) ?_
  intro T374 h374 b374 X374 e374 E374 g374 A374
  have f376 := ((Agg.ext E360).keep K370 (ninS ne361 nin0))
  have ne375 : b341 ≠ b374 := Nat.ne_of_lt (by rw [g374]; exact f376.lt)
  have ne377 : b360 ≠ b374 := Nat.ne_of_lt (by rw [g374]; exact B373E.lt)
  have g_b374 : n0 ≤ b374 := Nat.le_trans Z372 (Nat.le_of_eq g374.symm)
  have sz_b374 : h0.size ≤ b374 := Nat.le_trans K371.1 (Nat.le_of_eq g374.symm)
  have Z378 : n0 ≤ h374.size := Nat.le_trans Z372 E374.1
  have K379 : Keep h0 h374 [] := K371.ext E374
  show G (T374.setTop (mkF m 62 #[.val (.int u0), .val (.int u1), .val (.int u2), .val (.int u3), .val (.int u4), .val (.ref b341), .val (.int len), .val (.ref b360), .unset] [(.ref b374)]))
  refine go _ _ (fun t' k' => XS.astore X374.here hx rfl (hb hby at_62) rfl rfl (l' := #[.val (.int u0), .val (.int u1), .val (.int u2), .val (.int u3), .val (.int u4), .val (.ref b341), .val (.int len), .val (.ref b360), .val (.ref b374)]) rfl k') ?_
  show G (T374.setTop (mkF m 64 #[.val (.int u0), .val (.int u1), .val (.int u2), .val (.int u3), .val (.int u4), .val (.ref b341), .val (.int len), .val (.ref b360), .val (.ref b374)] []))
  refine go _ _ (fun t' k' => XS.aload X374.here hx rfl (hb hby at_64) rfl rfl  k') ?_
  show G (T374.setTop (mkF m 66 #[.val (.int u0), .val (.int u1), .val (.int u2), .val (.int u3), .val (.int u4), .val (.ref b341), .val (.int len), .val (.ref b360), .val (.ref b374)] [(.ref b374)]))
  refine go _ _ (fun t' k' => XS.iconst X374.here hx rfl (hb hby at_66) k') ?_
  show G (T374.setTop (mkF m 67 #[.val (.int u0), .val (.int u1), .val (.int u2), .val (.int u3), .val (.int u4), .val (.ref b341), .val (.int len), .val (.ref b360), .val (.ref b374)] [(.int (0 : Int32)), (.ref b374)]))
  refine go _ _ (fun t' k' => XS.iconst X374.here hx rfl (hb hby at_67) k') ?_
  show G (T374.setTop (mkF m 68 #[.val (.int u0), .val (.int u1), .val (.int u2), .val (.int u3), .val (.int u4), .val (.ref b341), .val (.int len), .val (.ref b360), .val (.ref b374)] [(.int (0 : Int32)), (.int (0 : Int32)), (.ref b374)]))
  refine own_iastore go X374 hx hZ e374 0 rfl (by decide) (g := (mkF m 68 #[.val (.int u0), .val (.int u1), .val (.int u2), .val (.int u3), .val (.int u4), .val (.ref b341), .val (.int len), .val (.ref b360), .val (.ref b374)] [(.int (0 : Int32)), (.int (0 : Int32)), (.ref b374)])) rfl A374 rfl (hb hby at_68) ?_
  intro T380 h380 X380 e380 W380 A380
  have K381 : Keep h0 h380 [] := K379.wr W380 (Or.inr sz_b374)
  obtain ⟨lc380, X380h, N380h⟩ := own_hide X380 (Fr.snoc X380 N370h g_b374)
  have Z382 : n0 ≤ h380.size := Nat.le_trans Z378 (Nat.le_of_eq W380.size.symm)
  show G (T380.setTop (mkF m 69 #[.val (.int u0), .val (.int u1), .val (.int u2), .val (.int u3), .val (.int u4), .val (.ref b341), .val (.int len), .val (.ref b360), .val (.ref b374)] []))
  refine go _ _ (fun t' k' => XS.aload X380h.here hx rfl (hb hby at_69) rfl rfl  k') ?_
  show G (T380.setTop (mkF m 71 #[.val (.int u0), .val (.int u1), .val (.int u2), .val (.int u3), .val (.int u4), .val (.ref b341), .val (.int len), .val (.ref b360), .val (.ref b374)] [(.ref b374)]))
  refine go _ _ (fun t' k' => XS.iconst X380h.here hx rfl (hb hby at_71) k') ?_
  show G (T380.setTop (mkF m 72 #[.val (.int u0), .val (.int u1), .val (.int u2), .val (.int u3), .val (.int u4), .val (.ref b341), .val (.int len), .val (.ref b360), .val (.ref b374)] [(.int (1 : Int32)), (.ref b374)]))
  refine go _ _ (fun t' k' => XS.iconst X380h.here hx rfl (hb hby at_72) k') ?_
  show G (T380.setTop (mkF m 73 #[.val (.int u0), .val (.int u1), .val (.int u2), .val (.int u3), .val (.int u4), .val (.ref b341), .val (.int len), .val (.ref b360), .val (.ref b374)] [(.int (0 : Int32)), (.int (1 : Int32)), (.ref b374)]))
  refine own_iastore go X380h hx hZ e380 1 rfl (by decide) (g := (mkF m 73 #[.val (.int u0), .val (.int u1), .val (.int u2), .val (.int u3), .val (.int u4), .val (.ref b341), .val (.int len), .val (.ref b360), .val (.ref b374)] [(.int (0 : Int32)), (.int (1 : Int32)), (.ref b374)])) rfl A380 rfl (hb hby at_73) ?_
  intro T383 h383 X383 e383 W383 A383
  have K384 : Keep h0 h383 [] := K381.wr W383 (Or.inr sz_b374)
  obtain ⟨lc383, X383h, N383h⟩ := own_hide X383 (Fr.snoc X383 N380h g_b374)
  have Z385 : n0 ≤ h383.size := Nat.le_trans Z382 (Nat.le_of_eq W383.size.symm)
  show G (T383.setTop (mkF m 74 #[.val (.int u0), .val (.int u1), .val (.int u2), .val (.int u3), .val (.int u4), .val (.ref b341), .val (.int len), .val (.ref b360), .val (.ref b374)] []))
  refine go _ _ (fun t' k' => XS.aload X383h.here hx rfl (hb hby at_74) rfl rfl  k') ?_
  show G (T383.setTop (mkF m 76 #[.val (.int u0), .val (.int u1), .val (.int u2), .val (.int u3), .val (.int u4), .val (.ref b341), .val (.int len), .val (.ref b360), .val (.ref b374)] [(.ref b374)]))
  refine go _ _ (fun t' k' => XS.iconst X383h.here hx rfl (hb hby at_76) k') ?_
  show G (T383.setTop (mkF m 77 #[.val (.int u0), .val (.int u1), .val (.int u2), .val (.int u3), .val (.int u4), .val (.ref b341), .val (.int len), .val (.ref b360), .val (.ref b374)] [(.int (2 : Int32)), (.ref b374)]))
  refine go _ _ (fun t' k' => XS.iconst X383h.here hx rfl (hb hby at_77) k') ?_
  show G (T383.setTop (mkF m 78 #[.val (.int u0), .val (.int u1), .val (.int u2), .val (.int u3), .val (.int u4), .val (.ref b341), .val (.int len), .val (.ref b360), .val (.ref b374)] [(.int (1 : Int32)), (.int (2 : Int32)), (.ref b374)]))
  refine own_iastore go X383h hx hZ e383 2 rfl (by decide) (g := (mkF m 78 #[.val (.int u0), .val (.int u1), .val (.int u2), .val (.int u3), .val (.int u4), .val (.ref b341), .val (.int len), .val (.ref b360), .val (.ref b374)] [(.int (1 : Int32)), (.int (2 : Int32)), (.ref b374)])) rfl A383 rfl (hb hby at_78) ?_
  intro T386 h386 X386 e386 W386 A386
  have K387 : Keep h0 h386 [] := K384.wr W386 (Or.inr sz_b374)
  obtain ⟨lc386, X386h, N386h⟩ := own_hide X386 (Fr.snoc X386 N383h g_b374)
  have Z388 : n0 ≤ h386.size := Nat.le_trans Z385 (Nat.le_of_eq W386.size.symm)
  show G (T386.setTop (mkF m 79 #[.val (.int u0), .val (.int u1), .val (.int u2), .val (.int u3), .val (.int u4), .val (.ref b341), .val (.int len), .val (.ref b360), .val (.ref b374)] []))
  have Ast := A386.cong (g := fun i => .int (stf 0 0 i)) own_st0
  refine go _ _ (fun t' k' => XS.aload X386h.here hx rfl (hb hby at_79) rfl rfl  k') ?_
  show G (T386.setTop (mkF m 81 #[.val (.int u0), .val (.int u1), .val (.int u2), .val (.int u3), .val (.int u4), .val (.ref b341), .val (.int len), .val (.ref b360), .val (.ref b374)] [(.ref b360)]))
  refine go _ _ (fun t' k' => XS.aload X386h.here hx rfl (hb hby at_81) rfl rfl  k') ?_
  show G (T386.setTop (mkF m 83 #[.val (.int u0), .val (.int u1), .val (.int u2), .val (.int u3), .val (.int u4), .val (.ref b341), .val (.int len), .val (.ref b360), .val (.ref b374)] [(.ref b341), (.ref b360)]))
  refine go _ _ (fun t' k' => XS.iload X386h.here hx rfl (hb hby at_83) rfl  k') ?_
  show G (T386.setTop (mkF m 85 #[.val (.int u0), .val (.int u1), .val (.int u2), .val (.int u3), .val (.int u4), .val (.ref b341), .val (.int len), .val (.ref b360), .val (.ref b374)] [(.int len), (.ref b341), (.ref b360)]))
  refine go _ _ (fun t' k' => XS.aload X386h.here hx rfl (hb hby at_85) rfl rfl  k') ?_
  show G (T386.setTop (mkF m 87 #[.val (.int u0), .val (.int u1), .val (.int u2), .val (.int u3), .val (.int u4), .val (.ref b341), .val (.int len), .val (.ref b360), .val (.ref b374)] [(.ref b374), (.int len), (.ref b341), (.ref b360)]))
  have f389 := ((((f376.ext E374).other W380 ne375).other W383 ne375).other W386 ne375)
  have f390 := ((((B373E.ext E374).wr W380).wr W383).wr W386)
  have f391 := ((((B373b.ext E374).other W380 (Or.inl ne377)).other W383 (Or.inl ne377)).other W386 (Or.inl ne377))
  have f392 := ((((B373L.ext E374).other W380 (Or.inl ne377)).other W383 (Or.inl ne377)).other W386 (Or.inl ne377))
  have f393 := ((((B373m.ext E374).other W380 (Or.inl ne377)).other W383 (Or.inl ne377)).other W386 (Or.inl ne377))
  have f394 := ((((B373s.ext E374).other W380 (Or.inl ne377)).other W383 (Or.inl ne377)).other W386 (Or.inl ne377))
  have f395 := ((((B373e.ext E374).other W380 (Or.inl ne377)).other W383 (Or.inl ne377)).other W386 (Or.inl ne377))
  have f396 := ((((B373n.ext E374).other W380 (Or.inl ne377)).other W383 (Or.inl ne377)).other W386 (Or.inl ne377))
  refine own_static go X386h hx hZ e386 hown (hw _ (List.mem_of_getElem? (i := 20) rfl)) (hw _ (List.mem_of_getElem? (i := 21) rfl)) (hw _ (List.mem_of_getElem? (i := 3) rfl)) (hw _ (List.mem_of_getElem? (i := 22) rfl)) (by decide) (rm8 l Z a0 hw b360 b341 len b374 (0 : Int32) (0 : Int32) (0 : Int32) (0 : Int32) gg 0 ln h386 n0 Z388 g_b360 g_b374 ne361 ne375 (Ne.symm ne377) ⟨f390, f391, f392, f393, f394, f395, f396⟩ f389 Ast hln (by omega) rfl (Nat.zero_le _)) 0 (by decide) (by decide) (by decide) (by decide) (g := (mkF m 87 #[.val (.int u0), .val (.int u1), .val (.int u2), .val (.int u3), .val (.int u4), .val (.ref b341), .val (.int len), .val (.ref b360), .val (.ref b374)] [(.ref b374), (.int len), (.ref b341), (.ref b360)])) rfl (by rw [hml]; rfl) [(.ref b360), (.ref b341), (.int len), (.ref b374)] [] rfl (lenOf pd_7 rfl) rfl (by show 2 * 0 + _ ≤ _; exact Nat.le_of_eq rfl) (hb hby at_87) ?_
  intro T397 L397 v397 X397 q397
  obtain ⟨rfl, N397, K397, nm397, st397, en397, nx397, k397, B397, hnx397, hkl397, As397⟩ := q397
  obtain ⟨lc397, X397h, N397h⟩ := own_hide X397 (Fr.app N386h N397)
  have K398 : Keep h0 T397.heap [] := K387.trans K397 (allS (Or.inr sz_b360) (allS (Or.inr sz_b374) all0))
  have Z399 : n0 ≤ T397.heap.size := Nat.le_trans Z388 K397.1
  obtain ⟨B400E, B400b, B400L, B400m, B400s, B400e, B400n⟩ := B397
  show G (T397.setTop (mkF m 90 #[.val (.int u0), .val (.int u1), .val (.int u2), .val (.int u3), .val (.int u4), .val (.ref b341), .val (.int len), .val (.ref b360), .val (.ref b374)] []))
  refine go _ _ (fun t' k' => XS.aload X397h.here hx rfl (hb hby at_90) rfl rfl  k') ?_
  show G (T397.setTop (mkF m 92 #[.val (.int u0), .val (.int u1), .val (.int u2), .val (.int u3), .val (.int u4), .val (.ref b341), .val (.int len), .val (.ref b360), .val (.ref b374)] [(.ref b360)]))
  refine go _ _ (fun t' k' => XS.aload X397h.here hx rfl (hb hby at_92) rfl rfl  k') ?_
  show G (T397.setTop (mkF m 94 #[.val (.int u0), .val (.int u1), .val (.int u2), .val (.int u3), .val (.int u4), .val (.ref b341), .val (.int len), .val (.ref b360), .val (.ref b374)] [(.ref b341), (.ref b360)]))
  refine go _ _ (fun t' k' => XS.iload X397h.here hx rfl (hb hby at_94) rfl  k') ?_
  show G (T397.setTop (mkF m 96 #[.val (.int u0), .val (.int u1), .val (.int u2), .val (.int u3), .val (.int u4), .val (.ref b341), .val (.int len), .val (.ref b360), .val (.ref b374)] [(.int len), (.ref b341), (.ref b360)]))
  refine go _ _ (fun t' k' => XS.aload X397h.here hx rfl (hb hby at_96) rfl rfl  k') ?_
  show G (T397.setTop (mkF m 98 #[.val (.int u0), .val (.int u1), .val (.int u2), .val (.int u3), .val (.int u4), .val (.ref b341), .val (.int len), .val (.ref b360), .val (.ref b374)] [(.ref b374), (.int len), (.ref b341), (.ref b360)]))
  have f401 := (f389.keep K397 (ninS ne361 (ninS ne375 nin0)))
  refine own_static go X397h hx hZ rfl hown (hw _ (List.mem_of_getElem? (i := 20) rfl)) (hw _ (List.mem_of_getElem? (i := 21) rfl)) (hw _ (List.mem_of_getElem? (i := 3) rfl)) (hw _ (List.mem_of_getElem? (i := 22) rfl)) (by decide) (rm8 l Z a0 hw b360 b341 len b374 nm397 st397 en397 nx397 gg k397 ln T397.heap n0 Z399 g_b360 g_b374 ne361 ne375 (Ne.symm ne377) ⟨B400E, B400b, B400L, B400m, B400s, B400e, B400n⟩ f401 As397 hln (by omega) hnx397 hkl397) 0 (by decide) (by decide) (by decide) (by decide) (g := (mkF m 98 #[.val (.int u0), .val (.int u1), .val (.int u2), .val (.int u3), .val (.int u4), .val (.ref b341), .val (.int len), .val (.ref b360), .val (.ref b374)] [(.ref b374), (.int len), (.ref b341), (.ref b360)])) rfl (by rw [hml]; rfl) [(.ref b360), (.ref b341), (.int len), (.ref b374)] [] rfl (lenOf pd_7 rfl) rfl (by show 2 * 0 + _ ≤ _; exact Nat.le_of_eq rfl) (hb hby at_98) ?_
  intro T402 L402 v402 X402 q402
  obtain ⟨rfl, N402, K402, nm402, st402, en402, nx402, k402, B402, hnx402, hkl402, As402⟩ := q402
  obtain ⟨lc402, X402h, N402h⟩ := own_hide X402 (Fr.app N397h N402)
  have K403 : Keep h0 T402.heap [] := K398.trans K402 (allS (Or.inr sz_b360) (allS (Or.inr sz_b374) all0))
  have Z404 : n0 ≤ T402.heap.size := Nat.le_trans Z399 K402.1
  obtain ⟨B405E, B405b, B405L, B405m, B405s, B405e, B405n⟩ := B402
  show G (T402.setTop (mkF m 101 #[.val (.int u0), .val (.int u1), .val (.int u2), .val (.int u3), .val (.int u4), .val (.ref b341), .val (.int len), .val (.ref b360), .val (.ref b374)] []))
  refine go _ _ (fun t' k' => XS.aload X402h.here hx rfl (hb hby at_101) rfl rfl  k') ?_
  show G (T402.setTop (mkF m 103 #[.val (.int u0), .val (.int u1), .val (.int u2), .val (.int u3), .val (.int u4), .val (.ref b341), .val (.int len), .val (.ref b360), .val (.ref b374)] [(.ref b360)]))
  refine go _ _ (fun t' k' => XS.aload X402h.here hx rfl (hb hby at_103) rfl rfl  k') ?_
  show G (T402.setTop (mkF m 105 #[.val (.int u0), .val (.int u1), .val (.int u2), .val (.int u3), .val (.int u4), .val (.ref b341), .val (.int len), .val (.ref b360), .val (.ref b374)] [(.ref b341), (.ref b360)]))
  refine go _ _ (fun t' k' => XS.iload X402h.here hx rfl (hb hby at_105) rfl  k') ?_
  show G (T402.setTop (mkF m 107 #[.val (.int u0), .val (.int u1), .val (.int u2), .val (.int u3), .val (.int u4), .val (.ref b341), .val (.int len), .val (.ref b360), .val (.ref b374)] [(.int len), (.ref b341), (.ref b360)]))
  refine go _ _ (fun t' k' => XS.aload X402h.here hx rfl (hb hby at_107) rfl rfl  k') ?_
  show G (T402.setTop (mkF m 109 #[.val (.int u0), .val (.int u1), .val (.int u2), .val (.int u3), .val (.int u4), .val (.ref b341), .val (.int len), .val (.ref b360), .val (.ref b374)] [(.ref b374), (.int len), (.ref b341), (.ref b360)]))
  have f406 := (f401.keep K402 (ninS ne361 (ninS ne375 nin0)))
  refine own_static go X402h hx hZ rfl hown (hw _ (List.mem_of_getElem? (i := 20) rfl)) (hw _ (List.mem_of_getElem? (i := 21) rfl)) (hw _ (List.mem_of_getElem? (i := 3) rfl)) (hw _ (List.mem_of_getElem? (i := 22) rfl)) (by decide) (rm8 l Z a0 hw b360 b341 len b374 nm402 st402 en402 nx402 gg k402 ln T402.heap n0 Z404 g_b360 g_b374 ne361 ne375 (Ne.symm ne377) ⟨B405E, B405b, B405L, B405m, B405s, B405e, B405n⟩ f406 As402 hln (by omega) hnx402 hkl402) 0 (by decide) (by decide) (by decide) (by decide) (g := (mkF m 109 #[.val (.int u0), .val (.int u1), .val (.int u2), .val (.int u3), .val (.int u4), .val (.ref b341), .val (.int len), .val (.ref b360), .val (.ref b374)] [(.ref b374), (.int len), (.ref b341), (.ref b360)])) rfl (by rw [hml]; rfl) [(.ref b360), (.ref b341), (.int len), (.ref b374)] [] rfl (lenOf pd_7 rfl) rfl (by show 2 * 0 + _ ≤ _; exact Nat.le_of_eq rfl) (hb hby at_109) ?_
  intro T407 L407 v407 X407 q407
  obtain ⟨rfl, N407, K407, nm407, st407, en407, nx407, k407, B407, hnx407, hkl407, As407⟩ := q407
  obtain ⟨lc407, X407h, N407h⟩ := own_hide X407 (Fr.app N402h N407)
  have K408 : Keep h0 T407.heap [] := K403.trans K407 (allS (Or.inr sz_b360) (allS (Or.inr sz_b374) all0))
  have Z409 : n0 ≤ T407.heap.size := Nat.le_trans Z404 K407.1
  obtain ⟨B410E, B410b, B410L, B410m, B410s, B410e, B410n⟩ := B407
  show G (T407.setTop (mkF m 112 #[.val (.int u0), .val (.int u1), .val (.int u2), .val (.int u3), .val (.int u4), .val (.ref b341), .val (.int len), .val (.ref b360), .val (.ref b374)] []))
  refine go _ _ (fun t' k' => XS.aload X407h.here hx rfl (hb hby at_112) rfl rfl  k') ?_
  show G (T407.setTop (mkF m 114 #[.val (.int u0), .val (.int u1), .val (.int u2), .val (.int u3), .val (.int u4), .val (.ref b341), .val (.int len), .val (.ref b360), .val (.ref b374)] [(.ref b360)]))
  refine go _ _ (fun t' k' => XS.aload X407h.here hx rfl (hb hby at_114) rfl rfl  k') ?_
  show G (T407.setTop (mkF m 116 #[.val (.int u0), .val (.int u1), .val (.int u2), .val (.int u3), .val (.int u4), .val (.ref b341), .val (.int len), .val (.ref b360), .val (.ref b374)] [(.ref b341), (.ref b360)]))
  refine go _ _ (fun t' k' => XS.iload X407h.here hx rfl (hb hby at_116) rfl  k') ?_
  show G (T407.setTop (mkF m 118 #[.val (.int u0), .val (.int u1), .val (.int u2), .val (.int u3), .val (.int u4), .val (.ref b341), .val (.int len), .val (.ref b360), .val (.ref b374)] [(.int len), (.ref b341), (.ref b360)]))
  refine go _ _ (fun t' k' => XS.aload X407h.here hx rfl (hb hby at_118) rfl rfl  k') ?_
  show G (T407.setTop (mkF m 120 #[.val (.int u0), .val (.int u1), .val (.int u2), .val (.int u3), .val (.int u4), .val (.ref b341), .val (.int len), .val (.ref b360), .val (.ref b374)] [(.ref b374), (.int len), (.ref b341), (.ref b360)]))
  have f411 := (f406.keep K407 (ninS ne361 (ninS ne375 nin0)))
  refine own_static go X407h hx hZ rfl hown (hw _ (List.mem_of_getElem? (i := 20) rfl)) (hw _ (List.mem_of_getElem? (i := 21) rfl)) (hw _ (List.mem_of_getElem? (i := 3) rfl)) (hw _ (List.mem_of_getElem? (i := 22) rfl)) (by decide) (rm8 l Z a0 hw b360 b341 len b374 nm407 st407 en407 nx407 gg k407 ln T407.heap n0 Z409 g_b360 g_b374 ne361 ne375 (Ne.symm ne377) ⟨B410E, B410b, B410L, B410m, B410s, B410e, B410n⟩ f411 As407 hln (by omega) hnx407 hkl407) 0 (by decide) (by decide) (by decide) (by decide) (g := (mkF m 120 #[.val (.int u0), .val (.int u1), .val (.int u2), .val (.int u3), .val (.int u4), .val (.ref b341), .val (.int len), .val (.ref b360), .val (.ref b374)] [(.ref b374), (.int len), (.ref b341), (.ref b360)])) rfl (by rw [hml]; rfl) [(.ref b360), (.ref b341), (.int len), (.ref b374)] [] rfl (lenOf pd_7 rfl) rfl (by show 2 * 0 + _ ≤ _; exact Nat.le_of_eq rfl) (hb hby at_120) ?_
  intro T412 L412 v412 X412 q412
  obtain ⟨rfl, N412, K412, nm412, st412, en412, nx412, k412, B412, hnx412, hkl412, As412⟩ := q412
  obtain ⟨lc412, X412h, N412h⟩ := own_hide X412 (Fr.app N407h N412)
  have K413 : Keep h0 T412.heap [] := K408.trans K412 (allS (Or.inr sz_b360) (allS (Or.inr sz_b374) all0))
  have Z414 : n0 ≤ T412.heap.size := Nat.le_trans Z409 K412.1
  obtain ⟨B415E, B415b, B415L, B415m, B415s, B415e, B415n⟩ := B412
  show G (T412.setTop (mkF m 123 #[.val (.int u0), .val (.int u1), .val (.int u2), .val (.int u3), .val (.int u4), .val (.ref b341), .val (.int len), .val (.ref b360), .val (.ref b374)] []))
  refine go _ _ (fun t' k' => XS.aload X412h.here hx rfl (hb hby at_123) rfl rfl  k') ?_
  show G (T412.setTop (mkF m 125 #[.val (.int u0), .val (.int u1), .val (.int u2), .val (.int u3), .val (.int u4), .val (.ref b341), .val (.int len), .val (.ref b360), .val (.ref b374)] [(.ref b360)]))
  refine go _ _ (fun t' k' => XS.aload X412h.here hx rfl (hb hby at_125) rfl rfl  k') ?_
  show G (T412.setTop (mkF m 127 #[.val (.int u0), .val (.int u1), .val (.int u2), .val (.int u3), .val (.int u4), .val (.ref b341), .val (.int len), .val (.ref b360), .val (.ref b374)] [(.ref b341), (.ref b360)]))
  refine go _ _ (fun t' k' => XS.iload X412h.here hx rfl (hb hby at_127) rfl  k') ?_
  show G (T412.setTop (mkF m 129 #[.val (.int u0), .val (.int u1), .val (.int u2), .val (.int u3), .val (.int u4), .val (.ref b341), .val (.int len), .val (.ref b360), .val (.ref b374)] [(.int len), (.ref b341), (.ref b360)]))
  refine go _ _ (fun t' k' => XS.aload X412h.here hx rfl (hb hby at_129) rfl rfl  k') ?_
  show G (T412.setTop (mkF m 131 #[.val (.int u0), .val (.int u1), .val (.int u2), .val (.int u3), .val (.int u4), .val (.ref b341), .val (.int len), .val (.ref b360), .val (.ref b374)] [(.ref b374), (.int len), (.ref b341), (.ref b360)]))
  have f416 := (f411.keep K412 (ninS ne361 (ninS ne375 nin0)))
  refine own_static go X412h hx hZ rfl hown (hw _ (List.mem_of_getElem? (i := 20) rfl)) (hw _ (List.mem_of_getElem? (i := 21) rfl)) (hw _ (List.mem_of_getElem? (i := 3) rfl)) (hw _ (List.mem_of_getElem? (i := 22) rfl)) (by decide) (rm8 l Z a0 hw b360 b341 len b374 nm412 st412 en412 nx412 gg k412 ln T412.heap n0 Z414 g_b360 g_b374 ne361 ne375 (Ne.symm ne377) ⟨B415E, B415b, B415L, B415m, B415s, B415e, B415n⟩ f416 As412 hln (by omega) hnx412 hkl412) 0 (by decide) (by decide) (by decide) (by decide) (g := (mkF m 131 #[.val (.int u0), .val (.int u1), .val (.int u2), .val (.int u3), .val (.int u4), .val (.ref b341), .val (.int len), .val (.ref b360), .val (.ref b374)] [(.ref b374), (.int len), (.ref b341), (.ref b360)])) rfl (by rw [hml]; rfl) [(.ref b360), (.ref b341), (.int len), (.ref b374)] [] rfl (lenOf pd_7 rfl) rfl (by show 2 * 0 + _ ≤ _; exact Nat.le_of_eq rfl) (hb hby at_131) ?_
  intro T417 L417 v417 X417 q417
  obtain ⟨rfl, N417, K417, nm417, st417, en417, nx417, k417, B417, hnx417, hkl417, As417⟩ := q417
  obtain ⟨lc417, X417h, N417h⟩ := own_hide X417 (Fr.app N412h N417)
  have K418 : Keep h0 T417.heap [] := K413.trans K417 (allS (Or.inr sz_b360) (allS (Or.inr sz_b374) all0))
  have Z419 : n0 ≤ T417.heap.size := Nat.le_trans Z414 K417.1
  obtain ⟨B420E, B420b, B420L, B420m, B420s, B420e, B420n⟩ := B417
  show G (T417.setTop (mkF m 134 #[.val (.int u0), .val (.int u1), .val (.int u2), .val (.int u3), .val (.int u4), .val (.ref b341), .val (.int len), .val (.ref b360), .val (.ref b374)] []))
  refine go _ _ (fun t' k' => XS.aload X417h.here hx rfl (hb hby at_134) rfl rfl  k') ?_
  show G (T417.setTop (mkF m 136 #[.val (.int u0), .val (.int u1), .val (.int u2), .val (.int u3), .val (.int u4), .val (.ref b341), .val (.int len), .val (.ref b360), .val (.ref b374)] [(.ref b360)]))
  refine go _ _ (fun t' k' => XS.aload X417h.here hx rfl (hb hby at_136) rfl rfl  k') ?_
  show G (T417.setTop (mkF m 138 #[.val (.int u0), .val (.int u1), .val (.int u2), .val (.int u3), .val (.int u4), .val (.ref b341), .val (.int len), .val (.ref b360), .val (.ref b374)] [(.ref b341), (.ref b360)]))
  refine go _ _ (fun t' k' => XS.iload X417h.here hx rfl (hb hby at_138) rfl  k') ?_
  show G (T417.setTop (mkF m 140 #[.val (.int u0), .val (.int u1), .val (.int u2), .val (.int u3), .val (.int u4), .val (.ref b341), .val (.int len), .val (.ref b360), .val (.ref b374)] [(.int len), (.ref b341), (.ref b360)]))
  refine go _ _ (fun t' k' => XS.aload X417h.here hx rfl (hb hby at_140) rfl rfl  k') ?_
  show G (T417.setTop (mkF m 142 #[.val (.int u0), .val (.int u1), .val (.int u2), .val (.int u3), .val (.int u4), .val (.ref b341), .val (.int len), .val (.ref b360), .val (.ref b374)] [(.ref b374), (.int len), (.ref b341), (.ref b360)]))
  have f421 := (f416.keep K417 (ninS ne361 (ninS ne375 nin0)))
  refine own_static go X417h hx hZ rfl hown (hw _ (List.mem_of_getElem? (i := 20) rfl)) (hw _ (List.mem_of_getElem? (i := 21) rfl)) (hw _ (List.mem_of_getElem? (i := 3) rfl)) (hw _ (List.mem_of_getElem? (i := 22) rfl)) (by decide) (rm8 l Z a0 hw b360 b341 len b374 nm417 st417 en417 nx417 gg k417 ln T417.heap n0 Z419 g_b360 g_b374 ne361 ne375 (Ne.symm ne377) ⟨B420E, B420b, B420L, B420m, B420s, B420e, B420n⟩ f421 As417 hln (by omega) hnx417 hkl417) 0 (by decide) (by decide) (by decide) (by decide) (g := (mkF m 142 #[.val (.int u0), .val (.int u1), .val (.int u2), .val (.int u3), .val (.int u4), .val (.ref b341), .val (.int len), .val (.ref b360), .val (.ref b374)] [(.ref b374), (.int len), (.ref b341), (.ref b360)])) rfl (by rw [hml]; rfl) [(.ref b360), (.ref b341), (.int len), (.ref b374)] [] rfl (lenOf pd_7 rfl) rfl (by show 2 * 0 + _ ≤ _; exact Nat.le_of_eq rfl) (hb hby at_142) ?_
  intro T422 L422 v422 X422 q422
  obtain ⟨rfl, N422, K422, nm422, st422, en422, nx422, k422, B422, hnx422, hkl422, As422⟩ := q422
  obtain ⟨lc422, X422h, N422h⟩ := own_hide X422 (Fr.app N417h N422)
  have K423 : Keep h0 T422.heap [] := K418.trans K422 (allS (Or.inr sz_b360) (allS (Or.inr sz_b374) all0))
  have Z424 : n0 ≤ T422.heap.size := Nat.le_trans Z419 K422.1
  obtain ⟨B425E, B425b, B425L, B425m, B425s, B425e, B425n⟩ := B422
  show G (T422.setTop (mkF m 145 #[.val (.int u0), .val (.int u1), .val (.int u2), .val (.int u3), .val (.int u4), .val (.ref b341), .val (.int len), .val (.ref b360), .val (.ref b374)] []))
  refine go _ _ (fun t' k' => XS.aload X422h.here hx rfl (hb hby at_145) rfl rfl  k') ?_
  show G (T422.setTop (mkF m 147 #[.val (.int u0), .val (.int u1), .val (.int u2), .val (.int u3), .val (.int u4), .val (.ref b341), .val (.int len), .val (.ref b360), .val (.ref b374)] [(.ref b374)]))
  refine go _ _ (fun t' k' => XS.iconst X422h.here hx rfl (hb hby at_147) k') ?_
  show G (T422.setTop (mkF m 148 #[.val (.int u0), .val (.int u1), .val (.int u2), .val (.int u3), .val (.int u4), .val (.ref b341), .val (.int len), .val (.ref b360), .val (.ref b374)] [(.int (2 : Int32)), (.ref b374)]))
  refine own_iaload go X422h hx hZ rfl 2 rfl (by decide) (g := (mkF m 148 #[.val (.int u0), .val (.int u1), .val (.int u2), .val (.int u3), .val (.int u4), .val (.ref b341), .val (.int len), .val (.ref b360), .val (.ref b374)] [(.int (2 : Int32)), (.ref b374)])) rfl As422 rfl (hb hby at_148) ?_
  show G (T422.setTop (mkF m 149 #[.val (.int u0), .val (.int u1), .val (.int u2), .val (.int u3), .val (.int u4), .val (.ref b341), .val (.int len), .val (.ref b360), .val (.ref b374)] [(.int (1 : Int32))]))
  refine go _ _ (fun t' k' => XS.iconst X422h.here hx rfl (hb hby at_149) k') ?_
  show G (T422.setTop (mkF m 150 #[.val (.int u0), .val (.int u1), .val (.int u2), .val (.int u3), .val (.int u4), .val (.ref b341), .val (.int len), .val (.ref b360), .val (.ref b374)] [(.int (1 : Int32)), (.int (1 : Int32))]))
  refine go _ _ (fun t' k' => XS.icmpNo X422h.here hx rfl (hb hby at_150) rfl (Free.XT.ii_ne_f (by decide)) k') ?_
  show G (T422.setTop (mkF m 153 #[.val (.int u0), .val (.int u1), .val (.int u2), .val (.int u3), .val (.int u4), .val (.ref b341), .val (.int len), .val (.ref b360), .val (.ref b374)] []))
  refine go _ _ (fun t' k' => XS.iconst X422h.here hx rfl (hb hby at_153) k') ?_
  show G (T422.setTop (mkF m 154 #[.val (.int u0), .val (.int u1), .val (.int u2), .val (.int u3), .val (.int u4), .val (.ref b341), .val (.int len), .val (.ref b360), .val (.ref b374)] [(.int (1 : Int32))]))
  refine go _ _ (fun t' k' => XS.goto X422h.here hx rfl (pc0 := 154) (pc' := 158) rfl (hb hby at_154) (by decide) (by decide) k') ?_
  show G (T422.setTop (mkF m 158 #[.val (.int u0), .val (.int u1), .val (.int u2), .val (.int u3), .val (.int u4), .val (.ref b341), .val (.int len), .val (.ref b360), .val (.ref b374)] [(.int (1 : Int32))]))
  refine own_retZ rt X422h hx (t := .boolean) hret (by simp) (hb hby at_158) (by decide) (by decide) ?_
  exact ⟨rfl, N422h⟩
set_option maxRecDepth 65536 in
set_option maxHeartbeats 40000000 in
theorem comes_1 {Post : Tables → Env → Array Value → State → Outcome → State → Prop} (hpost : ∀ tb e args s v u, (limb_1_1.after args s (.returned v) u = true ∧ limb_1_2.after args s (.returned v) u = true ∧ True) → FrameEnd s (.returned v) u (Jvm.fieldLocs frame_1_writes args s ++ Jvm.arrayLocs frame_1_arrays args s ++ Jvm.staticLocs frame_1_statics s) 16 128 → Post tb e args s (.returned v) u) :
    ArmFor flags0 classFile x code maxLocals ret World_1 tables_1 room_1 Calls_1 rest_1 Pre_1 Post := by
  intro l hfl _ _ p e ha hc hk s m args below hf hA hF happ hP
  obtain ⟨hcalls, hrest, hpre⟩ := hP
  obtain ⟨-, -, -, hnamed, -, -, -, hat⟩ := (Spec.applies_iff hf).mp happ
  obtain ⟨hg, hn⟩ := and_e (Cond.before_iff.mp (show (Jvm.Cond.and given_1 narrow_1).before args s = true from hpre))
  obtain ⟨k0, hg0⟩ := and_e hg
  obtain ⟨ka0, hg1⟩ := and_e hg0
  obtain ⟨ka1, hg2⟩ := and_e hg1
  obtain ⟨ka2, hg3⟩ := and_e hg2
  obtain ⟨ka3, hg4⟩ := and_e hg3
  have ka4 := hg4
  obtain ⟨w0, w1, w2, w3, w4, rfl⟩ : ∃ w0 w1 w2 w3 w4 : Value, args = #[w0, w1, w2, w3, w4] := by
    have hs : args.size = 5 := by simpa [Cond.value, given_1] using k0
    obtain ⟨L⟩ := args
    match L, hs with
    | [w0, w1, w2, w3, w4], _ => exact ⟨w0, w1, w2, w3, w4, rfl⟩
  have hw := fun d (hd : d ∈ tables_1) => atoms_spec (ws := Jvm.Cond.code x code maxLocals ret :: tables_1) hat d (List.mem_cons_of_mem _ hd)
  have hfit : Fit s := fun {y c} hc i hi => by
    obtain ⟨ha, rfl⟩ := Array.getElem?_eq_some_iff.mp hc
    have q := List.all_eq_true.mp ((Array.all_eq_true_iff_forall_mem.mp hF) _ (Array.getElem_mem ha)) i (List.mem_range.mpr hi)
    simpa [Array.getElem?_eq_getElem hi] using q
  obtain ⟨i0, ie0⟩ := is_v ka0
  obtain rfl : w0 = (.int i0) := Option.some.inj ie0
  obtain ⟨i1, ie1⟩ := is_v ka1
  obtain rfl : w1 = (.int i1) := Option.some.inj ie1
  obtain ⟨i2, ie2⟩ := is_v ka2
  obtain rfl : w2 = (.int i2) := Option.some.inj ie2
  obtain ⟨i3, ie3⟩ := is_v ka3
  obtain rfl : w3 = (.int i3) := Option.some.inj ie3
  obtain ⟨i4, ie4⟩ := is_v ka4
  obtain rfl : w4 = (.int i4) := Option.some.inj ie4
  obtain ⟨n, o, h1, h2, h3, _, L, rfl, ⟨rfl, N⟩, hq⟩ := rm0 l s _ hw i0 i1 i2 i3 i4 s.heap s.heap.size (Nat.le_refl _)  tables_1 p e ha hc hk s m _ below hf ((Spec.applies_iff_loose hf).mp happ).1 ⟨rfl, State.Warmed39.refl s, rfl⟩ trivial
  refine ⟨n, _, h1, h2, h3, hpost _ _ _ _ _ _ ⟨Cond.after_iff.mpr rfl, Cond.after_iff.mpr (eq_i res_at (Term.int_eval (1)) rfl), trivial⟩ ⟨hq.1, hq.2.1, (hq.2.2.sift fun y hy => Or.inr (N y hy)).mono (by decide) (by decide)⟩⟩
theorem main_1_1 : Claimed_1_1 := comes_1 fun _ _ _ _ _ _ h hF => ⟨h.1, hF⟩
theorem main_1_2 : Claimed_1_2 := comes_1 fun _ _ _ _ _ _ h hF => ⟨h.2.1, hF⟩
end Jvm.Pilot.@@N@@
namespace Jvm.Pilot.@@N@@
open Jvm Jvm.ClassFile Sem Op Lib Jvm.Free Jvm.Stand Jvm.Pilot.@@N@@.Jvm.D
/-! MADE BY PROGRAM (witnessworld.py) out of the Statement's table words and the real class files: 9 classes; the members and pool entries that the words name. The judged class is class 1, her method 1. -/
namespace start1
open Jvm.ClassFile
def u (s : String) : CpInfo := .utf8 (stringToUtf16 s)
/-- a pool by its gaps: so many unusable entries, then the entry; so many at the end -/
def gap : Nat → List CpInfo → List CpInfo
  | 0, r => r
  | n + 1, r => .unusable :: gap n r
def poolList (es : List (Nat × CpInfo)) (last : Nat) : List CpInfo := es.foldr (fun e r => gap e.1 (e.2 :: r)) (gap last [])
def pool (es : List (Nat × CpInfo)) (last : Nat) : Array CpInfo := ⟨poolList es last⟩
def fileOf (pool : Array CpInfo) (this : Nat) (attrs : Array Attribute := #[]) (ms : Array MethodInfo := #[]) (fl : Nat := 33) (sup : Nat := 0) (ifs : Array Nat := #[]) (fds : Array FieldInfo := #[]) : ClassFile where
  minorVersion := 0
  majorVersion := 65
  constantPool := pool
  accessFlags := fl
  thisClass := this
  superClass := sup
  interfaces := ifs
  fields := fds
  methods := ms
  attributes := attrs
def plain (name : String) (sup : Option ClassId) : Class where
  name := name
  kind := .ordinary
  loader := none
  accessFlags := 33
  super := sup
  interfaces := #[]
  cf := none
  fields := #[]
  methods := #[]
  instanceTypes := #[]
  staticTypes := #[]
  resolved := #[]
  callSites := []
  init := .initialized
  statics := none
  mirror := none

def pool0 : Array CpInfo := pool [(5, u "<init>"), (0, u "()V"), (1, .class_ 10), (1, u "java/lang/Object")] 113

def k0c0 : Code := { maxStack := 0, maxLocals := 1, code := object_method_1_code, exceptionTable := #[], attributes := #[] }
def k0m0 : Method := { name := "<init>", desc := "()V", sig := { parameters := [], returnType := none }, accessFlags := 1, code := some k0c0 }
/-- java/lang/Object -/
def k0 : Class := { plain "java/lang/Object" none with
  accessFlags := 33
  interfaces := #[]
  cf := some (fileOf pool0 8 #[] #[{ accessFlags := 1, nameIndex := 5, descriptorIndex := 6, attributes := #[] }] 33 0 #[] #[])
  fields := #[]
  methods := #[k0m0]
  instanceTypes := #[]
  staticTypes := #[]
  resolved := Array.replicate 124 none
  statics := none }

def pool1 : Array CpInfo := pool [(2, .class_ 4), (1, u "java/lang/Object"), (0, u "<init>"), (0, u "()V"), (0, .methodref 8 9), (0, .class_ 10), (0, .nameAndType 11 12), (0, u "com/example/caducee/caducee/ByteLinesNextPinLaw"), (0, u "draw"), (0, u "(I)B"), (0, .integer 2147483647), (0, .class_ 15), (0, u "com/example/caducee/caducee/ByteLines"), (0, .methodref 14 17), (0, .nameAndType 5 18), (0, u "([BI)V"), (0, .methodref 8 20), (0, .nameAndType 21 22), (0, u "step"), (0, u "(Lcom/example/caducee/caducee/ByteLines;[BI[I)V"), (0, .methodref 8 24), (0, .nameAndType 25 26), (0, u "isBreak"), (0, u "(B)Z"), (0, .methodref 8 28), (0, .nameAndType 29 30), (0, u "ok"), (0, u "([BIII)Z"), (0, .methodref 14 32), (0, .nameAndType 33 34), (0, u "next"), (0, u "()Z"), (0, .methodref 14 36), (0, .nameAndType 37 38), (0, u "number"), (0, u "()I"), (0, .methodref 14 40), (0, .nameAndType 41 38), (0, u "start"), (0, .methodref 14 43), (0, .nameAndType 44 38), (0, u "end"), (0, .methodref 8 46), (0, .nameAndType 47 48), (0, u "noBreak"), (0, u "([BII)Z"), (2, u "law"), (0, u "(IIIII)Z")] 7

def k1m0 : Method := { name := "<init>", desc := "()V", sig := { parameters := [], returnType := none }, accessFlags := 1, code := none }
def k1c1 : Code := { maxStack := 4, maxLocals := 9, code := code, exceptionTable := #[], attributes := #[] }
def k1m1 : Method := { name := "law", desc := "(IIIII)Z", sig := { parameters := [.int, .int, .int, .int, .int], returnType := some .boolean }, accessFlags := 9, code := some k1c1 }
def k1c2 : Code := { maxStack := 2, maxLocals := 2, code := method_3_code, exceptionTable := #[], attributes := #[] }
def k1m2 : Method := { name := "draw", desc := "(I)B", sig := { parameters := [.int], returnType := some .byte }, accessFlags := 10, code := some k1c2 }
def k1c3 : Code := { maxStack := 2, maxLocals := 1, code := method_4_code, exceptionTable := #[], attributes := #[] }
def k1m3 : Method := { name := "isBreak", desc := "(B)Z", sig := { parameters := [.byte], returnType := some .boolean }, accessFlags := 10, code := some k1c3 }
def k1c4 : Code := { maxStack := 2, maxLocals := 4, code := method_5_code, exceptionTable := #[], attributes := #[] }
def k1m4 : Method := { name := "ok", desc := "([BIII)Z", sig := { parameters := [(.array .byte), .int, .int, .int], returnType := some .boolean }, accessFlags := 10, code := some k1c4 }
def k1c5 : Code := { maxStack := 4, maxLocals := 3, code := method_6_code, exceptionTable := #[], attributes := #[] }
def k1m5 : Method := { name := "noBreak", desc := "([BII)Z", sig := { parameters := [(.array .byte), .int, .int], returnType := some .boolean }, accessFlags := 10, code := some k1c5 }
def k1c6 : Code := { maxStack := 4, maxLocals := 12, code := method_7_code, exceptionTable := #[], attributes := #[] }
def k1m6 : Method := { name := "step", desc := "(Lcom/example/caducee/caducee/ByteLines;[BI[I)V", sig := { parameters := [(.object "com/example/caducee/caducee/ByteLines"), (.array .byte), .int, (.array .int)], returnType := none }, accessFlags := 10, code := some k1c6 }
/-- com/example/caducee/caducee/ByteLinesNextPinLaw -/
def k1 : Class := { plain "com/example/caducee/caducee/ByteLinesNextPinLaw" (some 0) with
  accessFlags := 49
  interfaces := #[]
  cf := some (fileOf pool1 8 #[] #[{ accessFlags := 1, nameIndex := 5, descriptorIndex := 6, attributes := #[] }, { accessFlags := 9, nameIndex := 51, descriptorIndex := 52, attributes := #[] }, { accessFlags := 10, nameIndex := 11, descriptorIndex := 12, attributes := #[] }, { accessFlags := 10, nameIndex := 25, descriptorIndex := 26, attributes := #[] }, { accessFlags := 10, nameIndex := 29, descriptorIndex := 30, attributes := #[] }, { accessFlags := 10, nameIndex := 47, descriptorIndex := 48, attributes := #[] }, { accessFlags := 10, nameIndex := 21, descriptorIndex := 22, attributes := #[] }] 49 2 #[] #[])
  fields := #[]
  methods := #[k1m0, k1m1, k1m2, k1m3, k1m4, k1m5, k1m6]
  instanceTypes := #[]
  staticTypes := #[]
  resolved := Array.replicate 60 none
  statics := none }

def pool2 : Array CpInfo := pool [(2, .class_ 4), (1, u "com/example/caducee/caducee/ByteLines"), (0, u "<init>"), (0, u "([BI)V"), (0, .methodref 8 9), (0, .class_ 10), (0, .nameAndType 5 11), (0, u "java/lang/Object"), (0, u "()V"), (0, .fieldref 2 13), (0, .nameAndType 14 15), (0, u "bytes"), (0, u "[B"), (0, .fieldref 2 17), (0, .nameAndType 18 19), (0, u "length"), (0, u "I"), (0, .fieldref 2 21), (0, .nameAndType 22 19), (0, u "next"), (0, .fieldref 2 24), (0, .nameAndType 25 19), (0, u "number"), (0, .fieldref 2 27), (0, .nameAndType 28 19), (0, u "start"), (0, .fieldref 2 30), (0, .nameAndType 31 19), (0, u "end"), (3, u "()Z"), (1, u "()I")] 2

def k2c0 : Code := { maxStack := 2, maxLocals := 3, code := prog_38_method_2_code, exceptionTable := #[], attributes := #[] }
def k2m0 : Method := { name := "<init>", desc := "([BI)V", sig := { parameters := [(.array .byte), .int], returnType := none }, accessFlags := 0, code := some k2c0 }
def k2c1 : Code := { maxStack := 3, maxLocals := 1, code := prog_38_method_3_code, exceptionTable := #[], attributes := #[] }
def k2m1 : Method := { name := "next", desc := "()Z", sig := { parameters := [], returnType := some .boolean }, accessFlags := 0, code := some k2c1 }
def k2c2 : Code := { maxStack := 1, maxLocals := 1, code := prog_38_method_4_code, exceptionTable := #[], attributes := #[] }
def k2m2 : Method := { name := "number", desc := "()I", sig := { parameters := [], returnType := some .int }, accessFlags := 0, code := some k2c2 }
def k2c3 : Code := { maxStack := 1, maxLocals := 1, code := prog_38_method_5_code, exceptionTable := #[], attributes := #[] }
def k2m3 : Method := { name := "start", desc := "()I", sig := { parameters := [], returnType := some .int }, accessFlags := 0, code := some k2c3 }
def k2c4 : Code := { maxStack := 1, maxLocals := 1, code := prog_38_method_6_code, exceptionTable := #[], attributes := #[] }
def k2m4 : Method := { name := "end", desc := "()I", sig := { parameters := [], returnType := some .int }, accessFlags := 0, code := some k2c4 }
/-- com/example/caducee/caducee/ByteLines -/
def k2 : Class := { plain "com/example/caducee/caducee/ByteLines" (some 0) with
  accessFlags := 48
  interfaces := #[]
  cf := some (fileOf pool2 2 #[] #[{ accessFlags := 0, nameIndex := 5, descriptorIndex := 6, attributes := #[] }, { accessFlags := 0, nameIndex := 22, descriptorIndex := 35, attributes := #[] }, { accessFlags := 0, nameIndex := 25, descriptorIndex := 37, attributes := #[] }, { accessFlags := 0, nameIndex := 28, descriptorIndex := 37, attributes := #[] }, { accessFlags := 0, nameIndex := 31, descriptorIndex := 37, attributes := #[] }] 48 8 #[] #[{ accessFlags := 18, nameIndex := 14, descriptorIndex := 15, attributes := #[] }, { accessFlags := 18, nameIndex := 18, descriptorIndex := 19, attributes := #[] }, { accessFlags := 2, nameIndex := 25, descriptorIndex := 19, attributes := #[] }, { accessFlags := 2, nameIndex := 28, descriptorIndex := 19, attributes := #[] }, { accessFlags := 2, nameIndex := 31, descriptorIndex := 19, attributes := #[] }, { accessFlags := 2, nameIndex := 22, descriptorIndex := 19, attributes := #[] }])
  fields := #[{ name := "bytes", type := (.array .byte), accessFlags := 18, slot := 0, constantValue := 0 }, { name := "length", type := .int, accessFlags := 18, slot := 1, constantValue := 0 }, { name := "number", type := .int, accessFlags := 2, slot := 2, constantValue := 0 }, { name := "start", type := .int, accessFlags := 2, slot := 3, constantValue := 0 }, { name := "end", type := .int, accessFlags := 2, slot := 4, constantValue := 0 }, { name := "next", type := .int, accessFlags := 2, slot := 5, constantValue := 0 }]
  methods := #[k2m0, k2m1, k2m2, k2m3, k2m4]
  instanceTypes := #[(.array .byte), .int, .int, .int, .int, .int]
  staticTypes := #[]
  resolved := Array.replicate 40 none
  statics := none }

def pool3 : Array CpInfo := pool [(1, u "java/lang/Cloneable"), (0, .class_ 1), (0, u "java/lang/Object"), (0, .class_ 3)] 3

/-- java/lang/Cloneable -/
def k3 : Class := { plain "java/lang/Cloneable" (some 0) with
  accessFlags := 1537
  interfaces := #[]
  cf := some (fileOf pool3 2 #[] #[] 1537 4 #[] #[])
  fields := #[]
  methods := #[]
  instanceTypes := #[]
  staticTypes := #[]
  resolved := Array.replicate 8 none
  statics := none }

def pool4 : Array CpInfo := pool [(1, u "java/io/Serializable"), (0, .class_ 1), (0, u "java/lang/Object"), (0, .class_ 3)] 3

/-- java/io/Serializable -/
def k4 : Class := { plain "java/io/Serializable" (some 0) with
  accessFlags := 1537
  interfaces := #[]
  cf := some (fileOf pool4 2 #[] #[] 1537 4 #[] #[])
  fields := #[]
  methods := #[]
  instanceTypes := #[]
  staticTypes := #[]
  resolved := Array.replicate 8 none
  statics := none }

/-- the primitive byte -/
def k5 : Class := { plain "byte" none with kind := .primitive 'B', accessFlags := 0x411 }
/-- [B -/
def k6 : Class := { plain "[B" (some 0) with kind := .array 5 .byte, interfaces := #[3, 4], accessFlags := 1041 }

/-- the primitive int -/
def k7 : Class := { plain "int" none with kind := .primitive 'I', accessFlags := 0x411 }
/-- [I -/
def k8 : Class := { plain "[I" (some 0) with kind := .array 7 .int, interfaces := #[3, 4], accessFlags := 1041 }

def heap : Heap := #[]
def classes : Array Class := #[k0, k1, k2, k3, k4, k5, k6, k7, k8]
def interned : List (Array UInt16 × Addr) := []
def slotsUsed : Nat := 0
def theMethod : MethodId := ⟨1, 1⟩
def args0 : Array Value := #[.int 5, .int 300, .int 7, .int 700, .int 9]
def aboutOver (below : List Frame) : State where
  vm := { classes := classes, interned := interned.toArray }
  heap := heap
  slotsUsed := slotsUsed
  threads := #[{ frames := .invoking theMethod args0 :: below }]
def below0 : List Frame := [.native { method := ⟨0, 0⟩, args := #[] }]
def about1 : State := aboutOver below0
def p0 : Program := .bare "" "" ""
def e0 : Env := launch0.env 0 0 0
theorem w_frames : about1.frames = Frame.invoking theMethod args0 :: below0 := rfl
set_option maxRecDepth 65536 in
theorem w_args : argsFit about1.vm theMethod args0 = true := by decide +kernel
set_option maxRecDepth 65536 in
theorem w_heap : heapFits about1 = true := by decide +kernel
set_option maxRecDepth 65536 in
theorem w_runnable : about1.curStatus? = some .runnable := by decide +kernel
set_option maxRecDepth 65536 in
theorem w_alone : about1.alone = true := by decide +kernel
set_option maxRecDepth 65536 in
theorem w_named : about1.methodNamed? x = some theMethod := by decide +kernel
set_option maxRecDepth 65536 in
theorem w_hears : about1.hears theMethod below0 = true := by decide +kernel
set_option maxRecDepth 65536 in
theorem w_ripe : about1.ripe theMethod args0 below0 = true := by decide +kernel
theorem w_running : about1.status = .running := rfl
set_option maxRecDepth 65536 in
theorem w_room : about1.hasRoom e0.platform room_1 = true :=
  launch0.hasRoom_least _ room_1 (by decide +kernel) (by decide +kernel) (by decide +kernel) (by decide +kernel) (by decide +kernel) (by decide +kernel)
theorem allAtoms_all (ts : List Jvm.Cond) (a : Array Jvm.Value) (st : Jvm.State) : (allAtoms ts).before a st = ts.all (fun c => c.before a st) := by
  induction ts with
  | nil => rfl
  | cons c t ih =>
    show (Jvm.Cond.and c (allAtoms t)).before a st = _
    rw [Jvm.Cond.before_and, ih, List.all_cons]
def words1 : List Jvm.Cond := Jvm.Cond.code x code maxLocals ret :: tables_1
/-- a 'code' word, met by the world's own term for the bytes: nothing is compared byte by byte -/
theorem code_word {y : MethodName} {bytes : ByteArray} {mx : Nat} {rt : Option FieldType} {a : Array Value} {s : State} {m : MethodId} {meth : Method} {c : Code} (h1 : s.methodNamed? y = some m) (h2 : s.vm.method? m = some meth) (h3 : meth.code = some c) (h4 : c.code = bytes)
    (h5 : (c.maxLocals == mx && c.exceptionTable.isEmpty && decide (c.maxStack ≤ mostOperands) && decide (meth.sig.returnType = rt) && !meth.locks && decide (parseMethodDescriptor y.desc = some meth.sig)) = true) : (Jvm.Cond.code y bytes mx rt).before a s = true := by
  simp only [Bool.and_eq_true, beq_iff_eq, Bool.not_eq_true', decide_eq_true_eq] at h5
  obtain ⟨⟨⟨⟨⟨g1, g2⟩, g3⟩, g4⟩, g5⟩, g6⟩ := h5
  simp [Cond.before, Cond.holds, Cond.value, h1, h2, h3, h4, g1, g2, g3, g4, g5, g6]
def isCode : Jvm.Cond → Bool
  | .code _ _ _ _ => true
  | _ => false
theorem all_split {L : List Jvm.Cond} {P : Jvm.Cond → Bool} (h1 : L.all (fun c => isCode c || P c) = true) (h2 : ∀ c ∈ L.filter isCode, P c = true) : L.all P = true := by
  refine List.all_eq_true.mpr fun c hc => ?_
  have h := List.all_eq_true.mp h1 c hc
  rcases Bool.eq_false_or_eq_true (isCode c) with hi | hi
  · exact h2 c (List.mem_filter.mpr ⟨hc, hi⟩)
  · simpa [hi] using h
set_option maxRecDepth 65536 in
theorem w_c0 : (Jvm.Cond.code x code maxLocals ret).before args0 about1 = true := code_word (m := ⟨1, 1⟩) (meth := k1m1) (c := k1c1) (by decide +kernel) rfl rfl rfl (by decide +kernel)
set_option maxRecDepth 65536 in
theorem w_c1 : (Jvm.Cond.code ({ cls := "com/example/caducee/caducee/ByteLinesNextPinLaw", name := "draw", desc := "(I)B" } : Jvm.MethodName) method_3_code (2 : Nat) (Option.some Jvm.ClassFile.FieldType.byte)).before args0 about1 = true := code_word (m := ⟨1, 2⟩) (meth := k1m2) (c := k1c2) (by decide +kernel) rfl rfl rfl (by decide +kernel)
set_option maxRecDepth 65536 in
theorem w_c2 : (Jvm.Cond.code ({ cls := "com/example/caducee/caducee/ByteLines", name := "<init>", desc := "([BI)V" } : Jvm.MethodName) prog_38_method_2_code (3 : Nat) (Option.none : Option Jvm.ClassFile.FieldType)).before args0 about1 = true := code_word (m := ⟨2, 0⟩) (meth := k2m0) (c := k2c0) (by decide +kernel) rfl rfl rfl (by decide +kernel)
set_option maxRecDepth 65536 in
theorem w_c3 : (Jvm.Cond.code ({ cls := "java/lang/Object", name := "<init>", desc := "()V" } : Jvm.MethodName) object_method_1_code (1 : Nat) (Option.none : Option Jvm.ClassFile.FieldType)).before args0 about1 = true := code_word (m := ⟨0, 0⟩) (meth := k0m0) (c := k0c0) (by decide +kernel) rfl rfl rfl (by decide +kernel)
set_option maxRecDepth 65536 in
theorem w_c4 : (Jvm.Cond.code ({ cls := "com/example/caducee/caducee/ByteLinesNextPinLaw", name := "step", desc := "(Lcom/example/caducee/caducee/ByteLines;[BI[I)V" } : Jvm.MethodName) method_7_code (12 : Nat) (Option.none : Option Jvm.ClassFile.FieldType)).before args0 about1 = true := code_word (m := ⟨1, 6⟩) (meth := k1m6) (c := k1c6) (by decide +kernel) rfl rfl rfl (by decide +kernel)
set_option maxRecDepth 65536 in
theorem w_c5 : (Jvm.Cond.code ({ cls := "com/example/caducee/caducee/ByteLines", name := "next", desc := "()Z" } : Jvm.MethodName) prog_38_method_3_code (1 : Nat) (Option.some Jvm.ClassFile.FieldType.boolean)).before args0 about1 = true := code_word (m := ⟨2, 1⟩) (meth := k2m1) (c := k2c1) (by decide +kernel) rfl rfl rfl (by decide +kernel)
set_option maxRecDepth 65536 in
theorem w_c6 : (Jvm.Cond.code ({ cls := "com/example/caducee/caducee/ByteLines", name := "number", desc := "()I" } : Jvm.MethodName) prog_38_method_4_code (1 : Nat) (Option.some Jvm.ClassFile.FieldType.int)).before args0 about1 = true := code_word (m := ⟨2, 2⟩) (meth := k2m2) (c := k2c2) (by decide +kernel) rfl rfl rfl (by decide +kernel)
set_option maxRecDepth 65536 in
theorem w_c7 : (Jvm.Cond.code ({ cls := "com/example/caducee/caducee/ByteLines", name := "start", desc := "()I" } : Jvm.MethodName) prog_38_method_5_code (1 : Nat) (Option.some Jvm.ClassFile.FieldType.int)).before args0 about1 = true := code_word (m := ⟨2, 3⟩) (meth := k2m3) (c := k2c3) (by decide +kernel) rfl rfl rfl (by decide +kernel)
set_option maxRecDepth 65536 in
theorem w_c8 : (Jvm.Cond.code ({ cls := "com/example/caducee/caducee/ByteLines", name := "end", desc := "()I" } : Jvm.MethodName) prog_38_method_6_code (1 : Nat) (Option.some Jvm.ClassFile.FieldType.int)).before args0 about1 = true := code_word (m := ⟨2, 4⟩) (meth := k2m4) (c := k2c4) (by decide +kernel) rfl rfl rfl (by decide +kernel)
set_option maxRecDepth 65536 in
theorem w_c9 : (Jvm.Cond.code ({ cls := "com/example/caducee/caducee/ByteLinesNextPinLaw", name := "noBreak", desc := "([BII)Z" } : Jvm.MethodName) method_6_code (3 : Nat) (Option.some Jvm.ClassFile.FieldType.boolean)).before args0 about1 = true := code_word (m := ⟨1, 5⟩) (meth := k1m5) (c := k1c5) (by decide +kernel) rfl rfl rfl (by decide +kernel)
set_option maxRecDepth 65536 in
theorem w_c10 : (Jvm.Cond.code ({ cls := "com/example/caducee/caducee/ByteLinesNextPinLaw", name := "ok", desc := "([BIII)Z" } : Jvm.MethodName) method_5_code (4 : Nat) (Option.some Jvm.ClassFile.FieldType.boolean)).before args0 about1 = true := code_word (m := ⟨1, 4⟩) (meth := k1m4) (c := k1c4) (by decide +kernel) rfl rfl rfl (by decide +kernel)
set_option maxRecDepth 65536 in
theorem w_c11 : (Jvm.Cond.code ({ cls := "com/example/caducee/caducee/ByteLinesNextPinLaw", name := "isBreak", desc := "(B)Z" } : Jvm.MethodName) method_4_code (1 : Nat) (Option.some Jvm.ClassFile.FieldType.boolean)).before args0 about1 = true := code_word (m := ⟨1, 3⟩) (meth := k1m3) (c := k1c3) (by decide +kernel) rfl rfl rfl (by decide +kernel)
def codes1 : List Jvm.Cond := [Jvm.Cond.code x code maxLocals ret, Jvm.Cond.code ({ cls := "com/example/caducee/caducee/ByteLinesNextPinLaw", name := "draw", desc := "(I)B" } : Jvm.MethodName) method_3_code (2 : Nat) (Option.some Jvm.ClassFile.FieldType.byte), Jvm.Cond.code ({ cls := "com/example/caducee/caducee/ByteLines", name := "<init>", desc := "([BI)V" } : Jvm.MethodName) prog_38_method_2_code (3 : Nat) (Option.none : Option Jvm.ClassFile.FieldType), Jvm.Cond.code ({ cls := "java/lang/Object", name := "<init>", desc := "()V" } : Jvm.MethodName) object_method_1_code (1 : Nat) (Option.none : Option Jvm.ClassFile.FieldType), Jvm.Cond.code ({ cls := "com/example/caducee/caducee/ByteLinesNextPinLaw", name := "step", desc := "(Lcom/example/caducee/caducee/ByteLines;[BI[I)V" } : Jvm.MethodName) method_7_code (12 : Nat) (Option.none : Option Jvm.ClassFile.FieldType), Jvm.Cond.code ({ cls := "com/example/caducee/caducee/ByteLines", name := "next", desc := "()Z" } : Jvm.MethodName) prog_38_method_3_code (1 : Nat) (Option.some Jvm.ClassFile.FieldType.boolean), Jvm.Cond.code ({ cls := "com/example/caducee/caducee/ByteLines", name := "number", desc := "()I" } : Jvm.MethodName) prog_38_method_4_code (1 : Nat) (Option.some Jvm.ClassFile.FieldType.int), Jvm.Cond.code ({ cls := "com/example/caducee/caducee/ByteLines", name := "start", desc := "()I" } : Jvm.MethodName) prog_38_method_5_code (1 : Nat) (Option.some Jvm.ClassFile.FieldType.int), Jvm.Cond.code ({ cls := "com/example/caducee/caducee/ByteLines", name := "end", desc := "()I" } : Jvm.MethodName) prog_38_method_6_code (1 : Nat) (Option.some Jvm.ClassFile.FieldType.int), Jvm.Cond.code ({ cls := "com/example/caducee/caducee/ByteLinesNextPinLaw", name := "noBreak", desc := "([BII)Z" } : Jvm.MethodName) method_6_code (3 : Nat) (Option.some Jvm.ClassFile.FieldType.boolean), Jvm.Cond.code ({ cls := "com/example/caducee/caducee/ByteLinesNextPinLaw", name := "ok", desc := "([BIII)Z" } : Jvm.MethodName) method_5_code (4 : Nat) (Option.some Jvm.ClassFile.FieldType.boolean), Jvm.Cond.code ({ cls := "com/example/caducee/caducee/ByteLinesNextPinLaw", name := "isBreak", desc := "(B)Z" } : Jvm.MethodName) method_4_code (1 : Nat) (Option.some Jvm.ClassFile.FieldType.boolean)]
set_option maxRecDepth 65536 in
theorem codes_eq : words1.filter isCode = codes1 := rfl
theorem w_codes : ∀ c ∈ words1.filter isCode, c.before args0 about1 = true := by
  rw [codes_eq]
  intro c hc
  simp only [codes1, List.mem_cons, List.not_mem_nil, or_false] at hc
  rcases hc with rfl | rfl | rfl | rfl | rfl | rfl | rfl | rfl | rfl | rfl | rfl | rfl
  · exact w_c0
  · exact w_c1
  · exact w_c2
  · exact w_c3
  · exact w_c4
  · exact w_c5
  · exact w_c6
  · exact w_c7
  · exact w_c8
  · exact w_c9
  · exact w_c10
  · exact w_c11
set_option maxRecDepth 65536 in
theorem w_t1 : (words1.take 24).all (fun c => isCode c || c.before args0 about1) = true := by decide +kernel
set_option maxRecDepth 65536 in
theorem w_t2 : ((words1.drop 24).take 24).all (fun c => isCode c || c.before args0 about1) = true := by decide +kernel
set_option maxRecDepth 65536 in
theorem w_t3 : ((words1.drop 24).drop 24).all (fun c => isCode c || c.before args0 about1) = true := by decide +kernel
theorem w_tables : (allAtoms (Jvm.Cond.code x code maxLocals ret :: tables_1)).before args0 about1 = true := by
  rw [allAtoms_all]
  show words1.all (fun c => c.before args0 about1) = true
  refine all_split ?_ w_codes
  rw [← List.take_append_drop 24 words1, List.all_append, w_t1, ← List.take_append_drop 24 (words1.drop 24), List.all_append, w_t2, w_t3]
  rfl
set_option maxRecDepth 65536 in
theorem w_case : (Jvm.Cond.and given_1 narrow_1).before args0 about1 = true := by decide +kernel
theorem w_applies : (headSpec (Jvm.Cond.code x code maxLocals ret :: tables_1) room_1).applies x e0.platform about1 = true :=
  (Spec.applies_iff w_frames).mpr ⟨w_running, w_runnable, w_alone, w_named, w_hears, w_ripe, w_room, w_tables⟩
theorem atStart : AtStart classFile x code maxLocals ret World_1 tables_1 room_1 Calls_1 rest_1 Pre_1 launch0 p0 e0 about1 theMethod args0 below0 :=
  ⟨lists_1, trivial, launch0.admits_env _ _ _, launch0.least_env, fairChoices_fair.cas, fairChoices_fair.clock, w_frames, w_args, w_heap, w_applies, trivial, trivial, w_case⟩
end start1
theorem witness_1 : WitnessClaimed_1 := ⟨start1.p0, start1.e0, start1.about1, start1.theMethod, start1.args0, start1.below0, start1.atStart⟩
end Jvm.Pilot.@@N@@
