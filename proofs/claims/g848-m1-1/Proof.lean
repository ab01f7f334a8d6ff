import JvmDerived
import JvmDerived.Pilot.@@N@@Statement
import JvmDerived.Pilot.@@N@@Code
set_option linter.unusedVariables false
set_option linter.unusedSimpArgs false
namespace Jvm.Pilot.@@N@@
open Jvm Jvm.ClassFile Sem Op Lib Jvm.Free Jvm.Stand Jvm.LawKit Jvm.RoadKit Bundle Jvm.Pilot.@@N@@.Jvm.D
section Own
variable {p : Program} {l : Launch} {e : Env} {R : Room} {s : State} {m : MethodId} {args : Array Value} {below : List Frame} {meth : Method} {c : Code} {T : State} {locs : List Loc} {cells slots : Nat} {Z : State} {a0 : Array Value} {h : Heap}
/-- the goal of a walk is a predicate that may be carried back over steps -/
def Go (p : Program) (e : Env) (below : List Frame) (G : State → Prop) : Prop := ∀ F F' : State, (∀ t, Steps p.tables e below F' t → Steps p.tables e below F t) → G F' → G F
/-- how a walk ends: it returns v -/
def Rt (p : Program) (l : Launch) (e : Env) (R : Room) (s : State) (m : MethodId) (args : Array Value) (below : List Frame) (meth : Method) (c : Code) (Q : Option Value → Heap → List Loc → Prop) (kc ks : Nat) (G : State → Prop) : Prop :=
  ∀ (T : State) (locs : List Loc) (cells slots : Nat) (v : Option Value) (F : State), Stand p l e R s m args below meth c T locs cells slots → cells ≤ kc → slots ≤ ks → (meth.sig.returnType = none → v = none) → Q v T.heap locs →
    (∀ fs, (∀ (f : JFrame) (acts : List Action), f.method = m → f.locked = none → f.entered = [] → (doReturn e (T.setTop f) acts v).1 = T.setFrames fs) → Steps p.tables e below F (T.setFrames fs)) → G F
def Gl (p : Program) (e : Env) (below : List Frame) (s : State) (Q : Option Value → Heap → List Loc → Prop) (kc ks : Nat) (F : State) : Prop :=
  ∃ s₂ o, Steps p.tables e below F s₂ ∧ s₂.status = .running ∧ Ended s₂ below o ∧ ∃ v L, o = .returned v ∧ Q v s₂.heap L ∧ FrameEnd s o s₂ L kc ks
theorem gl_go {Q : Option Value → Heap → List Loc → Prop} {kc ks : Nat} : Go p e below (Gl p e below s Q kc ks) := fun F F' h g => by
  obtain ⟨s₂, o, h1, h2⟩ := g
  exact ⟨s₂, o, h _ h1, h2⟩
theorem gl_rt {Q : Option Value → Heap → List Loc → Prop} {kc ks : Nat} (hlk : meth.locks = false) : Rt p l e R s m args below meth c Q kc ks (Gl p e below s Q kc ks) := fun T locs cells slots v F X hc hs hv hQ st => by
  obtain ⟨fs, hr, hrun, hended, hW, hsame⟩ := X.leave (v := v) hv hlk
  exact ⟨_, _, st fs hr, hrun, hended, v, locs, rfl, hQ, ⟨_, rfl⟩, hW, hsame.mono hc hs⟩
/-- a method's contract, at given arguments and a given heap -/
def Con (l : Launch) (Z : State) (y : MethodName) (bytes : ByteArray) (maxL : Nat) (ret : Option FieldType) (rm : Room) (as' : Array Value) (h : Heap) (Q : Option Value → Heap → List Loc → Prop) : Prop :=
  ∀ ws, MetFree l y (head1 (Jvm.Cond.code y bytes maxL ret :: ws) rm) (fun a U => a = as' ∧ Z.Warmed39 U.vm ∧ U.heap = h) (fun _ _ _ _ _ => True) (fun _ U o U' => ∃ v L, o = .returned v ∧ Q v U'.heap L ∧ FrameEnd U o U' L rm.cells rm.slots)
theorem own_body {y : MethodName} {bytes : ByteArray} {maxL : Nat} {ret : Option FieldType} {rm : Room} {as' : Array Value} {h0 : Heap} {Q : Option Value → Heap → List Loc → Prop} (hp : plainName y.cls = true)
    (k : ∀ (p : Program) (e : Env) (s : State) (m : MethodId) (below : List Frame) (meth : Method) (c : Code) (s₁ : State), p.tables.exec = Jvm.exec → c.code = bytes → c.maxLocals = maxL → s.vm.findClass y.cls = some m.cls → meth.name = y.name → meth.sig.returnType = ret → Z.Warmed39 s.vm → s₁.heap = h0 →
      Stand p l e rm s m as' below meth c s₁ [] 0 0 → ∀ G : State → Prop, Go p e below G → Rt p l e rm s m as' below meth c Q rm.cells rm.slots G → G (s₁.setTop (entryFrame m as' maxL))) : Con l Z y bytes maxL ret rm as' h0 Q := fun ws => by
  refine MetFree.of_bodySF (plainFor_of_name hp) hisR ?_
  intro p e s m args below meth c s₁ Bd hml0 hP hK
  obtain ⟨rfl, hZ, hh⟩ := hP
  exact k p e s m below meth c s₁ Bd.exec Bd.bytes hml0 (findClass_of_methodNamed Bd.named) (name_of_methodNamed Bd.named Bd.method).1 Bd.returns hZ (by rw [← hh, Bd.state]; rfl) (Stand.of_body Bd) (Gl p e below s Q rm.cells rm.slots) gl_go (gl_rt Bd.notSynchronized)
theorem own_hide {k : Nat} (X : Stand p l e R s m args below meth c T locs cells slots) (N : Fr k locs) : ∃ L, Stand p l e R s m args below meth c T L cells slots ∧ Fr k L := ⟨_, X, N⟩
section Rets
variable {Q : Option Value → Heap → List Loc → Prop} {kc ks : Nat} {G : State → Prop}
theorem own_retI (rt : Rt p l e R s m args below meth c Q kc ks G) (X : Stand p l e R s m args below meth c T locs cells slots) (hx : p.tables.exec = Jvm.exec) {pc : Nat} {Ls : Array Slot} {rest : List Value} (hret : meth.sig.returnType = some .int) {z : Int32} (hd : decode c.code pc = .ok (.ireturn, 1)) (hc : cells ≤ kc) (hs : slots ≤ ks) (hQ : Q (some (.int z)) T.heap locs) : G (T.setTop (mkF m pc Ls (.int z :: rest))) :=
  rt T locs cells slots _ _ X hc hs (fun h => by rw [hret] at h; cases h) hQ fun fs hr => retOut X hx hret rfl (Or.inl ⟨rfl, Or.inl rfl, _, rfl⟩) hd hr
theorem own_retZ (rt : Rt p l e R s m args below meth c Q kc ks G) (X : Stand p l e R s m args below meth c T locs cells slots) (hx : p.tables.exec = Jvm.exec) {pc : Nat} {Ls : Array Slot} {rest : List Value} {t : FieldType} (hret : meth.sig.returnType = some t) (ht : t = .boolean ∨ t = .byte ∨ t = .char ∨ t = .short) {z : Int32} (hd : decode c.code pc = .ok (.ireturn, 1)) (hc : cells ≤ kc) (hs : slots ≤ ks) (hQ : Q (some (.int (nar t z))) T.heap locs) : G (T.setTop (mkF m pc Ls (.int z :: rest))) :=
  rt T locs cells slots _ _ X hc hs (fun h => by rw [hret] at h; cases h) hQ fun fs hr => retN X hx hret ht hd hr
theorem own_retJ (rt : Rt p l e R s m args below meth c Q kc ks G) (X : Stand p l e R s m args below meth c T locs cells slots) (hx : p.tables.exec = Jvm.exec) {pc : Nat} {Ls : Array Slot} {rest : List Value} (hret : meth.sig.returnType = some .long) {z : Int64} (hd : decode c.code pc = .ok (.lreturn, 1)) (hc : cells ≤ kc) (hs : slots ≤ ks) (hQ : Q (some (.long z)) T.heap locs) : G (T.setTop (mkF m pc Ls (.long z :: rest))) :=
  rt T locs cells slots _ _ X hc hs (fun h => by rw [hret] at h; cases h) hQ fun fs hr => retOut X hx hret rfl (Or.inr (Or.inl ⟨rfl, rfl, _, rfl⟩)) hd hr
theorem own_retA (rt : Rt p l e R s m args below meth c Q kc ks G) (X : Stand p l e R s m args below meth c T locs cells slots) (hx : p.tables.exec = Jvm.exec) {pc : Nat} {Ls : Array Slot} {rest : List Value} {t : FieldType} (hret : meth.sig.returnType = some t) (ht : t.isReference = true) {v : Value} (hv : v.isRef = true) (hd : decode c.code pc = .ok (.areturn, 1)) (hc : cells ≤ kc) (hs : slots ≤ ks) (hQ : Q (some v) T.heap locs) : G (T.setTop (mkF m pc Ls (v :: rest))) :=
  rt T locs cells slots _ _ X hc hs (fun h => by rw [hret] at h; cases h) hQ fun fs hr => retOut X hx hret (by cases t <;> cases v <;> first | rfl | (simp [FieldType.isReference, Value.isRef] at ht hv)) (Or.inr (Or.inr (Or.inr (Or.inr ⟨rfl, ht, hv⟩)))) hd hr
theorem own_retV (rt : Rt p l e R s m args below meth c Q kc ks G) (X : Stand p l e R s m args below meth c T locs cells slots) (hx : p.tables.exec = Jvm.exec) {pc : Nat} {Ls : Array Slot} {rest : List Value} (hret : meth.sig.returnType = none) (hd : decode c.code pc = .ok (.return_, 1)) (hc : cells ≤ kc) (hs : slots ≤ ks) (hQ : Q none T.heap locs) : G (T.setTop (mkF m pc Ls [])) :=
  rt T locs cells slots _ _ X hc hs (fun _ => rfl) hQ fun fs hr => X.returnOut hx hret hd hr
end Rets
section Calls
variable {G : State → Prop}
theorem own_static (go : Go p e below G) (X : Stand p l e R s m args below meth c T locs cells slots) (hx : p.tables.exec = Jvm.exec) (hZ : Z.Warmed39 s.vm) (eT : T.heap = h) {own : String} {index : Nat} {y : MethodName} {bytes : ByteArray} {maxL : Nat} {ret : Option FieldType} {rm : Room} {as' : Array Value} {Q : Option Value → Heap → List Loc → Prop} (hown : s.vm.findClass own = some m.cls) (w1 : (Cond.methodLink own index y).before a0 Z = true) (w2 : (Cond.static y).before a0 Z = true) (w3 : (Cond.initialized y.cls).before a0 Z = true) (w4 : (Cond.code y bytes maxL ret).before a0 Z = true)
    (hy : y.cls ≠ "java/lang/invoke/MethodHandle" ∧ y.cls ≠ "java/lang/invoke/VarHandle") (hM : Con l Z y bytes maxL ret rm as' h Q) (W : Nat) (hf : rm.frames + 1 ≤ R.frames) (hl : W + (maxL + 11) + rm.locals ≤ R.locals) (hc : cells + rm.cells ≤ R.cells) (hs : slots + rm.slots ≤ R.slots)
    {g : JFrame} (hg : g.method = m) (hsize : g.locals.size = c.maxLocals) (argsL rest : List Value) (has : argsL.toArray = as') (hlen : ∀ sig, parseMethodDescriptor y.desc = some sig → argsL.length = sig.parameters.length)
    (hstack : g.stack = argsL.reverse ++ rest) (hW : 2 * g.monitorRoom + (rest.map fun v => v.category).sum ≤ W) (hd : decode c.code g.pc = .ok (.invokestatic index, 3))
    (k : ∀ (T' : State) (L' : List Loc) (v : Option Value), Stand p l e R s m args below meth c T' (locs ++ L') (cells + rm.cells) (slots + rm.slots) → Q v T'.heap L' → G (T'.setTop { g with pc := g.pc + 3, stack := v.toList ++ rest })) : G (T.setTop g) := by
  obtain ⟨v, _, ⟨T1, L1, k1, n1⟩, -, X1, ⟨Lc, hQ, l1, y1, z1⟩, st⟩ := Jvm.LawKit.callS X hx hown (mvT hZ w1) (mvT hZ w2) (mvT hZ w3) (mvT hZ w4) hy (backOf (R := R) (W := W) (hM []) hZ w4 w3 hf hl) hg hsize hlen hstack hW hd (fun _ _ => ⟨has, eT, hc, hs⟩)
  dsimp only [Pt.U, Pt.locs, Pt.cells, Pt.slots] at X1 l1 y1 z1 st hQ
  subst l1 y1 z1
  exact go _ _ st (k T1 Lc v X1 hQ)
theorem own_init (go : Go p e below G) (X : Stand p l e R s m args below meth c T locs cells slots) (hx : p.tables.exec = Jvm.exec) (hZ : Z.Warmed39 s.vm) (eT : T.heap = h) {own : String} {index : Nat} {y : MethodName} {bytes : ByteArray} {maxL : Nat} {ret : Option FieldType} {rm : Room} {as' : Array Value} {Q : Option Value → Heap → List Loc → Prop} (hy1 : y.name = "<init>") (hown : s.vm.findClass own = some m.cls) (w1 : (Cond.methodLink own index y).before a0 Z = true) (w2 : (Cond.instanceMethod y).before a0 Z = true) (w3 : (Cond.initialized y.cls).before a0 Z = true) (w4 : (Cond.code y bytes maxL none).before a0 Z = true)
    (hy : y.cls ≠ "java/lang/invoke/MethodHandle" ∧ y.cls ≠ "java/lang/invoke/VarHandle") (hM : Con l Z y bytes maxL none rm as' h Q) (W : Nat) (hf : rm.frames + 1 ≤ R.frames) (hl : W + (maxL + 11) + rm.locals ≤ R.locals) (hc : cells + rm.cells ≤ R.cells) (hs : slots + rm.slots ≤ R.slots)
    {g : JFrame} (hg : g.method = m) (hsize : g.locals.size = c.maxLocals) (a : Addr) (argsL rest : List Value) (has : (.ref a :: argsL).toArray = as') (hlen : ∀ sig, parseMethodDescriptor y.desc = some sig → argsL.length = sig.parameters.length)
    (hstack : g.stack = argsL.reverse ++ .ref a :: rest) (hW : 2 * g.monitorRoom + (rest.map fun v => v.category).sum ≤ W) (hd : decode c.code g.pc = .ok (.invokespecial index, 3))
    (k : ∀ (T' : State) (L' : List Loc) (v : Option Value), Stand p l e R s m args below meth c T' (locs ++ L') (cells + rm.cells) (slots + rm.slots) → Q v T'.heap L' → G (T'.setTop { g with pc := g.pc + 3, stack := v.toList ++ rest })) : G (T.setTop g) := by
  obtain ⟨v, _, ⟨T1, L1, k1, n1⟩, -, X1, ⟨Lc, hQ, l1, y1, z1⟩, st⟩ := X.specialBack hx hy1 hown (mvT hZ w1) (mvT hZ w2) (mvT hZ w4) hy (backOf (R := R) (W := W) (hM []) hZ w4 w3 hf hl) hg hsize (Steps.refl _) (a := a) hlen hstack hW hd (fun _ _ => ⟨has, eT, hc, hs⟩)
  dsimp only [Pt.U, Pt.locs, Pt.cells, Pt.slots] at X1 l1 y1 z1 st hQ
  subst l1 y1 z1
  exact go _ _ (fun t k => st.trans k) (k T1 Lc v X1 hQ)
theorem own_virtual (go : Go p e below G) (X : Stand p l e R s m args below meth c T locs cells slots) (hx : p.tables.exec = Jvm.exec) (hZ : Z.Warmed39 s.vm) (eT : T.heap = h) {own : String} {index : Nat} {y : MethodName} {bytes : ByteArray} {maxL : Nat} {ret : Option FieldType} {rm : Room} {as' : Array Value} {Q : Option Value → Heap → List Loc → Prop} {C : String} {z : MethodName} (hown : s.vm.findClass own = some m.cls) (w1 : (Cond.methodLink own index y).before a0 Z = true) (w2 : (Cond.declares y).before a0 Z = true) (hnf : NotFace s y) (w3 : (Cond.selects C y z).before a0 Z = true) (w4 : (Cond.instanceMethod z).before a0 Z = true) (w5 : (Cond.initialized z.cls).before a0 Z = true) (w6 : (Cond.code z bytes maxL ret).before a0 Z = true)
    (hy : y.cls ≠ "java/lang/invoke/MethodHandle" ∧ y.cls ≠ "java/lang/invoke/VarHandle") (hM : Con l Z z bytes maxL ret rm as' h Q) (W : Nat) (hf : rm.frames + 1 ≤ R.frames) (hl : W + (maxL + 11) + rm.locals ≤ R.locals) (hc : cells + rm.cells ≤ R.cells) (hs : slots + rm.slots ≤ R.slots)
    {a : Addr} (E : Exa Z h a C) {g : JFrame} (hg : g.method = m) (hsize : g.locals.size = c.maxLocals) (argsL rest : List Value) (has : (.ref a :: argsL).toArray = as') (hlen : ∀ sig, parseMethodDescriptor y.desc = some sig → argsL.length = sig.parameters.length)
    (hstack : g.stack = argsL.reverse ++ .ref a :: rest) (hW : 2 * g.monitorRoom + (rest.map fun v => v.category).sum ≤ W) (hd : decode c.code g.pc = .ok (.invokevirtual index, 3))
    (k : ∀ (T' : State) (L' : List Loc) (v : Option Value), Stand p l e R s m args below meth c T' (locs ++ L') (cells + rm.cells) (slots + rm.slots) → Q v T'.heap L' → G (T'.setTop { g with pc := g.pc + 3, stack := v.toList ++ rest })) : G (T.setTop g) := by
  obtain ⟨cq, kq, qa, qb, qc⟩ := isOf hZ eT E
  obtain ⟨v, _, ⟨T1, L1, k1, n1⟩, -, X1, ⟨Lc, hQ, l1, y1, z1⟩, st⟩ := X.virtualBack hx hown (mvT hZ w1) (mvT hZ w2) hnf (mvT hZ w3) (mvT hZ w4) hy (backOf (R := R) (W := W) (hM []) hZ w6 w5 hf hl) qa qc hg hsize (Steps.refl _) hlen hstack hW hd (fun _ _ => ⟨has, eT, hc, hs⟩)
  dsimp only [Pt.U, Pt.locs, Pt.cells, Pt.slots] at X1 l1 y1 z1 st hQ
  subst l1 y1 z1
  exact go _ _ (fun t k => st.trans k) (k T1 Lc v X1 hQ)
theorem own_private (go : Go p e below G) (X : Stand p l e R s m args below meth c T locs cells slots) (hx : p.tables.exec = Jvm.exec) (hZ : Z.Warmed39 s.vm) (eT : T.heap = h) {own : String} {index : Nat} {y : MethodName} {bytes : ByteArray} {maxL : Nat} {ret : Option FieldType} {rm : Room} {as' : Array Value} {Q : Option Value → Heap → List Loc → Prop} (hown : s.vm.findClass own = some m.cls) (w1 : (Cond.methodLink own index y).before a0 Z = true) (w2 : (Cond.instanceMethod y).before a0 Z = true) (w3 : (Cond.selects y.cls y y).before a0 Z = true) (w4 : (Cond.privateMethod y).before a0 Z = true) (w5 : (Cond.initialized y.cls).before a0 Z = true) (w6 : (Cond.code y bytes maxL ret).before a0 Z = true)
    (hy : y.cls ≠ "java/lang/invoke/MethodHandle" ∧ y.cls ≠ "java/lang/invoke/VarHandle") (hM : Con l Z y bytes maxL ret rm as' h Q) (W : Nat) (hf : rm.frames + 1 ≤ R.frames) (hl : W + (maxL + 11) + rm.locals ≤ R.locals) (hc : cells + rm.cells ≤ R.cells) (hs : slots + rm.slots ≤ R.slots)
    {a : Addr} {C : String} (E : Exa Z h a C) {g : JFrame} (hg : g.method = m) (hsize : g.locals.size = c.maxLocals) (argsL rest : List Value) (has : (.ref a :: argsL).toArray = as') (hlen : ∀ sig, parseMethodDescriptor y.desc = some sig → argsL.length = sig.parameters.length)
    (hstack : g.stack = argsL.reverse ++ .ref a :: rest) (hW : 2 * g.monitorRoom + (rest.map fun v => v.category).sum ≤ W) (hd : decode c.code g.pc = .ok (.invokevirtual index, 3))
    (k : ∀ (T' : State) (L' : List Loc) (v : Option Value), Stand p l e R s m args below meth c T' (locs ++ L') (cells + rm.cells) (slots + rm.slots) → Q v T'.heap L' → G (T'.setTop { g with pc := g.pc + 3, stack := v.toList ++ rest })) : G (T.setTop g) := by
  obtain ⟨cq, q1, q2⟩ := E.cell
  obtain ⟨v, _, ⟨T1, L1, k1, n1⟩, -, X1, ⟨Lc, hQ, l1, y1, z1⟩, st⟩ := X.privateBack hx hown (mvT hZ w1) (mvT hZ w2) (mvT hZ w3) (Cond.privateMethod_at (mvP hZ w4 (args := #[]))) (mvT hZ w6) hy (backOf (R := R) (W := W) (hM []) hZ w6 w5 hf hl) hg hsize (Steps.refl _) (a := a) (by rw [eT]; exact q1) q2 hlen hstack hW hd (fun _ _ => ⟨has, eT, hc, hs⟩)
  dsimp only [Pt.U, Pt.locs, Pt.cells, Pt.slots] at X1 l1 y1 z1 st hQ
  subst l1 y1 z1
  exact go _ _ (fun t k => st.trans k) (k T1 Lc v X1 hQ)
end Calls
end Own
section OwnArr
variable {p : Program} {l : Launch} {e : Env} {R : Room} {s : State} {m : MethodId} {args : Array Value} {below : List Frame} {meth : Method} {c : Code} {T : State} {locs : List Loc} {cells slots : Nat} {Z : State} {a0 : Array Value} {h h' : Heap} {a b : Addr} {ty : FieldType} {n sl : Nat} {f : Nat → Value} {v w : Value} {ws : List Addr}
/-- an array: its kind, its length, what lies in it -/
def Ary (Z : State) (h : Heap) (a : Addr) (ty : FieldType) (n : Nat) (f : Nat → Value) : Prop := ∃ c : Cell, Arr Z h a c ty ∧ c.slots.size = n ∧ n < 2147483648 ∧ (∀ i, i < n → c.slots[i]? = some (f i)) ∧ ∀ i, i < n → fits ty (f i) = true
theorem Ary.lt (F : Ary Z h a ty n f) : a < h.size := by obtain ⟨c, A, -⟩ := F; exact A.lt
theorem Ary.ext (F : Ary Z h a ty n f) (E : Ext h h') : Ary Z h' a ty n f := by obtain ⟨c, A, r⟩ := F; exact ⟨c, A.ext E, r⟩
theorem Ary.other (F : Ary Z h b ty n f) (W : Wr h h' a sl v) (q : b ≠ a) : Ary Z h' b ty n f := by obtain ⟨c, A, r⟩ := F; exact ⟨c, A.other W q, r⟩
theorem Ary.keep (F : Ary Z h a ty n f) (K : Keep h h' ws) (q : a ∉ ws) : Ary Z h' a ty n f := by obtain ⟨c, A, r⟩ := F; exact ⟨c, ⟨K.2.1 a c A.1 q, A.2⟩, r⟩
theorem Ary.cong {g : Nat → Value} (F : Ary Z h a ty n f) (q : ∀ i, i < n → f i = g i) : Ary Z h a ty n g := by
  obtain ⟨c, A, r1, r2, r3, r4⟩ := F
  exact ⟨c, A, r1, r2, fun i hi => by rw [← q i hi]; exact r3 i hi, fun i hi => by rw [← q i hi]; exact r4 i hi⟩
theorem Ary.same (W : Wr h h' a sl v) (F : Ary Z h a ty n f) (hv : fits ty v = true) : Ary Z h' a ty n (fun q => if q = sl then v else f q) := by
  obtain ⟨c, A, r1, r2, r3, r4⟩ := F
  refine ⟨_, A.same W, (sz_set _ _ _).trans r1, r2, fun i hi => ?_, fun i hi => ?_⟩
  · show (c.slots.setIfInBounds sl v)[i]? = _
    by_cases q : i = sl
    · subst q; simp [r1, hi]
    · rw [Array.getElem?_setIfInBounds_ne (fun z => q z.symm), r3 i hi]; simp [q]
  · show fits ty (if i = sl then v else f i) = true
    by_cases q : i = sl
    · simp [q, hv]
    · simp [q, r4 i hi]
theorem Ary.new {cA : ClassId} {z : Int32} (A : Arr Z h a (newA cA ty z) ty) (q : ¬ z < 0) : Ary Z h a ty z.toNatClampNeg (fun _ => defaultValue ty) :=
  ⟨_, A, sz_new _ _ _, (back32 q).2, fun i hi => by simp [newA, hi], fun i _ => by cases ty <;> rfl⟩
theorem ix_of {j : Int32} {i : Nat} (hi : j.toInt = i) : j.toNatClampNeg = i := by simp [Int32.toNatClampNeg, hi]
theorem ix_in {j : Int32} {i k : Nat} (hi : j.toInt = i) (hk : i < k) : ¬ (j < 0 ∨ k ≤ j.toNatClampNeg) := by
  rw [ix_of hi]
  intro q
  rcases q with q | q
  · rw [Int32.lt_iff_toInt_lt, hi] at q
    have : (0 : Int32).toInt = 0 := rfl
    omega
  · omega
section St
variable {G : State → Prop}
theorem own_iastore (go : Go p e below G) (X : Stand p l e R s m args below meth c T locs cells slots) (hx : p.tables.exec = Jvm.exec) (hZ : Z.Warmed39 s.vm) (eT : T.heap = h) {j x : Int32} (i : Nat) (hi : j.toInt = i) (hlt : i < n) {g : JFrame} (hg : g.method = m) {rest : List Value} (F : Ary Z h a .int n f) (hs : g.stack = .int x :: .int j :: .ref a :: rest) (hd : decode c.code g.pc = .ok (.iastore, 1))
    (k : ∀ (T' : State) (h' : Heap), Stand p l e R s m args below meth c T' (locs ++ [⟨a, i⟩]) cells slots → T'.heap = h' → Wr h h' a i (.int x) → Ary Z h' a .int n (fun q => if q = i then .int x else f q) → G (T'.setTop { g with pc := g.pc + 1, stack := rest })) : G (T.setTop g) := by
  obtain ⟨cl, A, r1, r2, r3, r4⟩ := F
  have hj : ¬ (j < 0 ∨ cl.slots.size ≤ j.toNatClampNeg) := by rw [r1]; exact ix_in hi hlt
  obtain ⟨T1, h1, X1, e1, W1, st⟩ := stI X hx hZ eT A hj hg hs hd
  rw [ix_of hi] at X1 W1
  exact go _ _ st (k T1 h1 X1 e1 W1 (Ary.same W1 ⟨cl, A, r1, r2, r3, r4⟩ rfl))
theorem own_bastore (go : Go p e below G) (X : Stand p l e R s m args below meth c T locs cells slots) (hx : p.tables.exec = Jvm.exec) (hZ : Z.Warmed39 s.vm) (eT : T.heap = h) {j x : Int32} (i : Nat) (hi : j.toInt = i) (hlt : i < n) {g : JFrame} (hg : g.method = m) {rest : List Value} (F : Ary Z h a .byte n f) (hs : g.stack = .int x :: .int j :: .ref a :: rest) (hd : decode c.code g.pc = .ok (.bastore, 1))
    (k : ∀ (T' : State) (h' : Heap), Stand p l e R s m args below meth c T' (locs ++ [⟨a, i⟩]) cells slots → T'.heap = h' → Wr h h' a i (.int (nar .byte x)) → Ary Z h' a .byte n (fun q => if q = i then .int (nar .byte x) else f q) → G (T'.setTop { g with pc := g.pc + 1, stack := rest })) : G (T.setTop g) := by
  obtain ⟨cl, A, r1, r2, r3, r4⟩ := F
  have hj : ¬ (j < 0 ∨ cl.slots.size ≤ j.toNatClampNeg) := by rw [r1]; exact ix_in hi hlt
  obtain ⟨T1, h1, X1, e1, W1, st⟩ := stB X hx hZ eT A hj hg hs hd
  rw [ix_of hi] at X1 W1
  exact go _ _ st (k T1 h1 X1 e1 W1 (Ary.same W1 ⟨cl, A, r1, r2, r3, r4⟩ (fits_nar_byte _)))
theorem own_zastore (go : Go p e below G) (X : Stand p l e R s m args below meth c T locs cells slots) (hx : p.tables.exec = Jvm.exec) (hZ : Z.Warmed39 s.vm) (eT : T.heap = h) {j x : Int32} (i : Nat) (hi : j.toInt = i) (hlt : i < n) {g : JFrame} (hg : g.method = m) {rest : List Value} (F : Ary Z h a .boolean n f) (hs : g.stack = .int x :: .int j :: .ref a :: rest) (hd : decode c.code g.pc = .ok (.bastore, 1))
    (k : ∀ (T' : State) (h' : Heap), Stand p l e R s m args below meth c T' (locs ++ [⟨a, i⟩]) cells slots → T'.heap = h' → Wr h h' a i (.int (nar .boolean x)) → Ary Z h' a .boolean n (fun q => if q = i then .int (nar .boolean x) else f q) → G (T'.setTop { g with pc := g.pc + 1, stack := rest })) : G (T.setTop g) := by
  obtain ⟨cl, A, r1, r2, r3, r4⟩ := F
  have hj : ¬ (j < 0 ∨ cl.slots.size ≤ j.toNatClampNeg) := by rw [r1]; exact ix_in hi hlt
  obtain ⟨T1, h1, X1, e1, W1, st⟩ := stZ X hx hZ eT A hj hg hs hd
  rw [ix_of hi] at X1 W1
  exact go _ _ st (k T1 h1 X1 e1 W1 (Ary.same W1 ⟨cl, A, r1, r2, r3, r4⟩ (fits_nar_bool _)))
theorem own_iaload (go : Go p e below G) (X : Stand p l e R s m args below meth c T locs cells slots) (hx : p.tables.exec = Jvm.exec) (hZ : Z.Warmed39 s.vm) (eT : T.heap = h) {j : Int32} (i : Nat) (hi : j.toInt = i) (hlt : i < n) {g : JFrame} (hg : g.method = m) {rest : List Value} (F : Ary Z h a .int n f) (hs : g.stack = .int j :: .ref a :: rest) (hd : decode c.code g.pc = .ok (.iaload, 1)) (k : G (T.setTop { g with pc := g.pc + 1, stack := f i :: rest })) : G (T.setTop g) := by
  obtain ⟨cl, A, r1, r2, r3, r4⟩ := F
  have hj : ¬ (j < 0 ∨ cl.slots.size ≤ j.toNatClampNeg) := by rw [r1]; exact ix_in hi hlt
  exact go _ _ (fun t => X.iaload hx (by rw [eT]; exact A.1) (State.isArrayOf_alike hZ.alike A.2.1) A.2.2 hj (by rw [ix_of hi]; exact r3 i hlt) hg hs hd t) k
theorem own_baload (go : Go p e below G) (X : Stand p l e R s m args below meth c T locs cells slots) (hx : p.tables.exec = Jvm.exec) (hZ : Z.Warmed39 s.vm) (eT : T.heap = h) {j : Int32} (i : Nat) (hi : j.toInt = i) (hlt : i < n) {g : JFrame} (hg : g.method = m) {rest : List Value} (F : Ary Z h a .byte n f) (hs : g.stack = .int j :: .ref a :: rest) (hd : decode c.code g.pc = .ok (.baload, 1)) (k : G (T.setTop { g with pc := g.pc + 1, stack := f i :: rest })) : G (T.setTop g) := by
  obtain ⟨cl, A, r1, r2, r3, r4⟩ := F
  have hj : ¬ (j < 0 ∨ cl.slots.size ≤ j.toNatClampNeg) := by rw [r1]; exact ix_in hi hlt
  exact go _ _ (fun t => X.baloadBytes hx (by rw [eT]; exact A.1) (State.isArrayOf_alike hZ.alike A.2.1) A.2.2 hj (by rw [ix_of hi]; exact r3 i hlt) hg hs hd t) k
theorem own_zaload (go : Go p e below G) (X : Stand p l e R s m args below meth c T locs cells slots) (hx : p.tables.exec = Jvm.exec) (hZ : Z.Warmed39 s.vm) (eT : T.heap = h) {j : Int32} (i : Nat) (hi : j.toInt = i) (hlt : i < n) {g : JFrame} (hg : g.method = m) {rest : List Value} (F : Ary Z h a .boolean n f) (hs : g.stack = .int j :: .ref a :: rest) (hd : decode c.code g.pc = .ok (.baload, 1)) (k : G (T.setTop { g with pc := g.pc + 1, stack := f i :: rest })) : G (T.setTop g) := by
  obtain ⟨cl, A, r1, r2, r3, r4⟩ := F
  have hj : ¬ (j < 0 ∨ cl.slots.size ≤ j.toNatClampNeg) := by rw [r1]; exact ix_in hi hlt
  exact go _ _ (fun t => X.baloadBooleans hx (by rw [eT]; exact A.1) (State.isArrayOf_alike hZ.alike A.2.1) A.2.2 hj (by rw [ix_of hi]; exact r3 i hlt) hg hs hd t) k
theorem own_arrlen (go : Go p e below G) (X : Stand p l e R s m args below meth c T locs cells slots) (hx : p.tables.exec = Jvm.exec) (hZ : Z.Warmed39 s.vm) (eT : T.heap = h) {g : JFrame} (hg : g.method = m) {rest : List Value} (F : Ary Z h a ty n f) (hs : g.stack = .ref a :: rest) (hd : decode c.code g.pc = .ok (.arraylength, 1)) (k : G (T.setTop { g with pc := g.pc + 1, stack := .int n.toInt32 :: rest })) : G (T.setTop g) := by
  obtain ⟨cl, A, r1, r2, r3, r4⟩ := F
  subst r1
  exact go _ _ (fun t => X.arraylength hx (by rw [eT]; exact A.1) (State.isArrayOf_alike hZ.alike A.2.1) hg hs hd t) k
theorem own_newarr (go : Go p e below G) (X : Stand p l e R s m args below meth c T locs cells slots) (hx : p.tables.exec = Jvm.exec) (hZ : Z.Warmed39 s.vm) (eT : T.heap = h) {g : JFrame} (hg : g.method = m) {rest : List Value} {aty : ArrayType} (w : (Cond.arrayClass (newarray.typeOf aty)).before a0 Z = true) {z : Int32} (nn : Nat) (hz : z.toInt = nn) (hd : decode c.code g.pc = .ok (.newarray aty, 2)) (hs : g.stack = .int z :: rest)
    (cap : Nat) (hcap : nn ≤ cap) (hb : cap * 8 ≤ 536870912) (hc : cells + 1 ≤ R.cells) (hl : slots + cap ≤ R.slots)
    (k : ∀ (T' : State) (h' : Heap) (a : Addr), Stand p l e R s m args below meth c T' locs (cells + 1) (slots + cap) → T'.heap = h' → Ext h h' → a = h.size → Ary Z h' a (newarray.typeOf aty) nn (fun _ => defaultValue (newarray.typeOf aty)) → G (T'.setTop { g with pc := g.pc + 2, stack := .ref a :: rest })) : G (T.setTop g) := by
  have q : ¬ z < 0 := by
    rw [Int32.lt_iff_toInt_lt, hz]
    have : (0 : Int32).toInt = 0 := rfl
    omega
  obtain ⟨T1, h1, cA, X1, e1, E1, A1, st⟩ := newP X hx hZ w eT hg hd hs q (cap := cap) (by rw [ix_of hz]; exact hcap) hb hc hl
  have F := Ary.new A1 q
  rw [ix_of hz] at F
  exact go _ _ st (k T1 h1 _ X1 e1 E1 rfl F)
end St
end OwnArr
def hexB (x : Int32) : Bool := decide ((¬ x < 48 ∧ ¬ 57 < x) ∨ (¬ x < 97 ∧ ¬ 102 < x))
def allHex (g : Nat → Int32) (fr n : Nat) : Bool := (List.range n).all fun i => hexB (g (fr + i))
theorem own_all_succ (g : Nat → Int32) (fr n : Nat) : allHex g fr (n + 1) = (allHex g fr n && hexB (g (fr + n))) := by
  simp [allHex, List.range_succ]
theorem own_all_iff (g : Nat → Int32) (fr n : Nat) : allHex g fr n = true ↔ ∀ i, i < n → hexB (g (fr + i)) = true := by
  simp [allHex]
theorem own_all_ne {g : Nat → Int32} {fr k : Nat} {dg : Int32} (hdg : dg = (if allHex g fr k = true then 1 else 0)) (h0 : dg = 0) (hk : k ≤ 32) : ¬ allHex g fr 32 = true := by
  intro h
  rw [own_all_iff] at h
  have : allHex g fr k = true := (own_all_iff _ _ _).mpr fun i hi => h i (by omega)
  rw [if_pos this, h0] at hdg
  exact absurd hdg (by decide)
theorem own_all_tt {g : Nat → Int32} {fr k : Nat} {dg : Int32} (hdg : dg = (if allHex g fr k = true then 1 else 0)) (h0 : ¬ dg = 0) : allHex g fr k = true := by
  by_cases z : allHex g fr k = true
  · exact z
  · rw [if_neg z] at hdg; exact absurd hdg h0
theorem own_nar_ite (P : Prop) [Decidable P] : nar .boolean (if P then (1 : Int32) else 0) = if P then 1 else 0 := by by_cases h : P <;> simp [h, nar]
theorem own_to {u1 u2 : Int32} {fr : Nat} (h : u2 - u1 = 32) (hfr : u1.toInt = fr) (hf : fr ≤ 8) : u2.toInt = fr + 32 := by
  have q := c_isub u2 u1
  rw [h, hfr] at q
  have r := rng32 u2
  have : (32 : Int32).toInt = 32 := rfl
  omega
theorem own_nlt {u v : Int32} {fr kk : Nat} (h1 : u.toInt = ((fr + kk : Nat) : Int)) (h2 : v.toInt = fr + 32) (hk : kk = 32) : ¬ u < v := by
  rw [Int32.lt_iff_toInt_lt]; omega
theorem own_ylt {u v : Int32} {fr kk : Nat} (h1 : u.toInt = ((fr + kk : Nat) : Int)) (h2 : v.toInt = fr + 32) (hk : kk < 32) : u < v := by
  rw [Int32.lt_iff_toInt_lt]; omega
theorem own_next {u : Int32} {fr kk : Nat} (h1 : u.toInt = ((fr + kk : Nat) : Int)) (hk : fr + kk < 100) : (u + 1).toInt = ((fr + (kk + 1) : Nat) : Int) := by
  have q := c_iadd u 1
  have r := rng32 (u + 1)
  have : (1 : Int32).toInt = 1 := rfl
  omega
def tb (q : Nat) : Int32 := if q % 16 < 10 then Int32.ofNat (48 + q % 16) else Int32.ofNat (97 + (q % 16 - 10))
def own_pre (k : Nat) (q : Nat) : Value := if q < k then .int (tb q) else .int 0
theorem own_pre_step (k : Nat) {x : Int32} (hx : nar .byte x = tb k) : ∀ i, i < 40 → (fun q => if q = k then Value.int (nar .byte x) else own_pre k q) i = own_pre (k + 1) i := by
  intro i _
  show (if i = k then Value.int (nar .byte x) else own_pre k i) = _
  by_cases h : i = k
  · subst h; rw [if_pos rfl, hx, own_pre, if_pos (by omega)]
  · rw [if_neg h, own_pre, own_pre]
    by_cases h2 : i < k
    · rw [if_pos h2, if_pos (by omega)]
    · rw [if_neg h2, if_neg (by omega)]
theorem own_pre0 : ∀ i, i < 40 → (fun _ => defaultValue .byte) i = own_pre 0 i := fun i _ => by simp [own_pre, defaultValue]
theorem own_tb_hex : ∀ q : Fin 40, hexB (tb q.1) = true := by decide +kernel
def gg (i1 i2 : Nat) (b1 b2 : Int32) (q : Nat) : Int32 := if q = i2 then b2 else if q = i1 then b1 else tb q
theorem own_gg {i1 i2 : Nat} {b1 b2 c1 c2 : Int32} (h1 : b1 = c1.toInt8.toInt32) (h2 : b2 = c2.toInt8.toInt32) : ∀ i, i < 40 → (fun q => if q = i2 then Value.int (nar .byte b2) else (fun q => if q = i1 then Value.int (nar .byte b1) else own_pre 40 q) q) i = (fun q => Value.int (gg i1 i2 b1 b2 q)) i := by
  intro i hi
  show (if i = i2 then Value.int (nar .byte b2) else if i = i1 then Value.int (nar .byte b1) else own_pre 40 i) = Value.int (gg i1 i2 b1 b2 i)
  have n1 : nar .byte b1 = b1 := by subst h1; simp [nar]
  have n2 : nar .byte b2 = b2 := by subst h2; simp [nar]
  unfold gg
  by_cases q2 : i = i2
  · rw [if_pos q2, if_pos q2, n2]
  · rw [if_neg q2, if_neg q2]
    by_cases q1 : i = i1
    · rw [if_pos q1, if_pos q1, n1]
    · rw [if_neg q1, if_neg q1, own_pre, if_pos hi]
theorem own_rem {u f : Int32} {k : Int32} {d : Int} (hk : k.toInt = d) (hd : 0 < d) (hf : f = (u &&& 2147483647) % k) : ∃ i : Nat, f.toInt = i ∧ (i : Int) < d := by
  have e1 : (u &&& 2147483647).toInt = u.toInt % (2 ^ 31 : Nat) := c_mask u _ 31 (by decide) (by decide)
  have e2 := (c_irem (u &&& 2147483647) k d hk).1 (by omega)
  rw [← hf] at e2
  have b1 := Int.emod_nonneg (u &&& 2147483647).toInt (show d ≠ 0 by omega)
  have b2 := Int.emod_lt_of_pos (u &&& 2147483647).toInt hd
  exact ⟨f.toInt.toNat, by omega, by omega⟩
theorem own_final {i1 i2 fr : Nat} {q1 q2 f7 dd b1 b2 b14 b15 : Int32} (h1 : q1.toInt = i1) (h2 : q2.toInt = i2) (l1 : i1 < 40) (l2 : i2 < 40) (hf : f7.toInt = fr) (hf8 : fr ≤ 8)
    (h14 : b14 = (if q1 = q2 ∨ (q1 < f7 ∨ ¬ q1 < f7 + 32) ∨ hexB b1 = true then 1 else 0)) (h15 : b15 = (if (q2 < f7 ∨ ¬ q2 < f7 + 32) ∨ hexB b2 = true then 1 else 0)) :
    (if f7 + dd - f7 = 32 ∧ allHex (gg i1 i2 b1 b2) fr 32 = true then (1 : Int32) else 0) = (if dd = 32 ∧ ¬ b14 = 0 ∧ ¬ b15 = 0 then 1 else 0) := by
  have ed : f7 + dd - f7 = dd := by rw [Int32.add_comm, Int32.add_sub_cancel]
  have e32 : (f7 + 32).toInt = fr + 32 := by
    have q := c_iadd f7 32
    have r := rng32 (f7 + 32)
    have : (32 : Int32).toInt = 32 := rfl
    omega
  have p1 : (q1 < f7 ∨ ¬ q1 < f7 + 32) ↔ (i1 < fr ∨ fr + 32 ≤ i1) := by rw [Int32.lt_iff_toInt_lt, Int32.lt_iff_toInt_lt, h1, hf, e32]; omega
  have p2 : (q2 < f7 ∨ ¬ q2 < f7 + 32) ↔ (i2 < fr ∨ fr + 32 ≤ i2) := by rw [Int32.lt_iff_toInt_lt, Int32.lt_iff_toInt_lt, h2, hf, e32]; omega
  have p3 : q1 = q2 ↔ i1 = i2 := by rw [← Int32.toInt_inj, h1, h2]; omega
  have n14 : ¬ b14 = 0 ↔ (i1 = i2 ∨ (i1 < fr ∨ fr + 32 ≤ i1) ∨ hexB b1 = true) := by
    have h14' : b14 = (if (i1 = i2 ∨ (i1 < fr ∨ fr + 32 ≤ i1) ∨ hexB b1 = true) then 1 else 0) := by rw [h14]; simp only [p1, p3]
    rw [h14']
    by_cases h : (i1 = i2 ∨ (i1 < fr ∨ fr + 32 ≤ i1) ∨ hexB b1 = true)
    · simp only [h, if_true, iff_true]; decide
    · simp only [h, if_false, iff_false]; decide
  have n15 : ¬ b15 = 0 ↔ ((i2 < fr ∨ fr + 32 ≤ i2) ∨ hexB b2 = true) := by
    have h15' : b15 = (if ((i2 < fr ∨ fr + 32 ≤ i2) ∨ hexB b2 = true) then 1 else 0) := by rw [h15]; simp only [p2]
    rw [h15']
    by_cases h : ((i2 < fr ∨ fr + 32 ≤ i2) ∨ hexB b2 = true)
    · simp only [h, if_true, iff_true]; decide
    · simp only [h, if_false, iff_false]; decide
  have key : allHex (gg i1 i2 b1 b2) fr 32 = true ↔ (¬ b14 = 0 ∧ ¬ b15 = 0) := by
    rw [n14, n15, own_all_iff]
    constructor
    · intro h
      refine ⟨?_, ?_⟩
      · by_cases a : i1 = i2
        · exact Or.inl a
        · by_cases o : i1 < fr ∨ fr + 32 ≤ i1
          · exact Or.inr (Or.inl o)
          · have := h (i1 - fr) (by omega)
            rw [show fr + (i1 - fr) = i1 by omega, gg, if_neg a, if_pos rfl] at this
            exact Or.inr (Or.inr this)
      · by_cases o : i2 < fr ∨ fr + 32 ≤ i2
        · exact Or.inl o
        · have := h (i2 - fr) (by omega)
          rw [show fr + (i2 - fr) = i2 by omega, gg, if_pos rfl] at this
          exact Or.inr this
    · rintro ⟨hF, hS⟩ i hi
      unfold gg
      by_cases a2 : fr + i = i2
      · rw [if_pos a2]
        rcases hS with o | o
        · omega
        · exact o
      · rw [if_neg a2]
        by_cases a1 : fr + i = i1
        · rw [if_pos a1]
          rcases hF with o | o | o
          · omega
          · omega
          · exact o
        · rw [if_neg a1]
          exact own_tb_hex ⟨fr + i, by omega⟩
  rw [ed]
  by_cases hd : dd = 32
  · simp only [hd, true_and, key]
  · simp only [hd, false_and]

theorem own_ite_z (P : Prop) [Decidable P] : ((if P then (1 : Int32) else 0) = 0) ↔ ¬ P := by by_cases h : P <;> simp [h]
theorem d1_0 : decode method_3_code 0 = .ok (.iload_n 0, 1) := by decide +kernel
theorem d1_1 : decode method_3_code 1 = .ok (.iload_n 1, 1) := by decide +kernel
theorem d1_2 : decode method_3_code 2 = .ok (.if_icmp .lt 11, 3) := by decide +kernel
theorem d1_5 : decode method_3_code 5 = .ok (.iload_n 0, 1) := by decide +kernel
theorem d1_6 : decode method_3_code 6 = .ok (.iload_n 1, 1) := by decide +kernel
theorem d1_7 : decode method_3_code 7 = .ok (.bipush 32, 2) := by decide +kernel
theorem d1_9 : decode method_3_code 9 = .ok (.iadd, 1) := by decide +kernel
theorem d1_10 : decode method_3_code 10 = .ok (.if_icmp .lt 7, 3) := by decide +kernel
theorem d1_13 : decode method_3_code 13 = .ok (.iconst 1, 1) := by decide +kernel
theorem d1_14 : decode method_3_code 14 = .ok (.goto 4, 3) := by decide +kernel
theorem d1_17 : decode method_3_code 17 = .ok (.iconst 0, 1) := by decide +kernel
theorem d1_18 : decode method_3_code 18 = .ok (.ireturn, 1) := by decide +kernel
theorem d2_0 : decode method_4_code 0 = .ok (.iload_n 0, 1) := by decide +kernel
theorem d2_1 : decode method_4_code 1 = .ok (.istore_n 1, 1) := by decide +kernel
theorem d2_2 : decode method_4_code 2 = .ok (.iload_n 1, 1) := by decide +kernel
theorem d2_3 : decode method_4_code 3 = .ok (.bipush 48, 2) := by decide +kernel
theorem d2_5 : decode method_4_code 5 = .ok (.if_icmp .lt 11, 3) := by decide +kernel
theorem d2_8 : decode method_4_code 8 = .ok (.iload_n 1, 1) := by decide +kernel
theorem d2_9 : decode method_4_code 9 = .ok (.bipush 57, 2) := by decide +kernel
theorem d2_11 : decode method_4_code 11 = .ok (.if_icmp .gt 5, 3) := by decide +kernel
theorem d2_14 : decode method_4_code 14 = .ok (.iconst 1, 1) := by decide +kernel
theorem d2_15 : decode method_4_code 15 = .ok (.ireturn, 1) := by decide +kernel
theorem d2_16 : decode method_4_code 16 = .ok (.iload_n 1, 1) := by decide +kernel
theorem d2_17 : decode method_4_code 17 = .ok (.bipush 97, 2) := by decide +kernel
theorem d2_19 : decode method_4_code 19 = .ok (.if_icmp .lt 13, 3) := by decide +kernel
theorem d2_22 : decode method_4_code 22 = .ok (.iload_n 1, 1) := by decide +kernel
theorem d2_23 : decode method_4_code 23 = .ok (.bipush 102, 2) := by decide +kernel
theorem d2_25 : decode method_4_code 25 = .ok (.if_icmp .gt 7, 3) := by decide +kernel
theorem d2_28 : decode method_4_code 28 = .ok (.iconst 1, 1) := by decide +kernel
theorem d2_29 : decode method_4_code 29 = .ok (.goto 4, 3) := by decide +kernel
theorem d2_32 : decode method_4_code 32 = .ok (.iconst 0, 1) := by decide +kernel
theorem d2_33 : decode method_4_code 33 = .ok (.ireturn, 1) := by decide +kernel
theorem d3_0 : decode prog_158_method_20_code 0 = .ok (.iload_n 2, 1) := by decide +kernel
theorem d3_1 : decode prog_158_method_20_code 1 = .ok (.iload_n 1, 1) := by decide +kernel
theorem d3_2 : decode prog_158_method_20_code 2 = .ok (.isub, 1) := by decide +kernel
theorem d3_3 : decode prog_158_method_20_code 3 = .ok (.bipush 32, 2) := by decide +kernel
theorem d3_5 : decode prog_158_method_20_code 5 = .ok (.if_icmp .ne 7, 3) := by decide +kernel
theorem d3_8 : decode prog_158_method_20_code 8 = .ok (.iconst 1, 1) := by decide +kernel
theorem d3_9 : decode prog_158_method_20_code 9 = .ok (.goto 4, 3) := by decide +kernel
theorem d3_12 : decode prog_158_method_20_code 12 = .ok (.iconst 0, 1) := by decide +kernel
theorem d3_13 : decode prog_158_method_20_code 13 = .ok (.istore_n 3, 1) := by decide +kernel
theorem d3_14 : decode prog_158_method_20_code 14 = .ok (.iload_n 1, 1) := by decide +kernel
theorem d3_15 : decode prog_158_method_20_code 15 = .ok (.istore 4, 2) := by decide +kernel
theorem d3_17 : decode prog_158_method_20_code 17 = .ok (.iload_n 3, 1) := by decide +kernel
theorem d3_18 : decode prog_158_method_20_code 18 = .ok (.ifCond .eq 55, 3) := by decide +kernel
theorem d3_21 : decode prog_158_method_20_code 21 = .ok (.iload 4, 2) := by decide +kernel
theorem d3_23 : decode prog_158_method_20_code 23 = .ok (.iload_n 2, 1) := by decide +kernel
theorem d3_24 : decode prog_158_method_20_code 24 = .ok (.if_icmp .ge 49, 3) := by decide +kernel
theorem d3_27 : decode prog_158_method_20_code 27 = .ok (.aload_n 0, 1) := by decide +kernel
theorem d3_28 : decode prog_158_method_20_code 28 = .ok (.iload 4, 2) := by decide +kernel
theorem d3_30 : decode prog_158_method_20_code 30 = .ok (.baload, 1) := by decide +kernel
theorem d3_31 : decode prog_158_method_20_code 31 = .ok (.istore 5, 2) := by decide +kernel
theorem d3_33 : decode prog_158_method_20_code 33 = .ok (.iload 5, 2) := by decide +kernel
theorem d3_35 : decode prog_158_method_20_code 35 = .ok (.bipush 48, 2) := by decide +kernel
theorem d3_37 : decode prog_158_method_20_code 37 = .ok (.if_icmp .lt 10, 3) := by decide +kernel
theorem d3_40 : decode prog_158_method_20_code 40 = .ok (.iload 5, 2) := by decide +kernel
theorem d3_42 : decode prog_158_method_20_code 42 = .ok (.bipush 57, 2) := by decide +kernel
theorem d3_44 : decode prog_158_method_20_code 44 = .ok (.if_icmp .le 17, 3) := by decide +kernel
theorem d3_47 : decode prog_158_method_20_code 47 = .ok (.iload 5, 2) := by decide +kernel
theorem d3_49 : decode prog_158_method_20_code 49 = .ok (.bipush 97, 2) := by decide +kernel
theorem d3_51 : decode prog_158_method_20_code 51 = .ok (.if_icmp .lt 14, 3) := by decide +kernel
theorem d3_54 : decode prog_158_method_20_code 54 = .ok (.iload 5, 2) := by decide +kernel
theorem d3_56 : decode prog_158_method_20_code 56 = .ok (.bipush 102, 2) := by decide +kernel
theorem d3_58 : decode prog_158_method_20_code 58 = .ok (.if_icmp .gt 7, 3) := by decide +kernel
theorem d3_61 : decode prog_158_method_20_code 61 = .ok (.iconst 1, 1) := by decide +kernel
theorem d3_62 : decode prog_158_method_20_code 62 = .ok (.goto 4, 3) := by decide +kernel
theorem d3_65 : decode prog_158_method_20_code 65 = .ok (.iconst 0, 1) := by decide +kernel
theorem d3_66 : decode prog_158_method_20_code 66 = .ok (.istore_n 3, 1) := by decide +kernel
theorem d3_67 : decode prog_158_method_20_code 67 = .ok (.iinc 4 1, 3) := by decide +kernel
theorem d3_70 : decode prog_158_method_20_code 70 = .ok (.goto (-53), 3) := by decide +kernel
theorem d3_73 : decode prog_158_method_20_code 73 = .ok (.iload_n 3, 1) := by decide +kernel
theorem d3_74 : decode prog_158_method_20_code 74 = .ok (.ireturn, 1) := by decide +kernel
theorem pd_0 : parseMethodDescriptor "([BII)Z" = some ⟨[(.array .byte), .int, .int], some .boolean⟩ := by decide +kernel
theorem pd_1 : parseMethodDescriptor "(II)Z" = some ⟨[.int, .int], some .boolean⟩ := by decide +kernel
theorem pd_2 : parseMethodDescriptor "(B)Z" = some ⟨[.byte], some .boolean⟩ := by decide +kernel
theorem pn_1 : plainName "com/example/lotwise/lotwise/value/ValuesIsDigestPinLaw" = true := by first | (simp [plainName, overriddenIn]; done) | decide +kernel
theorem ef_rm1 (m : MethodId) (x0 : Int32) (x1 : Int32) : entryFrame m #[(.int x0), (.int x1)] 2 = mkF m 0 #[.val (.int x0), .val (.int x1)] [] := by first | (simp [entryFrame, mkF, argsToLocals, Value.category]; done) | rfl
set_option maxRecDepth 65536 in
set_option maxHeartbeats 40000000 in
theorem rm1 (l : Launch) (Z : State) (a0 : Array Value) (hw : ∀ d ∈ tables_1, d.before a0 Z = true) (u0 u1 : Int32) (h0 : Heap) (n0 : Nat) (Z0 : n0 ≤ h0.size)  :
    Con l Z (⟨"com/example/lotwise/lotwise/value/ValuesIsDigestPinLaw", "outside", "(II)Z"⟩ : MethodName) method_3_code 2 (some .boolean) ({ frames := 0, cells := 0, slots := 0, locals := 0 } : Room) #[(.int u0), (.int u1)] h0 (fun v h L => v = some (.int (if u0 < u1 ∨ ¬ u0 < u1 + 32 then 1 else 0)) ∧ Fr n0 L ∧ h = h0) := by
  refine own_body pn_1 ?_
  intro p e s m below meth c s₁ hx hby hml hown hnm hret hZ e0 X0 G go rt
  have N0 := Fr.nil n0
  rw [ef_rm1 m u0 u1]
  show G (s₁.setTop (mkF m 0 #[.val (.int u0), .val (.int u1)] []))
  refine go _ _ (fun t' k' => XS.iloadN X0.here hx rfl (hb hby d1_0) rfl  k') ?_
  show G (s₁.setTop (mkF m 1 #[.val (.int u0), .val (.int u1)] [(.int u0)]))
  refine go _ _ (fun t' k' => XS.iloadN X0.here hx rfl (hb hby d1_1) rfl  k') ?_
  show G (s₁.setTop (mkF m 2 #[.val (.int u0), .val (.int u1)] [(.int u1), (.int u0)]))
  by_cases c1 : u0 < u1
  · refine go _ _ (fun t' k' => XS.icmpYes X0.here hx rfl (pc0 := 2) (pc' := 13) rfl (hb hby d1_2) rfl (Free.XT.ii_lt_t c1) (by decide) (by decide) k') ?_
    show G (s₁.setTop (mkF m 13 #[.val (.int u0), .val (.int u1)] []))
    refine go _ _ (fun t' k' => XS.iconst X0.here hx rfl (hb hby d1_13) k') ?_
    show G (s₁.setTop (mkF m 14 #[.val (.int u0), .val (.int u1)] [(.int (1 : Int32))]))
    refine go _ _ (fun t' k' => XS.goto X0.here hx rfl (pc0 := 14) (pc' := 18) rfl (hb hby d1_14) (by decide) (by decide) k') ?_
    show G (s₁.setTop (mkF m 18 #[.val (.int u0), .val (.int u1)] [(.int (1 : Int32))]))
    refine own_retZ rt X0 hx (t := .boolean) hret (by simp) (hb hby d1_18) (by decide) (by decide) ?_
    exact ⟨by simp [nar, c1], N0, e0⟩
  · refine go _ _ (fun t' k' => XS.icmpNo X0.here hx rfl (hb hby d1_2) rfl (Free.XT.ii_lt_f c1) k') ?_
    show G (s₁.setTop (mkF m 5 #[.val (.int u0), .val (.int u1)] []))
    refine go _ _ (fun t' k' => XS.iloadN X0.here hx rfl (hb hby d1_5) rfl  k') ?_
    show G (s₁.setTop (mkF m 6 #[.val (.int u0), .val (.int u1)] [(.int u0)]))
    refine go _ _ (fun t' k' => XS.iloadN X0.here hx rfl (hb hby d1_6) rfl  k') ?_
    show G (s₁.setTop (mkF m 7 #[.val (.int u0), .val (.int u1)] [(.int u1), (.int u0)]))
    refine go _ _ (fun t' k' => XS.bipush X0.here hx rfl (hb hby d1_7) k') ?_
    show G (s₁.setTop (mkF m 9 #[.val (.int u0), .val (.int u1)] [(.int (32 : Int32)), (.int u1), (.int u0)]))
    refine go _ _ (fun t' k' => XS.iadd X0.here hx rfl (hb hby d1_9) rfl k') ?_
    show G (s₁.setTop (mkF m 10 #[.val (.int u0), .val (.int u1)] [(.int (u1 + (32 : Int32))), (.int u0)]))
    by_cases c2 : u0 < (u1 + (32 : Int32))
    · refine go _ _ (fun t' k' => XS.icmpYes X0.here hx rfl (pc0 := 10) (pc' := 17) rfl (hb hby d1_10) rfl (Free.XT.ii_lt_t c2) (by decide) (by decide) k') ?_
      show G (s₁.setTop (mkF m 17 #[.val (.int u0), .val (.int u1)] []))
      refine go _ _ (fun t' k' => XS.iconst X0.here hx rfl (hb hby d1_17) k') ?_
      show G (s₁.setTop (mkF m 18 #[.val (.int u0), .val (.int u1)] [(.int (0 : Int32))]))
      refine own_retZ rt X0 hx (t := .boolean) hret (by simp) (hb hby d1_18) (by decide) (by decide) ?_
      exact ⟨by simp [nar, c1, c2], N0, e0⟩
    · refine go _ _ (fun t' k' => XS.icmpNo X0.here hx rfl (hb hby d1_10) rfl (Free.XT.ii_lt_f c2) k') ?_
      show G (s₁.setTop (mkF m 13 #[.val (.int u0), .val (.int u1)] []))
      refine go _ _ (fun t' k' => XS.iconst X0.here hx rfl (hb hby d1_13) k') ?_
      show G (s₁.setTop (mkF m 14 #[.val (.int u0), .val (.int u1)] [(.int (1 : Int32))]))
      refine go _ _ (fun t' k' => XS.goto X0.here hx rfl (pc0 := 14) (pc' := 18) rfl (hb hby d1_14) (by decide) (by decide) k') ?_
      show G (s₁.setTop (mkF m 18 #[.val (.int u0), .val (.int u1)] [(.int (1 : Int32))]))
      refine own_retZ rt X0 hx (t := .boolean) hret (by simp) (hb hby d1_18) (by decide) (by decide) ?_
      exact ⟨by simp [nar, c1, c2], N0, e0⟩
theorem pn_2 : plainName "com/example/lotwise/lotwise/value/ValuesIsDigestPinLaw" = true := by first | (simp [plainName, overriddenIn]; done) | decide +kernel
theorem ef_rm2 (m : MethodId) (x0 : Int32) : entryFrame m #[(.int x0)] 2 = mkF m 0 #[.val (.int x0), .unset] [] := by first | (simp [entryFrame, mkF, argsToLocals, Value.category]; done) | rfl
set_option maxRecDepth 65536 in
set_option maxHeartbeats 40000000 in
theorem rm2 (l : Launch) (Z : State) (a0 : Array Value) (hw : ∀ d ∈ tables_1, d.before a0 Z = true) (u0 : Int32) (h0 : Heap) (n0 : Nat) (Z0 : n0 ≤ h0.size)  :
    Con l Z (⟨"com/example/lotwise/lotwise/value/ValuesIsDigestPinLaw", "isHex", "(B)Z"⟩ : MethodName) method_4_code 2 (some .boolean) ({ frames := 0, cells := 0, slots := 0, locals := 0 } : Room) #[(.int u0)] h0 (fun v h L => v = some (.int (if hexB u0 then 1 else 0)) ∧ Fr n0 L ∧ h = h0) := by
  refine own_body pn_2 ?_
  intro p e s m below meth c s₁ hx hby hml hown hnm hret hZ e0 X0 G go rt
  have N0 := Fr.nil n0
  rw [ef_rm2 m u0]
  show G (s₁.setTop (mkF m 0 #[.val (.int u0), .unset] []))
  refine go _ _ (fun t' k' => XS.iloadN X0.here hx rfl (hb hby d2_0) rfl  k') ?_
  show G (s₁.setTop (mkF m 1 #[.val (.int u0), .unset] [(.int u0)]))
  refine go _ _ (fun t' k' => XS.istoreN X0.here hx rfl (hb hby d2_1) rfl (l' := #[.val (.int u0), .val (.int u0)]) rfl k') ?_
  show G (s₁.setTop (mkF m 2 #[.val (.int u0), .val (.int u0)] []))
  refine go _ _ (fun t' k' => XS.iloadN X0.here hx rfl (hb hby d2_2) rfl  k') ?_
  show G (s₁.setTop (mkF m 3 #[.val (.int u0), .val (.int u0)] [(.int u0)]))
  refine go _ _ (fun t' k' => XS.bipush X0.here hx rfl (hb hby d2_3) k') ?_
  show G (s₁.setTop (mkF m 5 #[.val (.int u0), .val (.int u0)] [(.int (48 : Int32)), (.int u0)]))
  by_cases c3 : u0 < (48 : Int32)
  · refine go _ _ (fun t' k' => XS.icmpYes X0.here hx rfl (pc0 := 5) (pc' := 16) rfl (hb hby d2_5) rfl (Free.XT.ii_lt_t c3) (by decide) (by decide) k') ?_
    show G (s₁.setTop (mkF m 16 #[.val (.int u0), .val (.int u0)] []))
    refine go _ _ (fun t' k' => XS.iloadN X0.here hx rfl (hb hby d2_16) rfl  k') ?_
    show G (s₁.setTop (mkF m 17 #[.val (.int u0), .val (.int u0)] [(.int u0)]))
    refine go _ _ (fun t' k' => XS.bipush X0.here hx rfl (hb hby d2_17) k') ?_
    show G (s₁.setTop (mkF m 19 #[.val (.int u0), .val (.int u0)] [(.int (97 : Int32)), (.int u0)]))
    by_cases c4 : u0 < (97 : Int32)
    · refine go _ _ (fun t' k' => XS.icmpYes X0.here hx rfl (pc0 := 19) (pc' := 32) rfl (hb hby d2_19) rfl (Free.XT.ii_lt_t c4) (by decide) (by decide) k') ?_
      show G (s₁.setTop (mkF m 32 #[.val (.int u0), .val (.int u0)] []))
      refine go _ _ (fun t' k' => XS.iconst X0.here hx rfl (hb hby d2_32) k') ?_
      show G (s₁.setTop (mkF m 33 #[.val (.int u0), .val (.int u0)] [(.int (0 : Int32))]))
      refine own_retZ rt X0 hx (t := .boolean) hret (by simp) (hb hby d2_33) (by decide) (by decide) ?_
      exact ⟨by simp [nar, hexB, c3, c4], N0, e0⟩
    · refine go _ _ (fun t' k' => XS.icmpNo X0.here hx rfl (hb hby d2_19) rfl (Free.XT.ii_lt_f c4) k') ?_
      show G (s₁.setTop (mkF m 22 #[.val (.int u0), .val (.int u0)] []))
      refine go _ _ (fun t' k' => XS.iloadN X0.here hx rfl (hb hby d2_22) rfl  k') ?_
      show G (s₁.setTop (mkF m 23 #[.val (.int u0), .val (.int u0)] [(.int u0)]))
      refine go _ _ (fun t' k' => XS.bipush X0.here hx rfl (hb hby d2_23) k') ?_
      show G (s₁.setTop (mkF m 25 #[.val (.int u0), .val (.int u0)] [(.int (102 : Int32)), (.int u0)]))
      by_cases c5 : (102 : Int32) < u0
      · refine go _ _ (fun t' k' => XS.icmpYes X0.here hx rfl (pc0 := 25) (pc' := 32) rfl (hb hby d2_25) rfl (Free.XT.ii_gt_t c5) (by decide) (by decide) k') ?_
        show G (s₁.setTop (mkF m 32 #[.val (.int u0), .val (.int u0)] []))
        refine go _ _ (fun t' k' => XS.iconst X0.here hx rfl (hb hby d2_32) k') ?_
        show G (s₁.setTop (mkF m 33 #[.val (.int u0), .val (.int u0)] [(.int (0 : Int32))]))
        refine own_retZ rt X0 hx (t := .boolean) hret (by simp) (hb hby d2_33) (by decide) (by decide) ?_
        exact ⟨by simp [nar, hexB, c3, c4, c5], N0, e0⟩
      · refine go _ _ (fun t' k' => XS.icmpNo X0.here hx rfl (hb hby d2_25) rfl (Free.XT.ii_gt_f c5) k') ?_
        show G (s₁.setTop (mkF m 28 #[.val (.int u0), .val (.int u0)] []))
        refine go _ _ (fun t' k' => XS.iconst X0.here hx rfl (hb hby d2_28) k') ?_
        show G (s₁.setTop (mkF m 29 #[.val (.int u0), .val (.int u0)] [(.int (1 : Int32))]))
        refine go _ _ (fun t' k' => XS.goto X0.here hx rfl (pc0 := 29) (pc' := 33) rfl (hb hby d2_29) (by decide) (by decide) k') ?_
        show G (s₁.setTop (mkF m 33 #[.val (.int u0), .val (.int u0)] [(.int (1 : Int32))]))
        refine own_retZ rt X0 hx (t := .boolean) hret (by simp) (hb hby d2_33) (by decide) (by decide) ?_
        exact ⟨by simp [nar, hexB, c3, c4, c5], N0, e0⟩
  · refine go _ _ (fun t' k' => XS.icmpNo X0.here hx rfl (hb hby d2_5) rfl (Free.XT.ii_lt_f c3) k') ?_
    show G (s₁.setTop (mkF m 8 #[.val (.int u0), .val (.int u0)] []))
    refine go _ _ (fun t' k' => XS.iloadN X0.here hx rfl (hb hby d2_8) rfl  k') ?_
    show G (s₁.setTop (mkF m 9 #[.val (.int u0), .val (.int u0)] [(.int u0)]))
    refine go _ _ (fun t' k' => XS.bipush X0.here hx rfl (hb hby d2_9) k') ?_
    show G (s₁.setTop (mkF m 11 #[.val (.int u0), .val (.int u0)] [(.int (57 : Int32)), (.int u0)]))
    by_cases c6 : (57 : Int32) < u0
    · refine go _ _ (fun t' k' => XS.icmpYes X0.here hx rfl (pc0 := 11) (pc' := 16) rfl (hb hby d2_11) rfl (Free.XT.ii_gt_t c6) (by decide) (by decide) k') ?_
      show G (s₁.setTop (mkF m 16 #[.val (.int u0), .val (.int u0)] []))
      refine go _ _ (fun t' k' => XS.iloadN X0.here hx rfl (hb hby d2_16) rfl  k') ?_
      show G (s₁.setTop (mkF m 17 #[.val (.int u0), .val (.int u0)] [(.int u0)]))
      refine go _ _ (fun t' k' => XS.bipush X0.here hx rfl (hb hby d2_17) k') ?_
      show G (s₁.setTop (mkF m 19 #[.val (.int u0), .val (.int u0)] [(.int (97 : Int32)), (.int u0)]))
      by_cases c7 : u0 < (97 : Int32)
      · refine go _ _ (fun t' k' => XS.icmpYes X0.here hx rfl (pc0 := 19) (pc' := 32) rfl (hb hby d2_19) rfl (Free.XT.ii_lt_t c7) (by decide) (by decide) k') ?_
        show G (s₁.setTop (mkF m 32 #[.val (.int u0), .val (.int u0)] []))
        refine go _ _ (fun t' k' => XS.iconst X0.here hx rfl (hb hby d2_32) k') ?_
        show G (s₁.setTop (mkF m 33 #[.val (.int u0), .val (.int u0)] [(.int (0 : Int32))]))
        refine own_retZ rt X0 hx (t := .boolean) hret (by simp) (hb hby d2_33) (by decide) (by decide) ?_
        exact ⟨by simp [nar, hexB, c3, c6, c7], N0, e0⟩
      · refine go _ _ (fun t' k' => XS.icmpNo X0.here hx rfl (hb hby d2_19) rfl (Free.XT.ii_lt_f c7) k') ?_
        show G (s₁.setTop (mkF m 22 #[.val (.int u0), .val (.int u0)] []))
        refine go _ _ (fun t' k' => XS.iloadN X0.here hx rfl (hb hby d2_22) rfl  k') ?_
        show G (s₁.setTop (mkF m 23 #[.val (.int u0), .val (.int u0)] [(.int u0)]))
        refine go _ _ (fun t' k' => XS.bipush X0.here hx rfl (hb hby d2_23) k') ?_
        show G (s₁.setTop (mkF m 25 #[.val (.int u0), .val (.int u0)] [(.int (102 : Int32)), (.int u0)]))
        by_cases c8 : (102 : Int32) < u0
        · refine go _ _ (fun t' k' => XS.icmpYes X0.here hx rfl (pc0 := 25) (pc' := 32) rfl (hb hby d2_25) rfl (Free.XT.ii_gt_t c8) (by decide) (by decide) k') ?_
          show G (s₁.setTop (mkF m 32 #[.val (.int u0), .val (.int u0)] []))
          refine go _ _ (fun t' k' => XS.iconst X0.here hx rfl (hb hby d2_32) k') ?_
          show G (s₁.setTop (mkF m 33 #[.val (.int u0), .val (.int u0)] [(.int (0 : Int32))]))
          refine own_retZ rt X0 hx (t := .boolean) hret (by simp) (hb hby d2_33) (by decide) (by decide) ?_
          exact ⟨by simp [nar, hexB, c3, c6, c7, c8], N0, e0⟩
        · refine go _ _ (fun t' k' => XS.icmpNo X0.here hx rfl (hb hby d2_25) rfl (Free.XT.ii_gt_f c8) k') ?_
          show G (s₁.setTop (mkF m 28 #[.val (.int u0), .val (.int u0)] []))
          refine go _ _ (fun t' k' => XS.iconst X0.here hx rfl (hb hby d2_28) k') ?_
          show G (s₁.setTop (mkF m 29 #[.val (.int u0), .val (.int u0)] [(.int (1 : Int32))]))
          refine go _ _ (fun t' k' => XS.goto X0.here hx rfl (pc0 := 29) (pc' := 33) rfl (hb hby d2_29) (by decide) (by decide) k') ?_
          show G (s₁.setTop (mkF m 33 #[.val (.int u0), .val (.int u0)] [(.int (1 : Int32))]))
          refine own_retZ rt X0 hx (t := .boolean) hret (by simp) (hb hby d2_33) (by decide) (by decide) ?_
          exact ⟨by simp [nar, hexB, c3, c6, c7, c8], N0, e0⟩
    · refine go _ _ (fun t' k' => XS.icmpNo X0.here hx rfl (hb hby d2_11) rfl (Free.XT.ii_gt_f c6) k') ?_
      show G (s₁.setTop (mkF m 14 #[.val (.int u0), .val (.int u0)] []))
      refine go _ _ (fun t' k' => XS.iconst X0.here hx rfl (hb hby d2_14) k') ?_
      show G (s₁.setTop (mkF m 15 #[.val (.int u0), .val (.int u0)] [(.int (1 : Int32))]))
      refine own_retZ rt X0 hx (t := .boolean) hret (by simp) (hb hby d2_15) (by decide) (by decide) ?_
      exact ⟨by simp [nar, hexB, c3, c6], N0, e0⟩
theorem pn_3 : plainName "com/example/lotwise/lotwise/value/Values" = true := by first | (simp [plainName, overriddenIn]; done) | decide +kernel
theorem ef_rm3 (m : MethodId) (x0 : Addr) (x1 : Int32) (x2 : Int32) : entryFrame m #[(.ref x0), (.int x1), (.int x2)] 6 = mkF m 0 #[.val (.ref x0), .val (.int x1), .val (.int x2), .unset, .unset, .unset] [] := by first | (simp [entryFrame, mkF, argsToLocals, Value.category]; done) | rfl
set_option maxRecDepth 65536 in
set_option maxHeartbeats 40000000 in
theorem rm3 (l : Launch) (Z : State) (a0 : Array Value) (hw : ∀ d ∈ tables_1, d.before a0 Z = true) (r0 : Addr) (u1 u2 : Int32) (g : Nat → Int32) (fr : Nat) (h0 : Heap) (n0 : Nat) (Z0 : n0 ≤ h0.size) (A : Ary Z h0 r0 .byte 40 (fun i => .int (g i))) (hfr : u1.toInt = fr) (hf8 : fr ≤ 8) :
    Con l Z (⟨"com/example/lotwise/lotwise/value/Values", "isDigest", "([BII)Z"⟩ : MethodName) prog_158_method_20_code 6 (some .boolean) ({ frames := 0, cells := 0, slots := 0, locals := 0 } : Room) #[(.ref r0), (.int u1), (.int u2)] h0 (fun v h L => v = some (.int (if u2 - u1 = 32 ∧ allHex g fr 32 = true then 1 else 0)) ∧ Fr n0 L ∧ h = h0) := by
  refine own_body pn_3 ?_
  intro p e s m below meth c s₁ hx hby hml hown hnm hret hZ e0 X0 G go rt
  have N0 := Fr.nil n0
  rw [ef_rm3 m r0 u1 u2]
  show G (s₁.setTop (mkF m 0 #[.val (.ref r0), .val (.int u1), .val (.int u2), .unset, .unset, .unset] []))
  refine go _ _ (fun t' k' => XS.iloadN X0.here hx rfl (hb hby d3_0) rfl  k') ?_
  show G (s₁.setTop (mkF m 1 #[.val (.ref r0), .val (.int u1), .val (.int u2), .unset, .unset, .unset] [(.int u2)]))
  refine go _ _ (fun t' k' => XS.iloadN X0.here hx rfl (hb hby d3_1) rfl  k') ?_
  show G (s₁.setTop (mkF m 2 #[.val (.ref r0), .val (.int u1), .val (.int u2), .unset, .unset, .unset] [(.int u1), (.int u2)]))
  refine go _ _ (fun t' k' => XS.isub X0.here hx rfl (hb hby d3_2) rfl k') ?_
  show G (s₁.setTop (mkF m 3 #[.val (.ref r0), .val (.int u1), .val (.int u2), .unset, .unset, .unset] [(.int (u2 - u1))]))
  refine go _ _ (fun t' k' => XS.bipush X0.here hx rfl (hb hby d3_3) k') ?_
  show G (s₁.setTop (mkF m 5 #[.val (.ref r0), .val (.int u1), .val (.int u2), .unset, .unset, .unset] [(.int (32 : Int32)), (.int (u2 - u1))]))
  by_cases c9 : (u2 - u1) = (32 : Int32)
  · refine go _ _ (fun t' k' => XS.icmpNo X0.here hx rfl (hb hby d3_5) rfl (Free.XT.ii_ne_f c9) k') ?_
    show G (s₁.setTop (mkF m 8 #[.val (.ref r0), .val (.int u1), .val (.int u2), .unset, .unset, .unset] []))
    refine go _ _ (fun t' k' => XS.iconst X0.here hx rfl (hb hby d3_8) k') ?_
    show G (s₁.setTop (mkF m 9 #[.val (.ref r0), .val (.int u1), .val (.int u2), .unset, .unset, .unset] [(.int (1 : Int32))]))
    refine go _ _ (fun t' k' => XS.goto X0.here hx rfl (pc0 := 9) (pc' := 13) rfl (hb hby d3_9) (by decide) (by decide) k') ?_
    show G (s₁.setTop (mkF m 13 #[.val (.ref r0), .val (.int u1), .val (.int u2), .unset, .unset, .unset] [(.int (1 : Int32))]))
    refine go _ _ (fun t' k' => XS.istoreN X0.here hx rfl (hb hby d3_13) rfl (l' := #[.val (.ref r0), .val (.int u1), .val (.int u2), .val (.int (1 : Int32)), .unset, .unset]) rfl k') ?_
    show G (s₁.setTop (mkF m 14 #[.val (.ref r0), .val (.int u1), .val (.int u2), .val (.int (1 : Int32)), .unset, .unset] []))
    refine go _ _ (fun t' k' => XS.iloadN X0.here hx rfl (hb hby d3_14) rfl  k') ?_
    show G (s₁.setTop (mkF m 15 #[.val (.ref r0), .val (.int u1), .val (.int u2), .val (.int (1 : Int32)), .unset, .unset] [(.int u1)]))
    refine go _ _ (fun t' k' => XS.istore X0.here hx rfl (hb hby d3_15) rfl (l' := #[.val (.ref r0), .val (.int u1), .val (.int u2), .val (.int (1 : Int32)), .val (.int u1), .unset]) rfl k') ?_
    show G (s₁.setTop (mkF m 17 #[.val (.ref r0), .val (.int u1), .val (.int u2), .val (.int (1 : Int32)), .val (.int u1), .unset] []))
    have hd32 := c9
    have hto : u2.toInt = fr + 32 := own_to hd32 hfr hf8
    have loop : ∀ (n kk : Nat), n + kk = 32 → ∀ (at_ dg : Int32) (s5 : Slot), One s5 → at_.toInt = ((fr + kk : Nat) : Int) → dg = (if allHex g fr kk = true then 1 else 0) → G (s₁.setTop (mkF m 17 #[.val (.ref r0), .val (.int u1), .val (.int u2), .val (.int dg), .val (.int at_), s5] [])) := by
      intro n
      induction n with
      | zero =>
        intro kk hn at_ dg s5 hs5 hat hdg
        obtain rfl : kk = 32 := by omega
        show G (s₁.setTop (mkF m 17 #[.val (.ref r0), .val (.int u1), .val (.int u2), .val (.int dg), .val (.int at_), s5] []))
        refine go _ _ (fun t' k' => XS.iloadN X0.here hx rfl (hb hby d3_17) rfl  k') ?_
        show G (s₁.setTop (mkF m 18 #[.val (.ref r0), .val (.int u1), .val (.int u2), .val (.int dg), .val (.int at_), s5] [(.int dg)]))
        by_cases c10 : dg = (0 : Int32)
        · refine go _ _ (fun t' k' => XS.ifYes X0.here hx rfl (pc0 := 18) (pc' := 73) rfl (hb hby d3_18) rfl (Free.XT.i0_eq_t c10) (by decide) (by decide) k') ?_
          show G (s₁.setTop (mkF m 73 #[.val (.ref r0), .val (.int u1), .val (.int u2), .val (.int dg), .val (.int at_), s5] []))
          refine go _ _ (fun t' k' => XS.iloadN X0.here hx rfl (hb hby d3_73) rfl  k') ?_
          show G (s₁.setTop (mkF m 74 #[.val (.ref r0), .val (.int u1), .val (.int u2), .val (.int dg), .val (.int at_), s5] [(.int dg)]))
          refine own_retZ rt X0 hx (t := .boolean) hret (by simp) (hb hby d3_74) (by decide) (by decide) ?_
          refine ⟨?_, N0, e0⟩
          subst hdg
          simp only [hd32, true_and, own_nar_ite]
        · refine go _ _ (fun t' k' => XS.ifNo X0.here hx rfl (hb hby d3_18) rfl (Free.XT.i0_eq_f c10) k') ?_
          show G (s₁.setTop (mkF m 21 #[.val (.ref r0), .val (.int u1), .val (.int u2), .val (.int dg), .val (.int at_), s5] []))
          refine go _ _ (fun t' k' => XS.iload X0.here hx rfl (hb hby d3_21) rfl  k') ?_
          show G (s₁.setTop (mkF m 23 #[.val (.ref r0), .val (.int u1), .val (.int u2), .val (.int dg), .val (.int at_), s5] [(.int at_)]))
          refine go _ _ (fun t' k' => XS.iloadN X0.here hx rfl (hb hby d3_23) rfl  k') ?_
          show G (s₁.setTop (mkF m 24 #[.val (.ref r0), .val (.int u1), .val (.int u2), .val (.int dg), .val (.int at_), s5] [(.int u2), (.int at_)]))
          refine go _ _ (fun t' k' => XS.icmpYes X0.here hx rfl (pc0 := 24) (pc' := 73) rfl (hb hby d3_24) rfl (Free.XT.ii_ge_t (own_nlt hat hto (by omega))) (by decide) (by decide) k') ?_
          show G (s₁.setTop (mkF m 73 #[.val (.ref r0), .val (.int u1), .val (.int u2), .val (.int dg), .val (.int at_), s5] []))
          refine go _ _ (fun t' k' => XS.iloadN X0.here hx rfl (hb hby d3_73) rfl  k') ?_
          show G (s₁.setTop (mkF m 74 #[.val (.ref r0), .val (.int u1), .val (.int u2), .val (.int dg), .val (.int at_), s5] [(.int dg)]))
          refine own_retZ rt X0 hx (t := .boolean) hret (by simp) (hb hby d3_74) (by decide) (by decide) ?_
          refine ⟨?_, N0, e0⟩
          subst hdg
          simp only [hd32, true_and, own_nar_ite]
      | succ n ih =>
        intro kk hn at_ dg s5 hs5 hat hdg
        show G (s₁.setTop (mkF m 17 #[.val (.ref r0), .val (.int u1), .val (.int u2), .val (.int dg), .val (.int at_), s5] []))
        refine go _ _ (fun t' k' => XS.iloadN X0.here hx rfl (hb hby d3_17) rfl  k') ?_
        show G (s₁.setTop (mkF m 18 #[.val (.ref r0), .val (.int u1), .val (.int u2), .val (.int dg), .val (.int at_), s5] [(.int dg)]))
        by_cases c11 : dg = (0 : Int32)
        · refine go _ _ (fun t' k' => XS.ifYes X0.here hx rfl (pc0 := 18) (pc' := 73) rfl (hb hby d3_18) rfl (Free.XT.i0_eq_t c11) (by decide) (by decide) k') ?_
          show G (s₁.setTop (mkF m 73 #[.val (.ref r0), .val (.int u1), .val (.int u2), .val (.int dg), .val (.int at_), s5] []))
          refine go _ _ (fun t' k' => XS.iloadN X0.here hx rfl (hb hby d3_73) rfl  k') ?_
          show G (s₁.setTop (mkF m 74 #[.val (.ref r0), .val (.int u1), .val (.int u2), .val (.int dg), .val (.int at_), s5] [(.int dg)]))
          refine own_retZ rt X0 hx (t := .boolean) hret (by simp) (hb hby d3_74) (by decide) (by decide) ?_
          refine ⟨?_, N0, e0⟩
          rw [if_neg (fun z => own_all_ne hdg c11 (by omega) z.2)]
          rw [c11]; rfl
        · refine go _ _ (fun t' k' => XS.ifNo X0.here hx rfl (hb hby d3_18) rfl (Free.XT.i0_eq_f c11) k') ?_
          show G (s₁.setTop (mkF m 21 #[.val (.ref r0), .val (.int u1), .val (.int u2), .val (.int dg), .val (.int at_), s5] []))
          refine go _ _ (fun t' k' => XS.iload X0.here hx rfl (hb hby d3_21) rfl  k') ?_
          show G (s₁.setTop (mkF m 23 #[.val (.ref r0), .val (.int u1), .val (.int u2), .val (.int dg), .val (.int at_), s5] [(.int at_)]))
          refine go _ _ (fun t' k' => XS.iloadN X0.here hx rfl (hb hby d3_23) rfl  k') ?_
          show G (s₁.setTop (mkF m 24 #[.val (.ref r0), .val (.int u1), .val (.int u2), .val (.int dg), .val (.int at_), s5] [(.int u2), (.int at_)]))
          refine go _ _ (fun t' k' => XS.icmpNo X0.here hx rfl (hb hby d3_24) rfl (Free.XT.ii_ge_f (own_ylt hat hto (by omega))) k') ?_
          show G (s₁.setTop (mkF m 27 #[.val (.ref r0), .val (.int u1), .val (.int u2), .val (.int dg), .val (.int at_), s5] []))
          refine go _ _ (fun t' k' => XS.aloadN X0.here hx rfl (hb hby d3_27) rfl rfl  k') ?_
          show G (s₁.setTop (mkF m 28 #[.val (.ref r0), .val (.int u1), .val (.int u2), .val (.int dg), .val (.int at_), s5] [(.ref r0)]))
          refine go _ _ (fun t' k' => XS.iload X0.here hx rfl (hb hby d3_28) rfl  k') ?_
          show G (s₁.setTop (mkF m 30 #[.val (.ref r0), .val (.int u1), .val (.int u2), .val (.int dg), .val (.int at_), s5] [(.int at_), (.ref r0)]))
          refine own_baload go X0 hx hZ e0 (fr + kk) hat (by omega) (g := (mkF m 30 #[.val (.ref r0), .val (.int u1), .val (.int u2), .val (.int dg), .val (.int at_), s5] [(.int at_), (.ref r0)])) rfl A rfl (hb hby d3_30) ?_
          show G (s₁.setTop (mkF m 31 #[.val (.ref r0), .val (.int u1), .val (.int u2), .val (.int dg), .val (.int at_), s5] [(.int (g (fr + kk)))]))
          refine go _ _ (fun t' k' => XS.istoreS X0.here hx rfl (hb hby d3_31) rfl rfl hs5 k') ?_
          show G (s₁.setTop (mkF m 33 #[.val (.ref r0), .val (.int u1), .val (.int u2), .val (.int dg), .val (.int at_), .val (.int (g (fr + kk)))] []))
          obtain ⟨gb, hgb⟩ : ∃ z, z = (g (fr + kk)) := ⟨_, rfl⟩
          rw [← hgb]
          show G (s₁.setTop (mkF m 33 #[.val (.ref r0), .val (.int u1), .val (.int u2), .val (.int dg), .val (.int at_), .val (.int gb)] []))
          refine go _ _ (fun t' k' => XS.iload X0.here hx rfl (hb hby d3_33) rfl  k') ?_
          show G (s₁.setTop (mkF m 35 #[.val (.ref r0), .val (.int u1), .val (.int u2), .val (.int dg), .val (.int at_), .val (.int gb)] [(.int gb)]))
          refine go _ _ (fun t' k' => XS.bipush X0.here hx rfl (hb hby d3_35) k') ?_
          show G (s₁.setTop (mkF m 37 #[.val (.ref r0), .val (.int u1), .val (.int u2), .val (.int dg), .val (.int at_), .val (.int gb)] [(.int (48 : Int32)), (.int gb)]))
          by_cases c12 : gb < (48 : Int32)
          · refine go _ _ (fun t' k' => XS.icmpYes X0.here hx rfl (pc0 := 37) (pc' := 47) rfl (hb hby d3_37) rfl (Free.XT.ii_lt_t c12) (by decide) (by decide) k') ?_
            show G (s₁.setTop (mkF m 47 #[.val (.ref r0), .val (.int u1), .val (.int u2), .val (.int dg), .val (.int at_), .val (.int gb)] []))
            refine go _ _ (fun t' k' => XS.iload X0.here hx rfl (hb hby d3_47) rfl  k') ?_
            show G (s₁.setTop (mkF m 49 #[.val (.ref r0), .val (.int u1), .val (.int u2), .val (.int dg), .val (.int at_), .val (.int gb)] [(.int gb)]))
            refine go _ _ (fun t' k' => XS.bipush X0.here hx rfl (hb hby d3_49) k') ?_
            show G (s₁.setTop (mkF m 51 #[.val (.ref r0), .val (.int u1), .val (.int u2), .val (.int dg), .val (.int at_), .val (.int gb)] [(.int (97 : Int32)), (.int gb)]))
            by_cases c13 : gb < (97 : Int32)
            · refine go _ _ (fun t' k' => XS.icmpYes X0.here hx rfl (pc0 := 51) (pc' := 65) rfl (hb hby d3_51) rfl (Free.XT.ii_lt_t c13) (by decide) (by decide) k') ?_
              show G (s₁.setTop (mkF m 65 #[.val (.ref r0), .val (.int u1), .val (.int u2), .val (.int dg), .val (.int at_), .val (.int gb)] []))
              refine go _ _ (fun t' k' => XS.iconst X0.here hx rfl (hb hby d3_65) k') ?_
              show G (s₁.setTop (mkF m 66 #[.val (.ref r0), .val (.int u1), .val (.int u2), .val (.int dg), .val (.int at_), .val (.int gb)] [(.int (0 : Int32))]))
              refine go _ _ (fun t' k' => XS.istoreN X0.here hx rfl (hb hby d3_66) rfl (l' := #[.val (.ref r0), .val (.int u1), .val (.int u2), .val (.int (0 : Int32)), .val (.int at_), .val (.int gb)]) rfl k') ?_
              show G (s₁.setTop (mkF m 67 #[.val (.ref r0), .val (.int u1), .val (.int u2), .val (.int (0 : Int32)), .val (.int at_), .val (.int gb)] []))
              refine go _ _ (fun t' k' => XS.iinc X0.here hx rfl (hb hby d3_67) rfl (l' := #[.val (.ref r0), .val (.int u1), .val (.int u2), .val (.int (0 : Int32)), .val (.int (at_ + (1 : Int32))), .val (.int gb)]) rfl k') ?_
              show G (s₁.setTop (mkF m 70 #[.val (.ref r0), .val (.int u1), .val (.int u2), .val (.int (0 : Int32)), .val (.int (at_ + (1 : Int32))), .val (.int gb)] []))
              refine go _ _ (fun t' k' => XS.goto X0.here hx rfl (pc0 := 70) (pc' := 17) rfl (hb hby d3_70) (by decide) (by decide) k') ?_
              show G (s₁.setTop (mkF m 17 #[.val (.ref r0), .val (.int u1), .val (.int u2), .val (.int (0 : Int32)), .val (.int (at_ + (1 : Int32))), .val (.int gb)] []))
              exact ih (kk + 1) (by omega) _ _ _ (One.val rfl) (own_next hat (by omega)) (by rw [own_all_succ, own_all_tt hdg c11, ← hgb]; simp [hexB, c12, c13])
            · refine go _ _ (fun t' k' => XS.icmpNo X0.here hx rfl (hb hby d3_51) rfl (Free.XT.ii_lt_f c13) k') ?_
              show G (s₁.setTop (mkF m 54 #[.val (.ref r0), .val (.int u1), .val (.int u2), .val (.int dg), .val (.int at_), .val (.int gb)] []))
              refine go _ _ (fun t' k' => XS.iload X0.here hx rfl (hb hby d3_54) rfl  k') ?_
              show G (s₁.setTop (mkF m 56 #[.val (.ref r0), .val (.int u1), .val (.int u2), .val (.int dg), .val (.int at_), .val (.int gb)] [(.int gb)]))
              refine go _ _ (fun t' k' => XS.bipush X0.here hx rfl (hb hby d3_56) k') ?_
              show G (s₁.setTop (mkF m 58 #[.val (.ref r0), .val (.int u1), .val (.int u2), .val (.int dg), .val (.int at_), .val (.int gb)] [(.int (102 : Int32)), (.int gb)]))
              by_cases c14 : (102 : Int32) < gb
              · refine go _ _ (fun t' k' => XS.icmpYes X0.here hx rfl (pc0 := 58) (pc' := 65) rfl (hb hby d3_58) rfl (Free.XT.ii_gt_t c14) (by decide) (by decide) k') ?_
                show G (s₁.setTop (mkF m 65 #[.val (.ref r0), .val (.int u1), .val (.int u2), .val (.int dg), .val (.int at_), .val (.int gb)] []))
                refine go _ _ (fun t' k' => XS.iconst X0.here hx rfl (hb hby d3_65) k') ?_
                show G (s₁.setTop (mkF m 66 #[.val (.ref r0), .val (.int u1), .val (.int u2), .val (.int dg), .val (.int at_), .val (.int gb)] [(.int (0 : Int32))]))
                refine go _ _ (fun t' k' => XS.istoreN X0.here hx rfl (hb hby d3_66) rfl (l' := #[.val (.ref r0), .val (.int u1), .val (.int u2), .val (.int (0 : Int32)), .val (.int at_), .val (.int gb)]) rfl k') ?_
                show G (s₁.setTop (mkF m 67 #[.val (.ref r0), .val (.int u1), .val (.int u2), .val (.int (0 : Int32)), .val (.int at_), .val (.int gb)] []))
                refine go _ _ (fun t' k' => XS.iinc X0.here hx rfl (hb hby d3_67) rfl (l' := #[.val (.ref r0), .val (.int u1), .val (.int u2), .val (.int (0 : Int32)), .val (.int (at_ + (1 : Int32))), .val (.int gb)]) rfl k') ?_
                show G (s₁.setTop (mkF m 70 #[.val (.ref r0), .val (.int u1), .val (.int u2), .val (.int (0 : Int32)), .val (.int (at_ + (1 : Int32))), .val (.int gb)] []))
                refine go _ _ (fun t' k' => XS.goto X0.here hx rfl (pc0 := 70) (pc' := 17) rfl (hb hby d3_70) (by decide) (by decide) k') ?_
                show G (s₁.setTop (mkF m 17 #[.val (.ref r0), .val (.int u1), .val (.int u2), .val (.int (0 : Int32)), .val (.int (at_ + (1 : Int32))), .val (.int gb)] []))
                exact ih (kk + 1) (by omega) _ _ _ (One.val rfl) (own_next hat (by omega)) (by rw [own_all_succ, own_all_tt hdg c11, ← hgb]; simp [hexB, c12, c13, c14])
              · refine go _ _ (fun t' k' => XS.icmpNo X0.here hx rfl (hb hby d3_58) rfl (Free.XT.ii_gt_f c14) k') ?_
                show G (s₁.setTop (mkF m 61 #[.val (.ref r0), .val (.int u1), .val (.int u2), .val (.int dg), .val (.int at_), .val (.int gb)] []))
                refine go _ _ (fun t' k' => XS.iconst X0.here hx rfl (hb hby d3_61) k') ?_
                show G (s₁.setTop (mkF m 62 #[.val (.ref r0), .val (.int u1), .val (.int u2), .val (.int dg), .val (.int at_), .val (.int gb)] [(.int (1 : Int32))]))
                refine go _ _ (fun t' k' => XS.goto X0.here hx rfl (pc0 := 62) (pc' := 66) rfl (hb hby d3_62) (by decide) (by decide) k') ?_
                show G (s₁.setTop (mkF m 66 #[.val (.ref r0), .val (.int u1), .val (.int u2), .val (.int dg), .val (.int at_), .val (.int gb)] [(.int (1 : Int32))]))
                refine go _ _ (fun t' k' => XS.istoreN X0.here hx rfl (hb hby d3_66) rfl (l' := #[.val (.ref r0), .val (.int u1), .val (.int u2), .val (.int (1 : Int32)), .val (.int at_), .val (.int gb)]) rfl k') ?_
                show G (s₁.setTop (mkF m 67 #[.val (.ref r0), .val (.int u1), .val (.int u2), .val (.int (1 : Int32)), .val (.int at_), .val (.int gb)] []))
                refine go _ _ (fun t' k' => XS.iinc X0.here hx rfl (hb hby d3_67) rfl (l' := #[.val (.ref r0), .val (.int u1), .val (.int u2), .val (.int (1 : Int32)), .val (.int (at_ + (1 : Int32))), .val (.int gb)]) rfl k') ?_
                show G (s₁.setTop (mkF m 70 #[.val (.ref r0), .val (.int u1), .val (.int u2), .val (.int (1 : Int32)), .val (.int (at_ + (1 : Int32))), .val (.int gb)] []))
                refine go _ _ (fun t' k' => XS.goto X0.here hx rfl (pc0 := 70) (pc' := 17) rfl (hb hby d3_70) (by decide) (by decide) k') ?_
                show G (s₁.setTop (mkF m 17 #[.val (.ref r0), .val (.int u1), .val (.int u2), .val (.int (1 : Int32)), .val (.int (at_ + (1 : Int32))), .val (.int gb)] []))
                exact ih (kk + 1) (by omega) _ _ _ (One.val rfl) (own_next hat (by omega)) (by rw [own_all_succ, own_all_tt hdg c11, ← hgb]; simp [hexB, c12, c13, c14])
          · refine go _ _ (fun t' k' => XS.icmpNo X0.here hx rfl (hb hby d3_37) rfl (Free.XT.ii_lt_f c12) k') ?_
            show G (s₁.setTop (mkF m 40 #[.val (.ref r0), .val (.int u1), .val (.int u2), .val (.int dg), .val (.int at_), .val (.int gb)] []))
            refine go _ _ (fun t' k' => XS.iload X0.here hx rfl (hb hby d3_40) rfl  k') ?_
            show G (s₁.setTop (mkF m 42 #[.val (.ref r0), .val (.int u1), .val (.int u2), .val (.int dg), .val (.int at_), .val (.int gb)] [(.int gb)]))
            refine go _ _ (fun t' k' => XS.bipush X0.here hx rfl (hb hby d3_42) k') ?_
            show G (s₁.setTop (mkF m 44 #[.val (.ref r0), .val (.int u1), .val (.int u2), .val (.int dg), .val (.int at_), .val (.int gb)] [(.int (57 : Int32)), (.int gb)]))
            by_cases c15 : (57 : Int32) < gb
            · refine go _ _ (fun t' k' => XS.icmpNo X0.here hx rfl (hb hby d3_44) rfl (Free.XT.ii_le_f c15) k') ?_
              show G (s₁.setTop (mkF m 47 #[.val (.ref r0), .val (.int u1), .val (.int u2), .val (.int dg), .val (.int at_), .val (.int gb)] []))
              refine go _ _ (fun t' k' => XS.iload X0.here hx rfl (hb hby d3_47) rfl  k') ?_
              show G (s₁.setTop (mkF m 49 #[.val (.ref r0), .val (.int u1), .val (.int u2), .val (.int dg), .val (.int at_), .val (.int gb)] [(.int gb)]))
              refine go _ _ (fun t' k' => XS.bipush X0.here hx rfl (hb hby d3_49) k') ?_
              show G (s₁.setTop (mkF m 51 #[.val (.ref r0), .val (.int u1), .val (.int u2), .val (.int dg), .val (.int at_), .val (.int gb)] [(.int (97 : Int32)), (.int gb)]))
              by_cases c16 : gb < (97 : Int32)
              · refine go _ _ (fun t' k' => XS.icmpYes X0.here hx rfl (pc0 := 51) (pc' := 65) rfl (hb hby d3_51) rfl (Free.XT.ii_lt_t c16) (by decide) (by decide) k') ?_
                show G (s₁.setTop (mkF m 65 #[.val (.ref r0), .val (.int u1), .val (.int u2), .val (.int dg), .val (.int at_), .val (.int gb)] []))
                refine go _ _ (fun t' k' => XS.iconst X0.here hx rfl (hb hby d3_65) k') ?_
                show G (s₁.setTop (mkF m 66 #[.val (.ref r0), .val (.int u1), .val (.int u2), .val (.int dg), .val (.int at_), .val (.int gb)] [(.int (0 : Int32))]))
                refine go _ _ (fun t' k' => XS.istoreN X0.here hx rfl (hb hby d3_66) rfl (l' := #[.val (.ref r0), .val (.int u1), .val (.int u2), .val (.int (0 : Int32)), .val (.int at_), .val (.int gb)]) rfl k') ?_
                show G (s₁.setTop (mkF m 67 #[.val (.ref r0), .val (.int u1), .val (.int u2), .val (.int (0 : Int32)), .val (.int at_), .val (.int gb)] []))
                refine go _ _ (fun t' k' => XS.iinc X0.here hx rfl (hb hby d3_67) rfl (l' := #[.val (.ref r0), .val (.int u1), .val (.int u2), .val (.int (0 : Int32)), .val (.int (at_ + (1 : Int32))), .val (.int gb)]) rfl k') ?_
                show G (s₁.setTop (mkF m 70 #[.val (.ref r0), .val (.int u1), .val (.int u2), .val (.int (0 : Int32)), .val (.int (at_ + (1 : Int32))), .val (.int gb)] []))
                refine go _ _ (fun t' k' => XS.goto X0.here hx rfl (pc0 := 70) (pc' := 17) rfl (hb hby d3_70) (by decide) (by decide) k') ?_
                show G (s₁.setTop (mkF m 17 #[.val (.ref r0), .val (.int u1), .val (.int u2), .val (.int (0 : Int32)), .val (.int (at_ + (1 : Int32))), .val (.int gb)] []))
                exact ih (kk + 1) (by omega) _ _ _ (One.val rfl) (own_next hat (by omega)) (by rw [own_all_succ, own_all_tt hdg c11, ← hgb]; simp [hexB, c12, c15, c16])
              · refine go _ _ (fun t' k' => XS.icmpNo X0.here hx rfl (hb hby d3_51) rfl (Free.XT.ii_lt_f c16) k') ?_
                show G (s₁.setTop (mkF m 54 #[.val (.ref r0), .val (.int u1), .val (.int u2), .val (.int dg), .val (.int at_), .val (.int gb)] []))
                refine go _ _ (fun t' k' => XS.iload X0.here hx rfl (hb hby d3_54) rfl  k') ?_
                show G (s₁.setTop (mkF m 56 #[.val (.ref r0), .val (.int u1), .val (.int u2), .val (.int dg), .val (.int at_), .val (.int gb)] [(.int gb)]))
                refine go _ _ (fun t' k' => XS.bipush X0.here hx rfl (hb hby d3_56) k') ?_
                show G (s₁.setTop (mkF m 58 #[.val (.ref r0), .val (.int u1), .val (.int u2), .val (.int dg), .val (.int at_), .val (.int gb)] [(.int (102 : Int32)), (.int gb)]))
                by_cases c17 : (102 : Int32) < gb
                · refine go _ _ (fun t' k' => XS.icmpYes X0.here hx rfl (pc0 := 58) (pc' := 65) rfl (hb hby d3_58) rfl (Free.XT.ii_gt_t c17) (by decide) (by decide) k') ?_
                  show G (s₁.setTop (mkF m 65 #[.val (.ref r0), .val (.int u1), .val (.int u2), .val (.int dg), .val (.int at_), .val (.int gb)] []))
                  refine go _ _ (fun t' k' => XS.iconst X0.here hx rfl (hb hby d3_65) k') ?_
                  show G (s₁.setTop (mkF m 66 #[.val (.ref r0), .val (.int u1), .val (.int u2), .val (.int dg), .val (.int at_), .val (.int gb)] [(.int (0 : Int32))]))
                  refine go _ _ (fun t' k' => XS.istoreN X0.here hx rfl (hb hby d3_66) rfl (l' := #[.val (.ref r0), .val (.int u1), .val (.int u2), .val (.int (0 : Int32)), .val (.int at_), .val (.int gb)]) rfl k') ?_
                  show G (s₁.setTop (mkF m 67 #[.val (.ref r0), .val (.int u1), .val (.int u2), .val (.int (0 : Int32)), .val (.int at_), .val (.int gb)] []))
                  refine go _ _ (fun t' k' => XS.iinc X0.here hx rfl (hb hby d3_67) rfl (l' := #[.val (.ref r0), .val (.int u1), .val (.int u2), .val (.int (0 : Int32)), .val (.int (at_ + (1 : Int32))), .val (.int gb)]) rfl k') ?_
                  show G (s₁.setTop (mkF m 70 #[.val (.ref r0), .val (.int u1), .val (.int u2), .val (.int (0 : Int32)), .val (.int (at_ + (1 : Int32))), .val (.int gb)] []))
                  refine go _ _ (fun t' k' => XS.goto X0.here hx rfl (pc0 := 70) (pc' := 17) rfl (hb hby d3_70) (by decide) (by decide) k') ?_
                  show G (s₁.setTop (mkF m 17 #[.val (.ref r0), .val (.int u1), .val (.int u2), .val (.int (0 : Int32)), .val (.int (at_ + (1 : Int32))), .val (.int gb)] []))
                  exact ih (kk + 1) (by omega) _ _ _ (One.val rfl) (own_next hat (by omega)) (by rw [own_all_succ, own_all_tt hdg c11, ← hgb]; simp [hexB, c12, c15, c16, c17])
                · refine go _ _ (fun t' k' => XS.icmpNo X0.here hx rfl (hb hby d3_58) rfl (Free.XT.ii_gt_f c17) k') ?_
                  show G (s₁.setTop (mkF m 61 #[.val (.ref r0), .val (.int u1), .val (.int u2), .val (.int dg), .val (.int at_), .val (.int gb)] []))
                  refine go _ _ (fun t' k' => XS.iconst X0.here hx rfl (hb hby d3_61) k') ?_
                  show G (s₁.setTop (mkF m 62 #[.val (.ref r0), .val (.int u1), .val (.int u2), .val (.int dg), .val (.int at_), .val (.int gb)] [(.int (1 : Int32))]))
                  refine go _ _ (fun t' k' => XS.goto X0.here hx rfl (pc0 := 62) (pc' := 66) rfl (hb hby d3_62) (by decide) (by decide) k') ?_
                  show G (s₁.setTop (mkF m 66 #[.val (.ref r0), .val (.int u1), .val (.int u2), .val (.int dg), .val (.int at_), .val (.int gb)] [(.int (1 : Int32))]))
                  refine go _ _ (fun t' k' => XS.istoreN X0.here hx rfl (hb hby d3_66) rfl (l' := #[.val (.ref r0), .val (.int u1), .val (.int u2), .val (.int (1 : Int32)), .val (.int at_), .val (.int gb)]) rfl k') ?_
                  show G (s₁.setTop (mkF m 67 #[.val (.ref r0), .val (.int u1), .val (.int u2), .val (.int (1 : Int32)), .val (.int at_), .val (.int gb)] []))
                  refine go _ _ (fun t' k' => XS.iinc X0.here hx rfl (hb hby d3_67) rfl (l' := #[.val (.ref r0), .val (.int u1), .val (.int u2), .val (.int (1 : Int32)), .val (.int (at_ + (1 : Int32))), .val (.int gb)]) rfl k') ?_
                  show G (s₁.setTop (mkF m 70 #[.val (.ref r0), .val (.int u1), .val (.int u2), .val (.int (1 : Int32)), .val (.int (at_ + (1 : Int32))), .val (.int gb)] []))
                  refine go _ _ (fun t' k' => XS.goto X0.here hx rfl (pc0 := 70) (pc' := 17) rfl (hb hby d3_70) (by decide) (by decide) k') ?_
                  show G (s₁.setTop (mkF m 17 #[.val (.ref r0), .val (.int u1), .val (.int u2), .val (.int (1 : Int32)), .val (.int (at_ + (1 : Int32))), .val (.int gb)] []))
                  exact ih (kk + 1) (by omega) _ _ _ (One.val rfl) (own_next hat (by omega)) (by rw [own_all_succ, own_all_tt hdg c11, ← hgb]; simp [hexB, c12, c15, c16, c17])
            · refine go _ _ (fun t' k' => XS.icmpYes X0.here hx rfl (pc0 := 44) (pc' := 61) rfl (hb hby d3_44) rfl (Free.XT.ii_le_t c15) (by decide) (by decide) k') ?_
              show G (s₁.setTop (mkF m 61 #[.val (.ref r0), .val (.int u1), .val (.int u2), .val (.int dg), .val (.int at_), .val (.int gb)] []))
              refine go _ _ (fun t' k' => XS.iconst X0.here hx rfl (hb hby d3_61) k') ?_
              show G (s₁.setTop (mkF m 62 #[.val (.ref r0), .val (.int u1), .val (.int u2), .val (.int dg), .val (.int at_), .val (.int gb)] [(.int (1 : Int32))]))
              refine go _ _ (fun t' k' => XS.goto X0.here hx rfl (pc0 := 62) (pc' := 66) rfl (hb hby d3_62) (by decide) (by decide) k') ?_
              show G (s₁.setTop (mkF m 66 #[.val (.ref r0), .val (.int u1), .val (.int u2), .val (.int dg), .val (.int at_), .val (.int gb)] [(.int (1 : Int32))]))
              refine go _ _ (fun t' k' => XS.istoreN X0.here hx rfl (hb hby d3_66) rfl (l' := #[.val (.ref r0), .val (.int u1), .val (.int u2), .val (.int (1 : Int32)), .val (.int at_), .val (.int gb)]) rfl k') ?_
              show G (s₁.setTop (mkF m 67 #[.val (.ref r0), .val (.int u1), .val (.int u2), .val (.int (1 : Int32)), .val (.int at_), .val (.int gb)] []))
              refine go _ _ (fun t' k' => XS.iinc X0.here hx rfl (hb hby d3_67) rfl (l' := #[.val (.ref r0), .val (.int u1), .val (.int u2), .val (.int (1 : Int32)), .val (.int (at_ + (1 : Int32))), .val (.int gb)]) rfl k') ?_
              show G (s₁.setTop (mkF m 70 #[.val (.ref r0), .val (.int u1), .val (.int u2), .val (.int (1 : Int32)), .val (.int (at_ + (1 : Int32))), .val (.int gb)] []))
              refine go _ _ (fun t' k' => XS.goto X0.here hx rfl (pc0 := 70) (pc' := 17) rfl (hb hby d3_70) (by decide) (by decide) k') ?_
              show G (s₁.setTop (mkF m 17 #[.val (.ref r0), .val (.int u1), .val (.int u2), .val (.int (1 : Int32)), .val (.int (at_ + (1 : Int32))), .val (.int gb)] []))
              exact ih (kk + 1) (by omega) _ _ _ (One.val rfl) (own_next hat (by omega)) (by rw [own_all_succ, own_all_tt hdg c11, ← hgb]; simp [hexB, c12, c15])
    exact loop 32 0 rfl _ _ _ One.u (by rw [hfr]; simp) (by simp [allHex])
  · refine go _ _ (fun t' k' => XS.icmpYes X0.here hx rfl (pc0 := 5) (pc' := 12) rfl (hb hby d3_5) rfl (Free.XT.ii_ne_t c9) (by decide) (by decide) k') ?_
    show G (s₁.setTop (mkF m 12 #[.val (.ref r0), .val (.int u1), .val (.int u2), .unset, .unset, .unset] []))
    refine go _ _ (fun t' k' => XS.iconst X0.here hx rfl (hb hby d3_12) k') ?_
    show G (s₁.setTop (mkF m 13 #[.val (.ref r0), .val (.int u1), .val (.int u2), .unset, .unset, .unset] [(.int (0 : Int32))]))
    refine go _ _ (fun t' k' => XS.istoreN X0.here hx rfl (hb hby d3_13) rfl (l' := #[.val (.ref r0), .val (.int u1), .val (.int u2), .val (.int (0 : Int32)), .unset, .unset]) rfl k') ?_
    show G (s₁.setTop (mkF m 14 #[.val (.ref r0), .val (.int u1), .val (.int u2), .val (.int (0 : Int32)), .unset, .unset] []))
    refine go _ _ (fun t' k' => XS.iloadN X0.here hx rfl (hb hby d3_14) rfl  k') ?_
    show G (s₁.setTop (mkF m 15 #[.val (.ref r0), .val (.int u1), .val (.int u2), .val (.int (0 : Int32)), .unset, .unset] [(.int u1)]))
    refine go _ _ (fun t' k' => XS.istore X0.here hx rfl (hb hby d3_15) rfl (l' := #[.val (.ref r0), .val (.int u1), .val (.int u2), .val (.int (0 : Int32)), .val (.int u1), .unset]) rfl k') ?_
    show G (s₁.setTop (mkF m 17 #[.val (.ref r0), .val (.int u1), .val (.int u2), .val (.int (0 : Int32)), .val (.int u1), .unset] []))
    refine go _ _ (fun t' k' => XS.iloadN X0.here hx rfl (hb hby d3_17) rfl  k') ?_
    show G (s₁.setTop (mkF m 18 #[.val (.ref r0), .val (.int u1), .val (.int u2), .val (.int (0 : Int32)), .val (.int u1), .unset] [(.int (0 : Int32))]))
    refine go _ _ (fun t' k' => XS.ifYes X0.here hx rfl (pc0 := 18) (pc' := 73) rfl (hb hby d3_18) rfl (Free.XT.i0_eq_t (by decide)) (by decide) (by decide) k') ?_
    show G (s₁.setTop (mkF m 73 #[.val (.ref r0), .val (.int u1), .val (.int u2), .val (.int (0 : Int32)), .val (.int u1), .unset] []))
    refine go _ _ (fun t' k' => XS.iloadN X0.here hx rfl (hb hby d3_73) rfl  k') ?_
    show G (s₁.setTop (mkF m 74 #[.val (.ref r0), .val (.int u1), .val (.int u2), .val (.int (0 : Int32)), .val (.int u1), .unset] [(.int (0 : Int32))]))
    refine own_retZ rt X0 hx (t := .boolean) hret (by simp) (hb hby d3_74) (by decide) (by decide) ?_
    exact ⟨by simp [nar, c9], N0, e0⟩
theorem pn_0 : plainName "com/example/lotwise/lotwise/value/ValuesIsDigestPinLaw" = true := by first | (simp [plainName, overriddenIn]; done) | decide +kernel
theorem ef_rm0 (m : MethodId) (x0 : Int32) (x1 : Int32) (x2 : Int32) (x3 : Int32) (x4 : Int32) (x5 : Int32) : entryFrame m #[(.int x0), (.int x1), (.int x2), (.int x3), (.int x4), (.int x5)] maxLocals = mkF m 0 #[.val (.int x0), .val (.int x1), .val (.int x2), .val (.int x3), .val (.int x4), .val (.int x5), .unset, .unset, .unset, .unset, .unset, .unset, .unset, .unset, .unset, .unset, .unset] [] := by first | (simp [entryFrame, mkF, argsToLocals, Value.category, maxLocals]; done) | rfl
set_option maxRecDepth 65536 in
set_option maxHeartbeats 40000000 in
theorem rm0 (l : Launch) (Z : State) (a0 : Array Value) (hw : ∀ d ∈ tables_1, d.before a0 Z = true) (u0 u1 u2 u3 u4 u5 : Int32) (h0 : Heap) (n0 : Nat) (Z0 : n0 ≤ h0.size)  :
    Con l Z x code maxLocals ret room_1 #[(.int u0), (.int u1), (.int u2), (.int u3), (.int u4), (.int u5)] h0 (fun v h L => v = some (.int 1) ∧ Fr n0 L) := by
  refine own_body pn_0 ?_
  intro p e s m below meth c s₁ hx hby hml hown hnm hret hZ e0 X0 G go rt
  have N0 := Fr.nil n0
  rw [ef_rm0 m u0 u1 u2 u3 u4 u5]
  show G (s₁.setTop (mkF m 0 #[.val (.int u0), .val (.int u1), .val (.int u2), .val (.int u3), .val (.int u4), .val (.int u5), .unset, .unset, .unset, .unset, .unset, .unset, .unset, .unset, .unset, .unset, .unset] []))
  refine go _ _ (fun t' k' => XS.bipush X0.here hx rfl (hb hby at_0) k') ?_
  show G (s₁.setTop (mkF m 2 #[.val (.int u0), .val (.int u1), .val (.int u2), .val (.int u3), .val (.int u4), .val (.int u5), .unset, .unset, .unset, .unset, .unset, .unset, .unset, .unset, .unset, .unset, .unset] [(.int (40 : Int32))]))
  refine own_newarr go X0 hx hZ e0 (g := (mkF m 2 #[.val (.int u0), .val (.int u1), .val (.int u2), .val (.int u3), .val (.int u4), .val (.int u5), .unset, .unset, .unset, .unset, .unset, .unset, .unset, .unset, .unset, .unset, .unset] [(.int (40 : Int32))])) rfl (hw _ (List.mem_of_getElem? (i := 0) rfl)) 40 rfl (hb hby at_2) rfl 40 (by decide) (by decide) (by decide) (by decide) ?_
  intro T18 h18 b18 X18 e18 E18 g18 A18
  have g_b18 : n0 ≤ b18 := Nat.le_trans Z0 (Nat.le_of_eq g18.symm)
  have sz_b18 : h0.size ≤ b18 := Nat.le_of_eq g18.symm
  have Z19 : n0 ≤ h18.size := Nat.le_trans Z0 E18.1
  have K20 : Keep h0 h18 [] := (Keep.refl h0 []).ext E18
  show G (T18.setTop (mkF m 4 #[.val (.int u0), .val (.int u1), .val (.int u2), .val (.int u3), .val (.int u4), .val (.int u5), .unset, .unset, .unset, .unset, .unset, .unset, .unset, .unset, .unset, .unset, .unset] [(.ref b18)]))
  have A00 := A18.cong own_pre0
  refine go _ _ (fun t' k' => XS.dup X18.here hx rfl (hb hby at_4) rfl rfl k') ?_
  show G (T18.setTop (mkF m 5 #[.val (.int u0), .val (.int u1), .val (.int u2), .val (.int u3), .val (.int u4), .val (.int u5), .unset, .unset, .unset, .unset, .unset, .unset, .unset, .unset, .unset, .unset, .unset] [(.ref b18), (.ref b18)]))
  refine go _ _ (fun t' k' => XS.iconst X18.here hx rfl (hb hby at_5) k') ?_
  show G (T18.setTop (mkF m 6 #[.val (.int u0), .val (.int u1), .val (.int u2), .val (.int u3), .val (.int u4), .val (.int u5), .unset, .unset, .unset, .unset, .unset, .unset, .unset, .unset, .unset, .unset, .unset] [(.int (0 : Int32)), (.ref b18), (.ref b18)]))
  refine go _ _ (fun t' k' => XS.bipush X18.here hx rfl (hb hby at_6) k') ?_
  show G (T18.setTop (mkF m 8 #[.val (.int u0), .val (.int u1), .val (.int u2), .val (.int u3), .val (.int u4), .val (.int u5), .unset, .unset, .unset, .unset, .unset, .unset, .unset, .unset, .unset, .unset, .unset] [(.int (48 : Int32)), (.int (0 : Int32)), (.ref b18), (.ref b18)]))
  refine own_bastore go X18 hx hZ e18 0 rfl (by decide) (g := (mkF m 8 #[.val (.int u0), .val (.int u1), .val (.int u2), .val (.int u3), .val (.int u4), .val (.int u5), .unset, .unset, .unset, .unset, .unset, .unset, .unset, .unset, .unset, .unset, .unset] [(.int (48 : Int32)), (.int (0 : Int32)), (.ref b18), (.ref b18)])) rfl A00 rfl (hb hby at_8) ?_
  intro T21 h21 X21 e21 W21 A21
  have K22 : Keep h0 h21 [] := K20.wr W21 (Or.inr sz_b18)
  obtain ⟨lc21, X21h, N21h⟩ := own_hide X21 (Fr.snoc X21 N0 g_b18)
  have Z23 : n0 ≤ h21.size := Nat.le_trans Z19 (Nat.le_of_eq W21.size.symm)
  have A21c := A21.cong (g := (own_pre 1)) (own_pre_step 0 rfl)
  show G (T21.setTop (mkF m 9 #[.val (.int u0), .val (.int u1), .val (.int u2), .val (.int u3), .val (.int u4), .val (.int u5), .unset, .unset, .unset, .unset, .unset, .unset, .unset, .unset, .unset, .unset, .unset] [(.ref b18)]))
  refine go _ _ (fun t' k' => XS.dup X21h.here hx rfl (hb hby at_9) rfl rfl k') ?_
  show G (T21.setTop (mkF m 10 #[.val (.int u0), .val (.int u1), .val (.int u2), .val (.int u3), .val (.int u4), .val (.int u5), .unset, .unset, .unset, .unset, .unset, .unset, .unset, .unset, .unset, .unset, .unset] [(.ref b18), (.ref b18)]))
  refine go _ _ (fun t' k' => XS.iconst X21h.here hx rfl (hb hby at_10) k') ?_
  show G (T21.setTop (mkF m 11 #[.val (.int u0), .val (.int u1), .val (.int u2), .val (.int u3), .val (.int u4), .val (.int u5), .unset, .unset, .unset, .unset, .unset, .unset, .unset, .unset, .unset, .unset, .unset] [(.int (1 : Int32)), (.ref b18), (.ref b18)]))
  refine go _ _ (fun t' k' => XS.bipush X21h.here hx rfl (hb hby at_11) k') ?_
  show G (T21.setTop (mkF m 13 #[.val (.int u0), .val (.int u1), .val (.int u2), .val (.int u3), .val (.int u4), .val (.int u5), .unset, .unset, .unset, .unset, .unset, .unset, .unset, .unset, .unset, .unset, .unset] [(.int (49 : Int32)), (.int (1 : Int32)), (.ref b18), (.ref b18)]))
  refine own_bastore go X21h hx hZ e21 1 rfl (by decide) (g := (mkF m 13 #[.val (.int u0), .val (.int u1), .val (.int u2), .val (.int u3), .val (.int u4), .val (.int u5), .unset, .unset, .unset, .unset, .unset, .unset, .unset, .unset, .unset, .unset, .unset] [(.int (49 : Int32)), (.int (1 : Int32)), (.ref b18), (.ref b18)])) rfl A21c rfl (hb hby at_13) ?_
  intro T24 h24 X24 e24 W24 A24
  have K25 : Keep h0 h24 [] := K22.wr W24 (Or.inr sz_b18)
  obtain ⟨lc24, X24h, N24h⟩ := own_hide X24 (Fr.snoc X24 N21h g_b18)
  have Z26 : n0 ≤ h24.size := Nat.le_trans Z23 (Nat.le_of_eq W24.size.symm)
  have A24c := A24.cong (g := (own_pre 2)) (own_pre_step 1 rfl)
  show G (T24.setTop (mkF m 14 #[.val (.int u0), .val (.int u1), .val (.int u2), .val (.int u3), .val (.int u4), .val (.int u5), .unset, .unset, .unset, .unset, .unset, .unset, .unset, .unset, .unset, .unset, .unset] [(.ref b18)]))
  refine go _ _ (fun t' k' => XS.dup X24h.here hx rfl (hb hby at_14) rfl rfl k') ?_
  show G (T24.setTop (mkF m 15 #[.val (.int u0), .val (.int u1), .val (.int u2), .val (.int u3), .val (.int u4), .val (.int u5), .unset, .unset, .unset, .unset, .unset, .unset, .unset, .unset, .unset, .unset, .unset] [(.ref b18), (.ref b18)]))
  refine go _ _ (fun t' k' => XS.iconst X24h.here hx rfl (hb hby at_15) k') ?_
  show G (T24.setTop (mkF m 16 #[.val (.int u0), .val (.int u1), .val (.int u2), .val (.int u3), .val (.int u4), .val (.int u5), .unset, .unset, .unset, .unset, .unset, .unset, .unset, .unset, .unset, .unset, .unset] [(.int (2 : Int32)), (.ref b18), (.ref b18)]))
  refine go _ _ (fun t' k' => XS.bipush X24h.here hx rfl (hb hby at_16) k') ?_
  show G (T24.setTop (mkF m 18 #[.val (.int u0), .val (.int u1), .val (.int u2), .val (.int u3), .val (.int u4), .val (.int u5), .unset, .unset, .unset, .unset, .unset, .unset, .unset, .unset, .unset, .unset, .unset] [(.int (50 : Int32)), (.int (2 : Int32)), (.ref b18), (.ref b18)]))
  refine own_bastore go X24h hx hZ e24 2 rfl (by decide) (g := (mkF m 18 #[.val (.int u0), .val (.int u1), .val (.int u2), .val (.int u3), .val (.int u4), .val (.int u5), .unset, .unset, .unset, .unset, .unset, .unset, .unset, .unset, .unset, .unset, .unset] [(.int (50 : Int32)), (.int (2 : Int32)), (.ref b18), (.ref b18)])) rfl A24c rfl (hb hby at_18) ?_
  intro T27 h27 X27 e27 W27 A27
  have K28 : Keep h0 h27 [] := K25.wr W27 (Or.inr sz_b18)
  obtain ⟨lc27, X27h, N27h⟩ := own_hide X27 (Fr.snoc X27 N24h g_b18)
  have Z29 : n0 ≤ h27.size := Nat.le_trans Z26 (Nat.le_of_eq W27.size.symm)
  have A27c := A27.cong (g := (own_pre 3)) (own_pre_step 2 rfl)
  show G (T27.setTop (mkF m 19 #[.val (.int u0), .val (.int u1), .val (.int u2), .val (.int u3), .val (.int u4), .val (.int u5), .unset, .unset, .unset, .unset, .unset, .unset, .unset, .unset, .unset, .unset, .unset] [(.ref b18)]))
  refine go _ _ (fun t' k' => XS.dup X27h.here hx rfl (hb hby at_19) rfl rfl k') ?_
  show G (T27.setTop (mkF m 20 #[.val (.int u0), .val (.int u1), .val (.int u2), .val (.int u3), .val (.int u4), .val (.int u5), .unset, .unset, .unset, .unset, .unset, .unset, .unset, .unset, .unset, .unset, .unset] [(.ref b18), (.ref b18)]))
  refine go _ _ (fun t' k' => XS.iconst X27h.here hx rfl (hb hby at_20) k') ?_
  show G (T27.setTop (mkF m 21 #[.val (.int u0), .val (.int u1), .val (.int u2), .val (.int u3), .val (.int u4), .val (.int u5), .unset, .unset, .unset, .unset, .unset, .unset, .unset, .unset, .unset, .unset, .unset] [(.int (3 : Int32)), (.ref b18), (.ref b18)]))
  refine go _ _ (fun t' k' => XS.bipush X27h.here hx rfl (hb hby at_21) k') ?_
  show G (T27.setTop (mkF m 23 #[.val (.int u0), .val (.int u1), .val (.int u2), .val (.int u3), .val (.int u4), .val (.int u5), .unset, .unset, .unset, .unset, .unset, .unset, .unset, .unset, .unset, .unset, .unset] [(.int (51 : Int32)), (.int (3 : Int32)), (.ref b18), (.ref b18)]))
  refine own_bastore go X27h hx hZ e27 3 rfl (by decide) (g := (mkF m 23 #[.val (.int u0), .val (.int u1), .val (.int u2), .val (.int u3), .val (.int u4), .val (.int u5), .unset, .unset, .unset, .unset, .unset, .unset, .unset, .unset, .unset, .unset, .unset] [(.int (51 : Int32)), (.int (3 : Int32)), (.ref b18), (.ref b18)])) rfl A27c rfl (hb hby at_23) ?_
  intro T30 h30 X30 e30 W30 A30
  have K31 : Keep h0 h30 [] := K28.wr W30 (Or.inr sz_b18)
  obtain ⟨lc30, X30h, N30h⟩ := own_hide X30 (Fr.snoc X30 N27h g_b18)
  have Z32 : n0 ≤ h30.size := Nat.le_trans Z29 (Nat.le_of_eq W30.size.symm)
  have A30c := A30.cong (g := (own_pre 4)) (own_pre_step 3 rfl)
  show G (T30.setTop (mkF m 24 #[.val (.int u0), .val (.int u1), .val (.int u2), .val (.int u3), .val (.int u4), .val (.int u5), .unset, .unset, .unset, .unset, .unset, .unset, .unset, .unset, .unset, .unset, .unset] [(.ref b18)]))
  refine go _ _ (fun t' k' => XS.dup X30h.here hx rfl (hb hby at_24) rfl rfl k') ?_
  show G (T30.setTop (mkF m 25 #[.val (.int u0), .val (.int u1), .val (.int u2), .val (.int u3), .val (.int u4), .val (.int u5), .unset, .unset, .unset, .unset, .unset, .unset, .unset, .unset, .unset, .unset, .unset] [(.ref b18), (.ref b18)]))
  refine go _ _ (fun t' k' => XS.iconst X30h.here hx rfl (hb hby at_25) k') ?_
  show G (T30.setTop (mkF m 26 #[.val (.int u0), .val (.int u1), .val (.int u2), .val (.int u3), .val (.int u4), .val (.int u5), .unset, .unset, .unset, .unset, .unset, .unset, .unset, .unset, .unset, .unset, .unset] [(.int (4 : Int32)), (.ref b18), (.ref b18)]))
  refine go _ _ (fun t' k' => XS.bipush X30h.here hx rfl (hb hby at_26) k') ?_
  show G (T30.setTop (mkF m 28 #[.val (.int u0), .val (.int u1), .val (.int u2), .val (.int u3), .val (.int u4), .val (.int u5), .unset, .unset, .unset, .unset, .unset, .unset, .unset, .unset, .unset, .unset, .unset] [(.int (52 : Int32)), (.int (4 : Int32)), (.ref b18), (.ref b18)]))
  refine own_bastore go X30h hx hZ e30 4 rfl (by decide) (g := (mkF m 28 #[.val (.int u0), .val (.int u1), .val (.int u2), .val (.int u3), .val (.int u4), .val (.int u5), .unset, .unset, .unset, .unset, .unset, .unset, .unset, .unset, .unset, .unset, .unset] [(.int (52 : Int32)), (.int (4 : Int32)), (.ref b18), (.ref b18)])) rfl A30c rfl (hb hby at_28) ?_
  intro T33 h33 X33 e33 W33 A33
  have K34 : Keep h0 h33 [] := K31.wr W33 (Or.inr sz_b18)
  obtain ⟨lc33, X33h, N33h⟩ := own_hide X33 (Fr.snoc X33 N30h g_b18)
  have Z35 : n0 ≤ h33.size := Nat.le_trans Z32 (Nat.le_of_eq W33.size.symm)
  have A33c := A33.cong (g := (own_pre 5)) (own_pre_step 4 rfl)
  show G (T33.setTop (mkF m 29 #[.val (.int u0), .val (.int u1), .val (.int u2), .val (.int u3), .val (.int u4), .val (.int u5), .unset, .unset, .unset, .unset, .unset, .unset, .unset, .unset, .unset, .unset, .unset] [(.ref b18)]))
  refine go _ _ (fun t' k' => XS.dup X33h.here hx rfl (hb hby at_29) rfl rfl k') ?_
  show G (T33.setTop (mkF m 30 #[.val (.int u0), .val (.int u1), .val (.int u2), .val (.int u3), .val (.int u4), .val (.int u5), .unset, .unset, .unset, .unset, .unset, .unset, .unset, .unset, .unset, .unset, .unset] [(.ref b18), (.ref b18)]))
  refine go _ _ (fun t' k' => XS.iconst X33h.here hx rfl (hb hby at_30) k') ?_
  show G (T33.setTop (mkF m 31 #[.val (.int u0), .val (.int u1), .val (.int u2), .val (.int u3), .val (.int u4), .val (.int u5), .unset, .unset, .unset, .unset, .unset, .unset, .unset, .unset, .unset, .unset, .unset] [(.int (5 : Int32)), (.ref b18), (.ref b18)]))
  refine go _ _ (fun t' k' => XS.bipush X33h.here hx rfl (hb hby at_31) k') ?_
  show G (T33.setTop (mkF m 33 #[.val (.int u0), .val (.int u1), .val (.int u2), .val (.int u3), .val (.int u4), .val (.int u5), .unset, .unset, .unset, .unset, .unset, .unset, .unset, .unset, .unset, .unset, .unset] [(.int (53 : Int32)), (.int (5 : Int32)), (.ref b18), (.ref b18)]))
  refine own_bastore go X33h hx hZ e33 5 rfl (by decide) (g := (mkF m 33 #[.val (.int u0), .val (.int u1), .val (.int u2), .val (.int u3), .val (.int u4), .val (.int u5), .unset, .unset, .unset, .unset, .unset, .unset, .unset, .unset, .unset, .unset, .unset] [(.int (53 : Int32)), (.int (5 : Int32)), (.ref b18), (.ref b18)])) rfl A33c rfl (hb hby at_33) ?_
  intro T36 h36 X36 e36 W36 A36
  have K37 : Keep h0 h36 [] := K34.wr W36 (Or.inr sz_b18)
  obtain ⟨lc36, X36h, N36h⟩ := own_hide X36 (Fr.snoc X36 N33h g_b18)
  have Z38 : n0 ≤ h36.size := Nat.le_trans Z35 (Nat.le_of_eq W36.size.symm)
  have A36c := A36.cong (g := (own_pre 6)) (own_pre_step 5 rfl)
  show G (T36.setTop (mkF m 34 #[.val (.int u0), .val (.int u1), .val (.int u2), .val (.int u3), .val (.int u4), .val (.int u5), .unset, .unset, .unset, .unset, .unset, .unset, .unset, .unset, .unset, .unset, .unset] [(.ref b18)]))
  refine go _ _ (fun t' k' => XS.dup X36h.here hx rfl (hb hby at_34) rfl rfl k') ?_
  show G (T36.setTop (mkF m 35 #[.val (.int u0), .val (.int u1), .val (.int u2), .val (.int u3), .val (.int u4), .val (.int u5), .unset, .unset, .unset, .unset, .unset, .unset, .unset, .unset, .unset, .unset, .unset] [(.ref b18), (.ref b18)]))
  refine go _ _ (fun t' k' => XS.bipush X36h.here hx rfl (hb hby at_35) k') ?_
  show G (T36.setTop (mkF m 37 #[.val (.int u0), .val (.int u1), .val (.int u2), .val (.int u3), .val (.int u4), .val (.int u5), .unset, .unset, .unset, .unset, .unset, .unset, .unset, .unset, .unset, .unset, .unset] [(.int (6 : Int32)), (.ref b18), (.ref b18)]))
  refine go _ _ (fun t' k' => XS.bipush X36h.here hx rfl (hb hby at_37) k') ?_
  show G (T36.setTop (mkF m 39 #[.val (.int u0), .val (.int u1), .val (.int u2), .val (.int u3), .val (.int u4), .val (.int u5), .unset, .unset, .unset, .unset, .unset, .unset, .unset, .unset, .unset, .unset, .unset] [(.int (54 : Int32)), (.int (6 : Int32)), (.ref b18), (.ref b18)]))
  refine own_bastore go X36h hx hZ e36 6 rfl (by decide) (g := (mkF m 39 #[.val (.int u0), .val (.int u1), .val (.int u2), .val (.int u3), .val (.int u4), .val (.int u5), .unset, .unset, .unset, .unset, .unset, .unset, .unset, .unset, .unset, .unset, .unset] [(.int (54 : Int32)), (.int (6 : Int32)), (.ref b18), (.ref b18)])) rfl A36c rfl (hb hby at_39) ?_
  intro T39 h39 X39 e39 W39 A39
  have K40 : Keep h0 h39 [] := K37.wr W39 (Or.inr sz_b18)
  obtain ⟨lc39, X39h, N39h⟩ := own_hide X39 (Fr.snoc X39 N36h g_b18)
  have Z41 : n0 ≤ h39.size := Nat.le_trans Z38 (Nat.le_of_eq W39.size.symm)
  have A39c := A39.cong (g := (own_pre 7)) (own_pre_step 6 rfl)
  show G (T39.setTop (mkF m 40 #[.val (.int u0), .val (.int u1), .val (.int u2), .val (.int u3), .val (.int u4), .val (.int u5), .unset, .unset, .unset, .unset, .unset, .unset, .unset, .unset, .unset, .unset, .unset] [(.ref b18)]))
  refine go _ _ (fun t' k' => XS.dup X39h.here hx rfl (hb hby at_40) rfl rfl k') ?_
  show G (T39.setTop (mkF m 41 #[.val (.int u0), .val (.int u1), .val (.int u2), .val (.int u3), .val (.int u4), .val (.int u5), .unset, .unset, .unset, .unset, .unset, .unset, .unset, .unset, .unset, .unset, .unset] [(.ref b18), (.ref b18)]))
  refine go _ _ (fun t' k' => XS.bipush X39h.here hx rfl (hb hby at_41) k') ?_
  show G (T39.setTop (mkF m 43 #[.val (.int u0), .val (.int u1), .val (.int u2), .val (.int u3), .val (.int u4), .val (.int u5), .unset, .unset, .unset, .unset, .unset, .unset, .unset, .unset, .unset, .unset, .unset] [(.int (7 : Int32)), (.ref b18), (.ref b18)]))
  refine go _ _ (fun t' k' => XS.bipush X39h.here hx rfl (hb hby at_43) k') ?_
  show G (T39.setTop (mkF m 45 #[.val (.int u0), .val (.int u1), .val (.int u2), .val (.int u3), .val (.int u4), .val (.int u5), .unset, .unset, .unset, .unset, .unset, .unset, .unset, .unset, .unset, .unset, .unset] [(.int (55 : Int32)), (.int (7 : Int32)), (.ref b18), (.ref b18)]))
  refine own_bastore go X39h hx hZ e39 7 rfl (by decide) (g := (mkF m 45 #[.val (.int u0), .val (.int u1), .val (.int u2), .val (.int u3), .val (.int u4), .val (.int u5), .unset, .unset, .unset, .unset, .unset, .unset, .unset, .unset, .unset, .unset, .unset] [(.int (55 : Int32)), (.int (7 : Int32)), (.ref b18), (.ref b18)])) rfl A39c rfl (hb hby at_45) ?_
  intro T42 h42 X42 e42 W42 A42
  have K43 : Keep h0 h42 [] := K40.wr W42 (Or.inr sz_b18)
  obtain ⟨lc42, X42h, N42h⟩ := own_hide X42 (Fr.snoc X42 N39h g_b18)
  have Z44 : n0 ≤ h42.size := Nat.le_trans Z41 (Nat.le_of_eq W42.size.symm)
  have A42c := A42.cong (g := (own_pre 8)) (own_pre_step 7 rfl)
  show G (T42.setTop (mkF m 46 #[.val (.int u0), .val (.int u1), .val (.int u2), .val (.int u3), .val (.int u4), .val (.int u5), .unset, .unset, .unset, .unset, .unset, .unset, .unset, .unset, .unset, .unset, .unset] [(.ref b18)]))
  refine go _ _ (fun t' k' => XS.dup X42h.here hx rfl (hb hby at_46) rfl rfl k') ?_
  show G (T42.setTop (mkF m 47 #[.val (.int u0), .val (.int u1), .val (.int u2), .val (.int u3), .val (.int u4), .val (.int u5), .unset, .unset, .unset, .unset, .unset, .unset, .unset, .unset, .unset, .unset, .unset] [(.ref b18), (.ref b18)]))
  refine go _ _ (fun t' k' => XS.bipush X42h.here hx rfl (hb hby at_47) k') ?_
  show G (T42.setTop (mkF m 49 #[.val (.int u0), .val (.int u1), .val (.int u2), .val (.int u3), .val (.int u4), .val (.int u5), .unset, .unset, .unset, .unset, .unset, .unset, .unset, .unset, .unset, .unset, .unset] [(.int (8 : Int32)), (.ref b18), (.ref b18)]))
  refine go _ _ (fun t' k' => XS.bipush X42h.here hx rfl (hb hby at_49) k') ?_
  show G (T42.setTop (mkF m 51 #[.val (.int u0), .val (.int u1), .val (.int u2), .val (.int u3), .val (.int u4), .val (.int u5), .unset, .unset, .unset, .unset, .unset, .unset, .unset, .unset, .unset, .unset, .unset] [(.int (56 : Int32)), (.int (8 : Int32)), (.ref b18), (.ref b18)]))
  refine own_bastore go X42h hx hZ e42 8 rfl (by decide) (g := (mkF m 51 #[.val (.int u0), .val (.int u1), .val (.int u2), .val (.int u3), .val (.int u4), .val (.int u5), .unset, .unset, .unset, .unset, .unset, .unset, .unset, .unset, .unset, .unset, .unset] [(.int (56 : Int32)), (.int (8 : Int32)), (.ref b18), (.ref b18)])) rfl A42c rfl (hb hby at_51) ?_
  intro T45 h45 X45 e45 W45 A45
  have K46 : Keep h0 h45 [] := K43.wr W45 (Or.inr sz_b18)
  obtain ⟨lc45, X45h, N45h⟩ := own_hide X45 (Fr.snoc X45 N42h g_b18)
  have Z47 : n0 ≤ h45.size := Nat.le_trans Z44 (Nat.le_of_eq W45.size.symm)
  have A45c := A45.cong (g := (own_pre 9)) (own_pre_step 8 rfl)
  show G (T45.setTop (mkF m 52 #[.val (.int u0), .val (.int u1), .val (.int u2), .val (.int u3), .val (.int u4), .val (.int u5), .unset, .unset, .unset, .unset, .unset, .unset, .unset, .unset, .unset, .unset, .unset] [(.ref b18)]))
  refine go _ _ (fun t' k' => XS.dup X45h.here hx rfl (hb hby at_52) rfl rfl k') ?_
  show G (T45.setTop (mkF m 53 #[.val (.int u0), .val (.int u1), .val (.int u2), .val (.int u3), .val (.int u4), .val (.int u5), .unset, .unset, .unset, .unset, .unset, .unset, .unset, .unset, .unset, .unset, .unset] [(.ref b18), (.ref b18)]))
  refine go _ _ (fun t' k' => XS.bipush X45h.here hx rfl (hb hby at_53) k') ?_
  show G (T45.setTop (mkF m 55 #[.val (.int u0), .val (.int u1), .val (.int u2), .val (.int u3), .val (.int u4), .val (.int u5), .unset, .unset, .unset, .unset, .unset, .unset, .unset, .unset, .unset, .unset, .unset] [(.int (9 : Int32)), (.ref b18), (.ref b18)]))
  refine go _ _ (fun t' k' => XS.bipush X45h.here hx rfl (hb hby at_55) k') ?_
  show G (T45.setTop (mkF m 57 #[.val (.int u0), .val (.int u1), .val (.int u2), .val (.int u3), .val (.int u4), .val (.int u5), .unset, .unset, .unset, .unset, .unset, .unset, .unset, .unset, .unset, .unset, .unset] [(.int (57 : Int32)), (.int (9 : Int32)), (.ref b18), (.ref b18)]))
  refine own_bastore go X45h hx hZ e45 9 rfl (by decide) (g := (mkF m 57 #[.val (.int u0), .val (.int u1), .val (.int u2), .val (.int u3), .val (.int u4), .val (.int u5), .unset, .unset, .unset, .unset, .unset, .unset, .unset, .unset, .unset, .unset, .unset] [(.int (57 : Int32)), (.int (9 : Int32)), (.ref b18), (.ref b18)])) rfl A45c rfl (hb hby at_57) ?_
  intro T48 h48 X48 e48 W48 A48
  have K49 : Keep h0 h48 [] := K46.wr W48 (Or.inr sz_b18)
  obtain ⟨lc48, X48h, N48h⟩ := own_hide X48 (Fr.snoc X48 N45h g_b18)
  have Z50 : n0 ≤ h48.size := Nat.le_trans Z47 (Nat.le_of_eq W48.size.symm)
  have A48c := A48.cong (g := (own_pre 10)) (own_pre_step 9 rfl)
  show G (T48.setTop (mkF m 58 #[.val (.int u0), .val (.int u1), .val (.int u2), .val (.int u3), .val (.int u4), .val (.int u5), .unset, .unset, .unset, .unset, .unset, .unset, .unset, .unset, .unset, .unset, .unset] [(.ref b18)]))
  refine go _ _ (fun t' k' => XS.dup X48h.here hx rfl (hb hby at_58) rfl rfl k') ?_
  show G (T48.setTop (mkF m 59 #[.val (.int u0), .val (.int u1), .val (.int u2), .val (.int u3), .val (.int u4), .val (.int u5), .unset, .unset, .unset, .unset, .unset, .unset, .unset, .unset, .unset, .unset, .unset] [(.ref b18), (.ref b18)]))
  refine go _ _ (fun t' k' => XS.bipush X48h.here hx rfl (hb hby at_59) k') ?_
  show G (T48.setTop (mkF m 61 #[.val (.int u0), .val (.int u1), .val (.int u2), .val (.int u3), .val (.int u4), .val (.int u5), .unset, .unset, .unset, .unset, .unset, .unset, .unset, .unset, .unset, .unset, .unset] [(.int (10 : Int32)), (.ref b18), (.ref b18)]))
  refine go _ _ (fun t' k' => XS.bipush X48h.here hx rfl (hb hby at_61) k') ?_
  show G (T48.setTop (mkF m 63 #[.val (.int u0), .val (.int u1), .val (.int u2), .val (.int u3), .val (.int u4), .val (.int u5), .unset, .unset, .unset, .unset, .unset, .unset, .unset, .unset, .unset, .unset, .unset] [(.int (97 : Int32)), (.int (10 : Int32)), (.ref b18), (.ref b18)]))
  refine own_bastore go X48h hx hZ e48 10 rfl (by decide) (g := (mkF m 63 #[.val (.int u0), .val (.int u1), .val (.int u2), .val (.int u3), .val (.int u4), .val (.int u5), .unset, .unset, .unset, .unset, .unset, .unset, .unset, .unset, .unset, .unset, .unset] [(.int (97 : Int32)), (.int (10 : Int32)), (.ref b18), (.ref b18)])) rfl A48c rfl (hb hby at_63) ?_
  intro T51 h51 X51 e51 W51 A51
  have K52 : Keep h0 h51 [] := K49.wr W51 (Or.inr sz_b18)
  obtain ⟨lc51, X51h, N51h⟩ := own_hide X51 (Fr.snoc X51 N48h g_b18)
  have Z53 : n0 ≤ h51.size := Nat.le_trans Z50 (Nat.le_of_eq W51.size.symm)
  have A51c := A51.cong (g := (own_pre 11)) (own_pre_step 10 rfl)
  show G (T51.setTop (mkF m 64 #[.val (.int u0), .val (.int u1), .val (.int u2), .val (.int u3), .val (.int u4), .val (.int u5), .unset, .unset, .unset, .unset, .unset, .unset, .unset, .unset, .unset, .unset, .unset] [(.ref b18)]))
  refine go _ _ (fun t' k' => XS.dup X51h.here hx rfl (hb hby at_64) rfl rfl k') ?_
  show G (T51.setTop (mkF m 65 #[.val (.int u0), .val (.int u1), .val (.int u2), .val (.int u3), .val (.int u4), .val (.int u5), .unset, .unset, .unset, .unset, .unset, .unset, .unset, .unset, .unset, .unset, .unset] [(.ref b18), (.ref b18)]))
  refine go _ _ (fun t' k' => XS.bipush X51h.here hx rfl (hb hby at_65) k') ?_
  show G (T51.setTop (mkF m 67 #[.val (.int u0), .val (.int u1), .val (.int u2), .val (.int u3), .val (.int u4), .val (.int u5), .unset, .unset, .unset, .unset, .unset, .unset, .unset, .unset, .unset, .unset, .unset] [(.int (11 : Int32)), (.ref b18), (.ref b18)]))
  refine go _ _ (fun t' k' => XS.bipush X51h.here hx rfl (hb hby at_67) k') ?_
  show G (T51.setTop (mkF m 69 #[.val (.int u0), .val (.int u1), .val (.int u2), .val (.int u3), .val (.int u4), .val (.int u5), .unset, .unset, .unset, .unset, .unset, .unset, .unset, .unset, .unset, .unset, .unset] [(.int (98 : Int32)), (.int (11 : Int32)), (.ref b18), (.ref b18)]))
  refine own_bastore go X51h hx hZ e51 11 rfl (by decide) (g := (mkF m 69 #[.val (.int u0), .val (.int u1), .val (.int u2), .val (.int u3), .val (.int u4), .val (.int u5), .unset, .unset, .unset, .unset, .unset, .unset, .unset, .unset, .unset, .unset, .unset] [(.int (98 : Int32)), (.int (11 : Int32)), (.ref b18), (.ref b18)])) rfl A51c rfl (hb hby at_69) ?_
  intro T54 h54 X54 e54 W54 A54
  have K55 : Keep h0 h54 [] := K52.wr W54 (Or.inr sz_b18)
  obtain ⟨lc54, X54h, N54h⟩ := own_hide X54 (Fr.snoc X54 N51h g_b18)
  have Z56 : n0 ≤ h54.size := Nat.le_trans Z53 (Nat.le_of_eq W54.size.symm)
  have A54c := A54.cong (g := (own_pre 12)) (own_pre_step 11 rfl)
  show G (T54.setTop (mkF m 70 #[.val (.int u0), .val (.int u1), .val (.int u2), .val (.int u3), .val (.int u4), .val (.int u5), .unset, .unset, .unset, .unset, .unset, .unset, .unset, .unset, .unset, .unset, .unset] [(.ref b18)]))
  refine go _ _ (fun t' k' => XS.dup X54h.here hx rfl (hb hby at_70) rfl rfl k') ?_
  show G (T54.setTop (mkF m 71 #[.val (.int u0), .val (.int u1), .val (.int u2), .val (.int u3), .val (.int u4), .val (.int u5), .unset, .unset, .unset, .unset, .unset, .unset, .unset, .unset, .unset, .unset, .unset] [(.ref b18), (.ref b18)]))
  refine go _ _ (fun t' k' => XS.bipush X54h.here hx rfl (hb hby at_71) k') ?_
  show G (T54.setTop (mkF m 73 #[.val (.int u0), .val (.int u1), .val (.int u2), .val (.int u3), .val (.int u4), .val (.int u5), .unset, .unset, .unset, .unset, .unset, .unset, .unset, .unset, .unset, .unset, .unset] [(.int (12 : Int32)), (.ref b18), (.ref b18)]))
  refine go _ _ (fun t' k' => XS.bipush X54h.here hx rfl (hb hby at_73) k') ?_
  show G (T54.setTop (mkF m 75 #[.val (.int u0), .val (.int u1), .val (.int u2), .val (.int u3), .val (.int u4), .val (.int u5), .unset, .unset, .unset, .unset, .unset, .unset, .unset, .unset, .unset, .unset, .unset] [(.int (99 : Int32)), (.int (12 : Int32)), (.ref b18), (.ref b18)]))
  refine own_bastore go X54h hx hZ e54 12 rfl (by decide) (g := (mkF m 75 #[.val (.int u0), .val (.int u1), .val (.int u2), .val (.int u3), .val (.int u4), .val (.int u5), .unset, .unset, .unset, .unset, .unset, .unset, .unset, .unset, .unset, .unset, .unset] [(.int (99 : Int32)), (.int (12 : Int32)), (.ref b18), (.ref b18)])) rfl A54c rfl (hb hby at_75) ?_
  intro T57 h57 X57 e57 W57 A57
  have K58 : Keep h0 h57 [] := K55.wr W57 (Or.inr sz_b18)
  obtain ⟨lc57, X57h, N57h⟩ := own_hide X57 (Fr.snoc X57 N54h g_b18)
  have Z59 : n0 ≤ h57.size := Nat.le_trans Z56 (Nat.le_of_eq W57.size.symm)
  have A57c := A57.cong (g := (own_pre 13)) (own_pre_step 12 rfl)
  show G (T57.setTop (mkF m 76 #[.val (.int u0), .val (.int u1), .val (.int u2), .val (.int u3), .val (.int u4), .val (.int u5), .unset, .unset, .unset, .unset, .unset, .unset, .unset, .unset, .unset, .unset, .unset] [(.ref b18)]))
  refine go _ _ (fun t' k' => XS.dup X57h.here hx rfl (hb hby at_76) rfl rfl k') ?_
  show G (T57.setTop (mkF m 77 #[.val (.int u0), .val (.int u1), .val (.int u2), .val (.int u3), .val (.int u4), .val (.int u5), .unset, .unset, .unset, .unset, .unset, .unset, .unset, .unset, .unset, .unset, .unset] [(.ref b18), (.ref b18)]))
  refine go _ _ (fun t' k' => XS.bipush X57h.here hx rfl (hb hby at_77) k') ?_
  show G (T57.setTop (mkF m 79 #[.val (.int u0), .val (.int u1), .val (.int u2), .val (.int u3), .val (.int u4), .val (.int u5), .unset, .unset, .unset, .unset, .unset, .unset, .unset, .unset, .unset, .unset, .unset] [(.int (13 : Int32)), (.ref b18), (.ref b18)]))
  refine go _ _ (fun t' k' => XS.bipush X57h.here hx rfl (hb hby at_79) k') ?_
  show G (T57.setTop (mkF m 81 #[.val (.int u0), .val (.int u1), .val (.int u2), .val (.int u3), .val (.int u4), .val (.int u5), .unset, .unset, .unset, .unset, .unset, .unset, .unset, .unset, .unset, .unset, .unset] [(.int (100 : Int32)), (.int (13 : Int32)), (.ref b18), (.ref b18)]))
  refine own_bastore go X57h hx hZ e57 13 rfl (by decide) (g := (mkF m 81 #[.val (.int u0), .val (.int u1), .val (.int u2), .val (.int u3), .val (.int u4), .val (.int u5), .unset, .unset, .unset, .unset, .unset, .unset, .unset, .unset, .unset, .unset, .unset] [(.int (100 : Int32)), (.int (13 : Int32)), (.ref b18), (.ref b18)])) rfl A57c rfl (hb hby at_81) ?_
  intro T60 h60 X60 e60 W60 A60
  have K61 : Keep h0 h60 [] := K58.wr W60 (Or.inr sz_b18)
  obtain ⟨lc60, X60h, N60h⟩ := own_hide X60 (Fr.snoc X60 N57h g_b18)
  have Z62 : n0 ≤ h60.size := Nat.le_trans Z59 (Nat.le_of_eq W60.size.symm)
  have A60c := A60.cong (g := (own_pre 14)) (own_pre_step 13 rfl)
  show G (T60.setTop (mkF m 82 #[.val (.int u0), .val (.int u1), .val (.int u2), .val (.int u3), .val (.int u4), .val (.int u5), .unset, .unset, .unset, .unset, .unset, .unset, .unset, .unset, .unset, .unset, .unset] [(.ref b18)]))
  refine go _ _ (fun t' k' => XS.dup X60h.here hx rfl (hb hby at_82) rfl rfl k') ?_
  show G (T60.setTop (mkF m 83 #[.val (.int u0), .val (.int u1), .val (.int u2), .val (.int u3), .val (.int u4), .val (.int u5), .unset, .unset, .unset, .unset, .unset, .unset, .unset, .unset, .unset, .unset, .unset] [(.ref b18), (.ref b18)]))
  refine go _ _ (fun t' k' => XS.bipush X60h.here hx rfl (hb hby at_83) k') ?_
  show G (T60.setTop (mkF m 85 #[.val (.int u0), .val (.int u1), .val (.int u2), .val (.int u3), .val (.int u4), .val (.int u5), .unset, .unset, .unset, .unset, .unset, .unset, .unset, .unset, .unset, .unset, .unset] [(.int (14 : Int32)), (.ref b18), (.ref b18)]))
  refine go _ _ (fun t' k' => XS.bipush X60h.here hx rfl (hb hby at_85) k') ?_
  show G (T60.setTop (mkF m 87 #[.val (.int u0), .val (.int u1), .val (.int u2), .val (.int u3), .val (.int u4), .val (.int u5), .unset, .unset, .unset, .unset, .unset, .unset, .unset, .unset, .unset, .unset, .unset] [(.int (101 : Int32)), (.int (14 : Int32)), (.ref b18), (.ref b18)]))
  refine own_bastore go X60h hx hZ e60 14 rfl (by decide) (g := (mkF m 87 #[.val (.int u0), .val (.int u1), .val (.int u2), .val (.int u3), .val (.int u4), .val (.int u5), .unset, .unset, .unset, .unset, .unset, .unset, .unset, .unset, .unset, .unset, .unset] [(.int (101 : Int32)), (.int (14 : Int32)), (.ref b18), (.ref b18)])) rfl A60c rfl (hb hby at_87) ?_
  intro T63 h63 X63 e63 W63 A63
  have K64 : Keep h0 h63 [] := K61.wr W63 (Or.inr sz_b18)
  obtain ⟨lc63, X63h, N63h⟩ := own_hide X63 (Fr.snoc X63 N60h g_b18)
  have Z65 : n0 ≤ h63.size := Nat.le_trans Z62 (Nat.le_of_eq W63.size.symm)
  have A63c := A63.cong (g := (own_pre 15)) (own_pre_step 14 rfl)
  show G (T63.setTop (mkF m 88 #[.val (.int u0), .val (.int u1), .val (.int u2), .val (.int u3), .val (.int u4), .val (.int u5), .unset, .unset, .unset, .unset, .unset, .unset, .unset, .unset, .unset, .unset, .unset] [(.ref b18)]))
  refine go _ _ (fun t' k' => XS.dup X63h.here hx rfl (hb hby at_88) rfl rfl k') ?_
  show G (T63.setTop (mkF m 89 #[.val (.int u0), .val (.int u1), .val (.int u2), .val (.int u3), .val (.int u4), .val (.int u5), .unset, .unset, .unset, .unset, .unset, .unset, .unset, .unset, .unset, .unset, .unset] [(.ref b18), (.ref b18)]))
  refine go _ _ (fun t' k' => XS.bipush X63h.here hx rfl (hb hby at_89) k') ?_
  show G (T63.setTop (mkF m 91 #[.val (.int u0), .val (.int u1), .val (.int u2), .val (.int u3), .val (.int u4), .val (.int u5), .unset, .unset, .unset, .unset, .unset, .unset, .unset, .unset, .unset, .unset, .unset] [(.int (15 : Int32)), (.ref b18), (.ref b18)]))
  refine go _ _ (fun t' k' => XS.bipush X63h.here hx rfl (hb hby at_91) k') ?_
  show G (T63.setTop (mkF m 93 #[.val (.int u0), .val (.int u1), .val (.int u2), .val (.int u3), .val (.int u4), .val (.int u5), .unset, .unset, .unset, .unset, .unset, .unset, .unset, .unset, .unset, .unset, .unset] [(.int (102 : Int32)), (.int (15 : Int32)), (.ref b18), (.ref b18)]))
  refine own_bastore go X63h hx hZ e63 15 rfl (by decide) (g := (mkF m 93 #[.val (.int u0), .val (.int u1), .val (.int u2), .val (.int u3), .val (.int u4), .val (.int u5), .unset, .unset, .unset, .unset, .unset, .unset, .unset, .unset, .unset, .unset, .unset] [(.int (102 : Int32)), (.int (15 : Int32)), (.ref b18), (.ref b18)])) rfl A63c rfl (hb hby at_93) ?_
  intro T66 h66 X66 e66 W66 A66
  have K67 : Keep h0 h66 [] := K64.wr W66 (Or.inr sz_b18)
  obtain ⟨lc66, X66h, N66h⟩ := own_hide X66 (Fr.snoc X66 N63h g_b18)
  have Z68 : n0 ≤ h66.size := Nat.le_trans Z65 (Nat.le_of_eq W66.size.symm)
  have A66c := A66.cong (g := (own_pre 16)) (own_pre_step 15 rfl)
  show G (T66.setTop (mkF m 94 #[.val (.int u0), .val (.int u1), .val (.int u2), .val (.int u3), .val (.int u4), .val (.int u5), .unset, .unset, .unset, .unset, .unset, .unset, .unset, .unset, .unset, .unset, .unset] [(.ref b18)]))
  refine go _ _ (fun t' k' => XS.dup X66h.here hx rfl (hb hby at_94) rfl rfl k') ?_
  show G (T66.setTop (mkF m 95 #[.val (.int u0), .val (.int u1), .val (.int u2), .val (.int u3), .val (.int u4), .val (.int u5), .unset, .unset, .unset, .unset, .unset, .unset, .unset, .unset, .unset, .unset, .unset] [(.ref b18), (.ref b18)]))
  refine go _ _ (fun t' k' => XS.bipush X66h.here hx rfl (hb hby at_95) k') ?_
  show G (T66.setTop (mkF m 97 #[.val (.int u0), .val (.int u1), .val (.int u2), .val (.int u3), .val (.int u4), .val (.int u5), .unset, .unset, .unset, .unset, .unset, .unset, .unset, .unset, .unset, .unset, .unset] [(.int (16 : Int32)), (.ref b18), (.ref b18)]))
  refine go _ _ (fun t' k' => XS.bipush X66h.here hx rfl (hb hby at_97) k') ?_
  show G (T66.setTop (mkF m 99 #[.val (.int u0), .val (.int u1), .val (.int u2), .val (.int u3), .val (.int u4), .val (.int u5), .unset, .unset, .unset, .unset, .unset, .unset, .unset, .unset, .unset, .unset, .unset] [(.int (48 : Int32)), (.int (16 : Int32)), (.ref b18), (.ref b18)]))
  refine own_bastore go X66h hx hZ e66 16 rfl (by decide) (g := (mkF m 99 #[.val (.int u0), .val (.int u1), .val (.int u2), .val (.int u3), .val (.int u4), .val (.int u5), .unset, .unset, .unset, .unset, .unset, .unset, .unset, .unset, .unset, .unset, .unset] [(.int (48 : Int32)), (.int (16 : Int32)), (.ref b18), (.ref b18)])) rfl A66c rfl (hb hby at_99) ?_
  intro T69 h69 X69 e69 W69 A69
  have K70 : Keep h0 h69 [] := K67.wr W69 (Or.inr sz_b18)
  obtain ⟨lc69, X69h, N69h⟩ := own_hide X69 (Fr.snoc X69 N66h g_b18)
  have Z71 : n0 ≤ h69.size := Nat.le_trans Z68 (Nat.le_of_eq W69.size.symm)
  have A69c := A69.cong (g := (own_pre 17)) (own_pre_step 16 rfl)
  show G (T69.setTop (mkF m 100 #[.val (.int u0), .val (.int u1), .val (.int u2), .val (.int u3), .val (.int u4), .val (.int u5), .unset, .unset, .unset, .unset, .unset, .unset, .unset, .unset, .unset, .unset, .unset] [(.ref b18)]))
  refine go _ _ (fun t' k' => XS.dup X69h.here hx rfl (hb hby at_100) rfl rfl k') ?_
  show G (T69.setTop (mkF m 101 #[.val (.int u0), .val (.int u1), .val (.int u2), .val (.int u3), .val (.int u4), .val (.int u5), .unset, .unset, .unset, .unset, .unset, .unset, .unset, .unset, .unset, .unset, .unset] [(.ref b18), (.ref b18)]))
  refine go _ _ (fun t' k' => XS.bipush X69h.here hx rfl (hb hby at_101) k') ?_
  show G (T69.setTop (mkF m 103 #[.val (.int u0), .val (.int u1), .val (.int u2), .val (.int u3), .val (.int u4), .val (.int u5), .unset, .unset, .unset, .unset, .unset, .unset, .unset, .unset, .unset, .unset, .unset] [(.int (17 : Int32)), (.ref b18), (.ref b18)]))
  refine go _ _ (fun t' k' => XS.bipush X69h.here hx rfl (hb hby at_103) k') ?_
  show G (T69.setTop (mkF m 105 #[.val (.int u0), .val (.int u1), .val (.int u2), .val (.int u3), .val (.int u4), .val (.int u5), .unset, .unset, .unset, .unset, .unset, .unset, .unset, .unset, .unset, .unset, .unset] [(.int (49 : Int32)), (.int (17 : Int32)), (.ref b18), (.ref b18)]))
  refine own_bastore go X69h hx hZ e69 17 rfl (by decide) (g := (mkF m 105 #[.val (.int u0), .val (.int u1), .val (.int u2), .val (.int u3), .val (.int u4), .val (.int u5), .unset, .unset, .unset, .unset, .unset, .unset, .unset, .unset, .unset, .unset, .unset] [(.int (49 : Int32)), (.int (17 : Int32)), (.ref b18), (.ref b18)])) rfl A69c rfl (hb hby at_105) ?_
  intro T72 h72 X72 e72 W72 A72
  have K73 : Keep h0 h72 [] := K70.wr W72 (Or.inr sz_b18)
  obtain ⟨lc72, X72h, N72h⟩ := own_hide X72 (Fr.snoc X72 N69h g_b18)
  have Z74 : n0 ≤ h72.size := Nat.le_trans Z71 (Nat.le_of_eq W72.size.symm)
  have A72c := A72.cong (g := (own_pre 18)) (own_pre_step 17 rfl)
  show G (T72.setTop (mkF m 106 #[.val (.int u0), .val (.int u1), .val (.int u2), .val (.int u3), .val (.int u4), .val (.int u5), .unset, .unset, .unset, .unset, .unset, .unset, .unset, .unset, .unset, .unset, .unset] [(.ref b18)]))
  refine go _ _ (fun t' k' => XS.dup X72h.here hx rfl (hb hby at_106) rfl rfl k') ?_
  show G (T72.setTop (mkF m 107 #[.val (.int u0), .val (.int u1), .val (.int u2), .val (.int u3), .val (.int u4), .val (.int u5), .unset, .unset, .unset, .unset, .unset, .unset, .unset, .unset, .unset, .unset, .unset] [(.ref b18), (.ref b18)]))
  refine go _ _ (fun t' k' => XS.bipush X72h.here hx rfl (hb hby at_107) k') ?_
  show G (T72.setTop (mkF m 109 #[.val (.int u0), .val (.int u1), .val (.int u2), .val (.int u3), .val (.int u4), .val (.int u5), .unset, .unset, .unset, .unset, .unset, .unset, .unset, .unset, .unset, .unset, .unset] [(.int (18 : Int32)), (.ref b18), (.ref b18)]))
  refine go _ _ (fun t' k' => XS.bipush X72h.here hx rfl (hb hby at_109) k') ?_
  show G (T72.setTop (mkF m 111 #[.val (.int u0), .val (.int u1), .val (.int u2), .val (.int u3), .val (.int u4), .val (.int u5), .unset, .unset, .unset, .unset, .unset, .unset, .unset, .unset, .unset, .unset, .unset] [(.int (50 : Int32)), (.int (18 : Int32)), (.ref b18), (.ref b18)]))
  refine own_bastore go X72h hx hZ e72 18 rfl (by decide) (g := (mkF m 111 #[.val (.int u0), .val (.int u1), .val (.int u2), .val (.int u3), .val (.int u4), .val (.int u5), .unset, .unset, .unset, .unset, .unset, .unset, .unset, .unset, .unset, .unset, .unset] [(.int (50 : Int32)), (.int (18 : Int32)), (.ref b18), (.ref b18)])) rfl A72c rfl (hb hby at_111) ?_
  intro T75 h75 X75 e75 W75 A75
  have K76 : Keep h0 h75 [] := K73.wr W75 (Or.inr sz_b18)
  obtain ⟨lc75, X75h, N75h⟩ := own_hide X75 (Fr.snoc X75 N72h g_b18)
  have Z77 : n0 ≤ h75.size := Nat.le_trans Z74 (Nat.le_of_eq W75.size.symm)
  have A75c := A75.cong (g := (own_pre 19)) (own_pre_step 18 rfl)
  show G (T75.setTop (mkF m 112 #[.val (.int u0), .val (.int u1), .val (.int u2), .val (.int u3), .val (.int u4), .val (.int u5), .unset, .unset, .unset, .unset, .unset, .unset, .unset, .unset, .unset, .unset, .unset] [(.ref b18)]))
  refine go _ _ (fun t' k' => XS.dup X75h.here hx rfl (hb hby at_112) rfl rfl k') ?_
  show G (T75.setTop (mkF m 113 #[.val (.int u0), .val (.int u1), .val (.int u2), .val (.int u3), .val (.int u4), .val (.int u5), .unset, .unset, .unset, .unset, .unset, .unset, .unset, .unset, .unset, .unset, .unset] [(.ref b18), (.ref b18)]))
  refine go _ _ (fun t' k' => XS.bipush X75h.here hx rfl (hb hby at_113) k') ?_
  show G (T75.setTop (mkF m 115 #[.val (.int u0), .val (.int u1), .val (.int u2), .val (.int u3), .val (.int u4), .val (.int u5), .unset, .unset, .unset, .unset, .unset, .unset, .unset, .unset, .unset, .unset, .unset] [(.int (19 : Int32)), (.ref b18), (.ref b18)]))
  refine go _ _ (fun t' k' => XS.bipush X75h.here hx rfl (hb hby at_115) k') ?_
  show G (T75.setTop (mkF m 117 #[.val (.int u0), .val (.int u1), .val (.int u2), .val (.int u3), .val (.int u4), .val (.int u5), .unset, .unset, .unset, .unset, .unset, .unset, .unset, .unset, .unset, .unset, .unset] [(.int (51 : Int32)), (.int (19 : Int32)), (.ref b18), (.ref b18)]))
  refine own_bastore go X75h hx hZ e75 19 rfl (by decide) (g := (mkF m 117 #[.val (.int u0), .val (.int u1), .val (.int u2), .val (.int u3), .val (.int u4), .val (.int u5), .unset, .unset, .unset, .unset, .unset, .unset, .unset, .unset, .unset, .unset, .unset] [(.int (51 : Int32)), (.int (19 : Int32)), (.ref b18), (.ref b18)])) rfl A75c rfl (hb hby at_117) ?_
  intro T78 h78 X78 e78 W78 A78
  have K79 : Keep h0 h78 [] := K76.wr W78 (Or.inr sz_b18)
  obtain ⟨lc78, X78h, N78h⟩ := own_hide X78 (Fr.snoc X78 N75h g_b18)
  have Z80 : n0 ≤ h78.size := Nat.le_trans Z77 (Nat.le_of_eq W78.size.symm)
  have A78c := A78.cong (g := (own_pre 20)) (own_pre_step 19 rfl)
  show G (T78.setTop (mkF m 118 #[.val (.int u0), .val (.int u1), .val (.int u2), .val (.int u3), .val (.int u4), .val (.int u5), .unset, .unset, .unset, .unset, .unset, .unset, .unset, .unset, .unset, .unset, .unset] [(.ref b18)]))
  refine go _ _ (fun t' k' => XS.dup X78h.here hx rfl (hb hby at_118) rfl rfl k') ?_
  show G (T78.setTop (mkF m 119 #[.val (.int u0), .val (.int u1), .val (.int u2), .val (.int u3), .val (.int u4), .val (.int u5), .unset, .unset, .unset, .unset, .unset, .unset, .unset, .unset, .unset, .unset, .unset] [(.ref b18), (.ref b18)]))
  refine go _ _ (fun t' k' => XS.bipush X78h.here hx rfl (hb hby at_119) k') ?_
  show G (T78.setTop (mkF m 121 #[.val (.int u0), .val (.int u1), .val (.int u2), .val (.int u3), .val (.int u4), .val (.int u5), .unset, .unset, .unset, .unset, .unset, .unset, .unset, .unset, .unset, .unset, .unset] [(.int (20 : Int32)), (.ref b18), (.ref b18)]))
  refine go _ _ (fun t' k' => XS.bipush X78h.here hx rfl (hb hby at_121) k') ?_
  show G (T78.setTop (mkF m 123 #[.val (.int u0), .val (.int u1), .val (.int u2), .val (.int u3), .val (.int u4), .val (.int u5), .unset, .unset, .unset, .unset, .unset, .unset, .unset, .unset, .unset, .unset, .unset] [(.int (52 : Int32)), (.int (20 : Int32)), (.ref b18), (.ref b18)]))
  refine own_bastore go X78h hx hZ e78 20 rfl (by decide) (g := (mkF m 123 #[.val (.int u0), .val (.int u1), .val (.int u2), .val (.int u3), .val (.int u4), .val (.int u5), .unset, .unset, .unset, .unset, .unset, .unset, .unset, .unset, .unset, .unset, .unset] [(.int (52 : Int32)), (.int (20 : Int32)), (.ref b18), (.ref b18)])) rfl A78c rfl (hb hby at_123) ?_
  intro T81 h81 X81 e81 W81 A81
  have K82 : Keep h0 h81 [] := K79.wr W81 (Or.inr sz_b18)
  obtain ⟨lc81, X81h, N81h⟩ := own_hide X81 (Fr.snoc X81 N78h g_b18)
  have Z83 : n0 ≤ h81.size := Nat.le_trans Z80 (Nat.le_of_eq W81.size.symm)
  have A81c := A81.cong (g := (own_pre 21)) (own_pre_step 20 rfl)
  show G (T81.setTop (mkF m 124 #[.val (.int u0), .val (.int u1), .val (.int u2), .val (.int u3), .val (.int u4), .val (.int u5), .unset, .unset, .unset, .unset, .unset, .unset, .unset, .unset, .unset, .unset, .unset] [(.ref b18)]))
  refine go _ _ (fun t' k' => XS.dup X81h.here hx rfl (hb hby at_124) rfl rfl k') ?_
  show G (T81.setTop (mkF m 125 #[.val (.int u0), .val (.int u1), .val (.int u2), .val (.int u3), .val (.int u4), .val (.int u5), .unset, .unset, .unset, .unset, .unset, .unset, .unset, .unset, .unset, .unset, .unset] [(.ref b18), (.ref b18)]))
  refine go _ _ (fun t' k' => XS.bipush X81h.here hx rfl (hb hby at_125) k') ?_
  show G (T81.setTop (mkF m 127 #[.val (.int u0), .val (.int u1), .val (.int u2), .val (.int u3), .val (.int u4), .val (.int u5), .unset, .unset, .unset, .unset, .unset, .unset, .unset, .unset, .unset, .unset, .unset] [(.int (21 : Int32)), (.ref b18), (.ref b18)]))
  refine go _ _ (fun t' k' => XS.bipush X81h.here hx rfl (hb hby at_127) k') ?_
  show G (T81.setTop (mkF m 129 #[.val (.int u0), .val (.int u1), .val (.int u2), .val (.int u3), .val (.int u4), .val (.int u5), .unset, .unset, .unset, .unset, .unset, .unset, .unset, .unset, .unset, .unset, .unset] [(.int (53 : Int32)), (.int (21 : Int32)), (.ref b18), (.ref b18)]))
  refine own_bastore go X81h hx hZ e81 21 rfl (by decide) (g := (mkF m 129 #[.val (.int u0), .val (.int u1), .val (.int u2), .val (.int u3), .val (.int u4), .val (.int u5), .unset, .unset, .unset, .unset, .unset, .unset, .unset, .unset, .unset, .unset, .unset] [(.int (53 : Int32)), (.int (21 : Int32)), (.ref b18), (.ref b18)])) rfl A81c rfl (hb hby at_129) ?_
  intro T84 h84 X84 e84 W84 A84
  have K85 : Keep h0 h84 [] := K82.wr W84 (Or.inr sz_b18)
  obtain ⟨lc84, X84h, N84h⟩ := own_hide X84 (Fr.snoc X84 N81h g_b18)
  have Z86 : n0 ≤ h84.size := Nat.le_trans Z83 (Nat.le_of_eq W84.size.symm)
  have A84c := A84.cong (g := (own_pre 22)) (own_pre_step 21 rfl)
  show G (T84.setTop (mkF m 130 #[.val (.int u0), .val (.int u1), .val (.int u2), .val (.int u3), .val (.int u4), .val (.int u5), .unset, .unset, .unset, .unset, .unset, .unset, .unset, .unset, .unset, .unset, .unset] [(.ref b18)]))
  refine go _ _ (fun t' k' => XS.dup X84h.here hx rfl (hb hby at_130) rfl rfl k') ?_
  show G (T84.setTop (mkF m 131 #[.val (.int u0), .val (.int u1), .val (.int u2), .val (.int u3), .val (.int u4), .val (.int u5), .unset, .unset, .unset, .unset, .unset, .unset, .unset, .unset, .unset, .unset, .unset] [(.ref b18), (.ref b18)]))
  refine go _ _ (fun t' k' => XS.bipush X84h.here hx rfl (hb hby at_131) k') ?_
  show G (T84.setTop (mkF m 133 #[.val (.int u0), .val (.int u1), .val (.int u2), .val (.int u3), .val (.int u4), .val (.int u5), .unset, .unset, .unset, .unset, .unset, .unset, .unset, .unset, .unset, .unset, .unset] [(.int (22 : Int32)), (.ref b18), (.ref b18)]))
  refine go _ _ (fun t' k' => XS.bipush X84h.here hx rfl (hb hby at_133) k') ?_
  show G (T84.setTop (mkF m 135 #[.val (.int u0), .val (.int u1), .val (.int u2), .val (.int u3), .val (.int u4), .val (.int u5), .unset, .unset, .unset, .unset, .unset, .unset, .unset, .unset, .unset, .unset, .unset] [(.int (54 : Int32)), (.int (22 : Int32)), (.ref b18), (.ref b18)]))
  refine own_bastore go X84h hx hZ e84 22 rfl (by decide) (g := (mkF m 135 #[.val (.int u0), .val (.int u1), .val (.int u2), .val (.int u3), .val (.int u4), .val (.int u5), .unset, .unset, .unset, .unset, .unset, .unset, .unset, .unset, .unset, .unset, .unset] [(.int (54 : Int32)), (.int (22 : Int32)), (.ref b18), (.ref b18)])) rfl A84c rfl (hb hby at_135) ?_
  intro T87 h87 X87 e87 W87 A87
  have K88 : Keep h0 h87 [] := K85.wr W87 (Or.inr sz_b18)
  obtain ⟨lc87, X87h, N87h⟩ := own_hide X87 (Fr.snoc X87 N84h g_b18)
  have Z89 : n0 ≤ h87.size := Nat.le_trans Z86 (Nat.le_of_eq W87.size.symm)
  have A87c := A87.cong (g := (own_pre 23)) (own_pre_step 22 rfl)
  show G (T87.setTop (mkF m 136 #[.val (.int u0), .val (.int u1), .val (.int u2), .val (.int u3), .val (.int u4), .val (.int u5), .unset, .unset, .unset, .unset, .unset, .unset, .unset, .unset, .unset, .unset, .unset] [(.ref b18)]))
  refine go _ _ (fun t' k' => XS.dup X87h.here hx rfl (hb hby at_136) rfl rfl k') ?_
  show G (T87.setTop (mkF m 137 #[.val (.int u0), .val (.int u1), .val (.int u2), .val (.int u3), .val (.int u4), .val (.int u5), .unset, .unset, .unset, .unset, .unset, .unset, .unset, .unset, .unset, .unset, .unset] [(.ref b18), (.ref b18)]))
  refine go _ _ (fun t' k' => XS.bipush X87h.here hx rfl (hb hby at_137) k') ?_
  show G (T87.setTop (mkF m 139 #[.val (.int u0), .val (.int u1), .val (.int u2), .val (.int u3), .val (.int u4), .val (.int u5), .unset, .unset, .unset, .unset, .unset, .unset, .unset, .unset, .unset, .unset, .unset] [(.int (23 : Int32)), (.ref b18), (.ref b18)]))
  refine go _ _ (fun t' k' => XS.bipush X87h.here hx rfl (hb hby at_139) k') ?_
  show G (T87.setTop (mkF m 141 #[.val (.int u0), .val (.int u1), .val (.int u2), .val (.int u3), .val (.int u4), .val (.int u5), .unset, .unset, .unset, .unset, .unset, .unset, .unset, .unset, .unset, .unset, .unset] [(.int (55 : Int32)), (.int (23 : Int32)), (.ref b18), (.ref b18)]))
  refine own_bastore go X87h hx hZ e87 23 rfl (by decide) (g := (mkF m 141 #[.val (.int u0), .val (.int u1), .val (.int u2), .val (.int u3), .val (.int u4), .val (.int u5), .unset, .unset, .unset, .unset, .unset, .unset, .unset, .unset, .unset, .unset, .unset] [(.int (55 : Int32)), (.int (23 : Int32)), (.ref b18), (.ref b18)])) rfl A87c rfl (hb hby at_141) ?_
  intro T90 h90 X90 e90 W90 A90
  have K91 : Keep h0 h90 [] := K88.wr W90 (Or.inr sz_b18)
  obtain ⟨lc90, X90h, N90h⟩ := own_hide X90 (Fr.snoc X90 N87h g_b18)
  have Z92 : n0 ≤ h90.size := Nat.le_trans Z89 (Nat.le_of_eq W90.size.symm)
  have A90c := A90.cong (g := (own_pre 24)) (own_pre_step 23 rfl)
  show G (T90.setTop (mkF m 142 #[.val (.int u0), .val (.int u1), .val (.int u2), .val (.int u3), .val (.int u4), .val (.int u5), .unset, .unset, .unset, .unset, .unset, .unset, .unset, .unset, .unset, .unset, .unset] [(.ref b18)]))
  refine go _ _ (fun t' k' => XS.dup X90h.here hx rfl (hb hby at_142) rfl rfl k') ?_
  show G (T90.setTop (mkF m 143 #[.val (.int u0), .val (.int u1), .val (.int u2), .val (.int u3), .val (.int u4), .val (.int u5), .unset, .unset, .unset, .unset, .unset, .unset, .unset, .unset, .unset, .unset, .unset] [(.ref b18), (.ref b18)]))
  refine go _ _ (fun t' k' => XS.bipush X90h.here hx rfl (hb hby at_143) k') ?_
  show G (T90.setTop (mkF m 145 #[.val (.int u0), .val (.int u1), .val (.int u2), .val (.int u3), .val (.int u4), .val (.int u5), .unset, .unset, .unset, .unset, .unset, .unset, .unset, .unset, .unset, .unset, .unset] [(.int (24 : Int32)), (.ref b18), (.ref b18)]))
  refine go _ _ (fun t' k' => XS.bipush X90h.here hx rfl (hb hby at_145) k') ?_
  show G (T90.setTop (mkF m 147 #[.val (.int u0), .val (.int u1), .val (.int u2), .val (.int u3), .val (.int u4), .val (.int u5), .unset, .unset, .unset, .unset, .unset, .unset, .unset, .unset, .unset, .unset, .unset] [(.int (56 : Int32)), (.int (24 : Int32)), (.ref b18), (.ref b18)]))
  refine own_bastore go X90h hx hZ e90 24 rfl (by decide) (g := (mkF m 147 #[.val (.int u0), .val (.int u1), .val (.int u2), .val (.int u3), .val (.int u4), .val (.int u5), .unset, .unset, .unset, .unset, .unset, .unset, .unset, .unset, .unset, .unset, .unset] [(.int (56 : Int32)), (.int (24 : Int32)), (.ref b18), (.ref b18)])) rfl A90c rfl (hb hby at_147) ?_
  intro T93 h93 X93 e93 W93 A93
  have K94 : Keep h0 h93 [] := K91.wr W93 (Or.inr sz_b18)
  obtain ⟨lc93, X93h, N93h⟩ := own_hide X93 (Fr.snoc X93 N90h g_b18)
  have Z95 : n0 ≤ h93.size := Nat.le_trans Z92 (Nat.le_of_eq W93.size.symm)
  have A93c := A93.cong (g := (own_pre 25)) (own_pre_step 24 rfl)
  show G (T93.setTop (mkF m 148 #[.val (.int u0), .val (.int u1), .val (.int u2), .val (.int u3), .val (.int u4), .val (.int u5), .unset, .unset, .unset, .unset, .unset, .unset, .unset, .unset, .unset, .unset, .unset] [(.ref b18)]))
  refine go _ _ (fun t' k' => XS.dup X93h.here hx rfl (hb hby at_148) rfl rfl k') ?_
  show G (T93.setTop (mkF m 149 #[.val (.int u0), .val (.int u1), .val (.int u2), .val (.int u3), .val (.int u4), .val (.int u5), .unset, .unset, .unset, .unset, .unset, .unset, .unset, .unset, .unset, .unset, .unset] [(.ref b18), (.ref b18)]))
  refine go _ _ (fun t' k' => XS.bipush X93h.here hx rfl (hb hby at_149) k') ?_
  show G (T93.setTop (mkF m 151 #[.val (.int u0), .val (.int u1), .val (.int u2), .val (.int u3), .val (.int u4), .val (.int u5), .unset, .unset, .unset, .unset, .unset, .unset, .unset, .unset, .unset, .unset, .unset] [(.int (25 : Int32)), (.ref b18), (.ref b18)]))
  refine go _ _ (fun t' k' => XS.bipush X93h.here hx rfl (hb hby at_151) k') ?_
  show G (T93.setTop (mkF m 153 #[.val (.int u0), .val (.int u1), .val (.int u2), .val (.int u3), .val (.int u4), .val (.int u5), .unset, .unset, .unset, .unset, .unset, .unset, .unset, .unset, .unset, .unset, .unset] [(.int (57 : Int32)), (.int (25 : Int32)), (.ref b18), (.ref b18)]))
  refine own_bastore go X93h hx hZ e93 25 rfl (by decide) (g := (mkF m 153 #[.val (.int u0), .val (.int u1), .val (.int u2), .val (.int u3), .val (.int u4), .val (.int u5), .unset, .unset, .unset, .unset, .unset, .unset, .unset, .unset, .unset, .unset, .unset] [(.int (57 : Int32)), (.int (25 : Int32)), (.ref b18), (.ref b18)])) rfl A93c rfl (hb hby at_153) ?_
  intro T96 h96 X96 e96 W96 A96
  have K97 : Keep h0 h96 [] := K94.wr W96 (Or.inr sz_b18)
  obtain ⟨lc96, X96h, N96h⟩ := own_hide X96 (Fr.snoc X96 N93h g_b18)
  have Z98 : n0 ≤ h96.size := Nat.le_trans Z95 (Nat.le_of_eq W96.size.symm)
  have A96c := A96.cong (g := (own_pre 26)) (own_pre_step 25 rfl)
  show G (T96.setTop (mkF m 154 #[.val (.int u0), .val (.int u1), .val (.int u2), .val (.int u3), .val (.int u4), .val (.int u5), .unset, .unset, .unset, .unset, .unset, .unset, .unset, .unset, .unset, .unset, .unset] [(.ref b18)]))
  refine go _ _ (fun t' k' => XS.dup X96h.here hx rfl (hb hby at_154) rfl rfl k') ?_
  show G (T96.setTop (mkF m 155 #[.val (.int u0), .val (.int u1), .val (.int u2), .val (.int u3), .val (.int u4), .val (.int u5), .unset, .unset, .unset, .unset, .unset, .unset, .unset, .unset, .unset, .unset, .unset] [(.ref b18), (.ref b18)]))
  refine go _ _ (fun t' k' => XS.bipush X96h.here hx rfl (hb hby at_155) k') ?_
  show G (T96.setTop (mkF m 157 #[.val (.int u0), .val (.int u1), .val (.int u2), .val (.int u3), .val (.int u4), .val (.int u5), .unset, .unset, .unset, .unset, .unset, .unset, .unset, .unset, .unset, .unset, .unset] [(.int (26 : Int32)), (.ref b18), (.ref b18)]))
  refine go _ _ (fun t' k' => XS.bipush X96h.here hx rfl (hb hby at_157) k') ?_
  show G (T96.setTop (mkF m 159 #[.val (.int u0), .val (.int u1), .val (.int u2), .val (.int u3), .val (.int u4), .val (.int u5), .unset, .unset, .unset, .unset, .unset, .unset, .unset, .unset, .unset, .unset, .unset] [(.int (97 : Int32)), (.int (26 : Int32)), (.ref b18), (.ref b18)]))
  refine own_bastore go X96h hx hZ e96 26 rfl (by decide) (g := (mkF m 159 #[.val (.int u0), .val (.int u1), .val (.int u2), .val (.int u3), .val (.int u4), .val (.int u5), .unset, .unset, .unset, .unset, .unset, .unset, .unset, .unset, .unset, .unset, .unset] [(.int (97 : Int32)), (.int (26 : Int32)), (.ref b18), (.ref b18)])) rfl A96c rfl (hb hby at_159) ?_
  intro T99 h99 X99 e99 W99 A99
  have K100 : Keep h0 h99 [] := K97.wr W99 (Or.inr sz_b18)
  obtain ⟨lc99, X99h, N99h⟩ := own_hide X99 (Fr.snoc X99 N96h g_b18)
  have Z101 : n0 ≤ h99.size := Nat.le_trans Z98 (Nat.le_of_eq W99.size.symm)
  have A99c := A99.cong (g := (own_pre 27)) (own_pre_step 26 rfl)
  show G (T99.setTop (mkF m 160 #[.val (.int u0), .val (.int u1), .val (.int u2), .val (.int u3), .val (.int u4), .val (.int u5), .unset, .unset, .unset, .unset, .unset, .unset, .unset, .unset, .unset, .unset, .unset] [(.ref b18)]))
  refine go _ _ (fun t' k' => XS.dup X99h.here hx rfl (hb hby at_160) rfl rfl k') ?_
  show G (T99.setTop (mkF m 161 #[.val (.int u0), .val (.int u1), .val (.int u2), .val (.int u3), .val (.int u4), .val (.int u5), .unset, .unset, .unset, .unset, .unset, .unset, .unset, .unset, .unset, .unset, .unset] [(.ref b18), (.ref b18)]))
  refine go _ _ (fun t' k' => XS.bipush X99h.here hx rfl (hb hby at_161) k') ?_
  show G (T99.setTop (mkF m 163 #[.val (.int u0), .val (.int u1), .val (.int u2), .val (.int u3), .val (.int u4), .val (.int u5), .unset, .unset, .unset, .unset, .unset, .unset, .unset, .unset, .unset, .unset, .unset] [(.int (27 : Int32)), (.ref b18), (.ref b18)]))
  refine go _ _ (fun t' k' => XS.bipush X99h.here hx rfl (hb hby at_163) k') ?_
  show G (T99.setTop (mkF m 165 #[.val (.int u0), .val (.int u1), .val (.int u2), .val (.int u3), .val (.int u4), .val (.int u5), .unset, .unset, .unset, .unset, .unset, .unset, .unset, .unset, .unset, .unset, .unset] [(.int (98 : Int32)), (.int (27 : Int32)), (.ref b18), (.ref b18)]))
  refine own_bastore go X99h hx hZ e99 27 rfl (by decide) (g := (mkF m 165 #[.val (.int u0), .val (.int u1), .val (.int u2), .val (.int u3), .val (.int u4), .val (.int u5), .unset, .unset, .unset, .unset, .unset, .unset, .unset, .unset, .unset, .unset, .unset] [(.int (98 : Int32)), (.int (27 : Int32)), (.ref b18), (.ref b18)])) rfl A99c rfl (hb hby at_165) ?_
  intro T102 h102 X102 e102 W102 A102
  have K103 : Keep h0 h102 [] := K100.wr W102 (Or.inr sz_b18)
  obtain ⟨lc102, X102h, N102h⟩ := own_hide X102 (Fr.snoc X102 N99h g_b18)
  have Z104 : n0 ≤ h102.size := Nat.le_trans Z101 (Nat.le_of_eq W102.size.symm)
  have A102c := A102.cong (g := (own_pre 28)) (own_pre_step 27 rfl)
  show G (T102.setTop (mkF m 166 #[.val (.int u0), .val (.int u1), .val (.int u2), .val (.int u3), .val (.int u4), .val (.int u5), .unset, .unset, .unset, .unset, .unset, .unset, .unset, .unset, .unset, .unset, .unset] [(.ref b18)]))
  refine go _ _ (fun t' k' => XS.dup X102h.here hx rfl (hb hby at_166) rfl rfl k') ?_
  show G (T102.setTop (mkF m 167 #[.val (.int u0), .val (.int u1), .val (.int u2), .val (.int u3), .val (.int u4), .val (.int u5), .unset, .unset, .unset, .unset, .unset, .unset, .unset, .unset, .unset, .unset, .unset] [(.ref b18), (.ref b18)]))
  refine go _ _ (fun t' k' => XS.bipush X102h.here hx rfl (hb hby at_167) k') ?_
  show G (T102.setTop (mkF m 169 #[.val (.int u0), .val (.int u1), .val (.int u2), .val (.int u3), .val (.int u4), .val (.int u5), .unset, .unset, .unset, .unset, .unset, .unset, .unset, .unset, .unset, .unset, .unset] [(.int (28 : Int32)), (.ref b18), (.ref b18)]))
  refine go _ _ (fun t' k' => XS.bipush X102h.here hx rfl (hb hby at_169) k') ?_
  show G (T102.setTop (mkF m 171 #[.val (.int u0), .val (.int u1), .val (.int u2), .val (.int u3), .val (.int u4), .val (.int u5), .unset, .unset, .unset, .unset, .unset, .unset, .unset, .unset, .unset, .unset, .unset] [(.int (99 : Int32)), (.int (28 : Int32)), (.ref b18), (.ref b18)]))
  refine own_bastore go X102h hx hZ e102 28 rfl (by decide) (g := (mkF m 171 #[.val (.int u0), .val (.int u1), .val (.int u2), .val (.int u3), .val (.int u4), .val (.int u5), .unset, .unset, .unset, .unset, .unset, .unset, .unset, .unset, .unset, .unset, .unset] [(.int (99 : Int32)), (.int (28 : Int32)), (.ref b18), (.ref b18)])) rfl A102c rfl (hb hby at_171) ?_
  intro T105 h105 X105 e105 W105 A105
  have K106 : Keep h0 h105 [] := K103.wr W105 (Or.inr sz_b18)
  obtain ⟨lc105, X105h, N105h⟩ := own_hide X105 (Fr.snoc X105 N102h g_b18)
  have Z107 : n0 ≤ h105.size := Nat.le_trans Z104 (Nat.le_of_eq W105.size.symm)
  have A105c := A105.cong (g := (own_pre 29)) (own_pre_step 28 rfl)
  show G (T105.setTop (mkF m 172 #[.val (.int u0), .val (.int u1), .val (.int u2), .val (.int u3), .val (.int u4), .val (.int u5), .unset, .unset, .unset, .unset, .unset, .unset, .unset, .unset, .unset, .unset, .unset] [(.ref b18)]))
  refine go _ _ (fun t' k' => XS.dup X105h.here hx rfl (hb hby at_172) rfl rfl k') ?_
  show G (T105.setTop (mkF m 173 #[.val (.int u0), .val (.int u1), .val (.int u2), .val (.int u3), .val (.int u4), .val (.int u5), .unset, .unset, .unset, .unset, .unset, .unset, .unset, .unset, .unset, .unset, .unset] [(.ref b18), (.ref b18)]))
  refine go _ _ (fun t' k' => XS.bipush X105h.here hx rfl (hb hby at_173) k') ?_
  show G (T105.setTop (mkF m 175 #[.val (.int u0), .val (.int u1), .val (.int u2), .val (.int u3), .val (.int u4), .val (.int u5), .unset, .unset, .unset, .unset, .unset, .unset, .unset, .unset, .unset, .unset, .unset] [(.int (29 : Int32)), (.ref b18), (.ref b18)]))
  refine go _ _ (fun t' k' => XS.bipush X105h.here hx rfl (hb hby at_175) k') ?_
  show G (T105.setTop (mkF m 177 #[.val (.int u0), .val (.int u1), .val (.int u2), .val (.int u3), .val (.int u4), .val (.int u5), .unset, .unset, .unset, .unset, .unset, .unset, .unset, .unset, .unset, .unset, .unset] [(.int (100 : Int32)), (.int (29 : Int32)), (.ref b18), (.ref b18)]))
  refine own_bastore go X105h hx hZ e105 29 rfl (by decide) (g := (mkF m 177 #[.val (.int u0), .val (.int u1), .val (.int u2), .val (.int u3), .val (.int u4), .val (.int u5), .unset, .unset, .unset, .unset, .unset, .unset, .unset, .unset, .unset, .unset, .unset] [(.int (100 : Int32)), (.int (29 : Int32)), (.ref b18), (.ref b18)])) rfl A105c rfl (hb hby at_177) ?_
  intro T108 h108 X108 e108 W108 A108
  have K109 : Keep h0 h108 [] := K106.wr W108 (Or.inr sz_b18)
  obtain ⟨lc108, X108h, N108h⟩ := own_hide X108 (Fr.snoc X108 N105h g_b18)
  have Z110 : n0 ≤ h108.size := Nat.le_trans Z107 (Nat.le_of_eq W108.size.symm)
  have A108c := A108.cong (g := (own_pre 30)) (own_pre_step 29 rfl)
  show G (T108.setTop (mkF m 178 #[.val (.int u0), .val (.int u1), .val (.int u2), .val (.int u3), .val (.int u4), .val (.int u5), .unset, .unset, .unset, .unset, .unset, .unset, .unset, .unset, .unset, .unset, .unset] [(.ref b18)]))
  refine go _ _ (fun t' k' => XS.dup X108h.here hx rfl (hb hby at_178) rfl rfl k') ?_
  show G (T108.setTop (mkF m 179 #[.val (.int u0), .val (.int u1), .val (.int u2), .val (.int u3), .val (.int u4), .val (.int u5), .unset, .unset, .unset, .unset, .unset, .unset, .unset, .unset, .unset, .unset, .unset] [(.ref b18), (.ref b18)]))
  refine go _ _ (fun t' k' => XS.bipush X108h.here hx rfl (hb hby at_179) k') ?_
  show G (T108.setTop (mkF m 181 #[.val (.int u0), .val (.int u1), .val (.int u2), .val (.int u3), .val (.int u4), .val (.int u5), .unset, .unset, .unset, .unset, .unset, .unset, .unset, .unset, .unset, .unset, .unset] [(.int (30 : Int32)), (.ref b18), (.ref b18)]))
  refine go _ _ (fun t' k' => XS.bipush X108h.here hx rfl (hb hby at_181) k') ?_
  show G (T108.setTop (mkF m 183 #[.val (.int u0), .val (.int u1), .val (.int u2), .val (.int u3), .val (.int u4), .val (.int u5), .unset, .unset, .unset, .unset, .unset, .unset, .unset, .unset, .unset, .unset, .unset] [(.int (101 : Int32)), (.int (30 : Int32)), (.ref b18), (.ref b18)]))
  refine own_bastore go X108h hx hZ e108 30 rfl (by decide) (g := (mkF m 183 #[.val (.int u0), .val (.int u1), .val (.int u2), .val (.int u3), .val (.int u4), .val (.int u5), .unset, .unset, .unset, .unset, .unset, .unset, .unset, .unset, .unset, .unset, .unset] [(.int (101 : Int32)), (.int (30 : Int32)), (.ref b18), (.ref b18)])) rfl A108c rfl (hb hby at_183) ?_
  intro T111 h111 X111 e111 W111 A111
  have K112 : Keep h0 h111 [] := K109.wr W111 (Or.inr sz_b18)
  obtain ⟨lc111, X111h, N111h⟩ := own_hide X111 (Fr.snoc X111 N108h g_b18)
  have Z113 : n0 ≤ h111.size := Nat.le_trans Z110 (Nat.le_of_eq W111.size.symm)
  have A111c := A111.cong (g := (own_pre 31)) (own_pre_step 30 rfl)
  show G (T111.setTop (mkF m 184 #[.val (.int u0), .val (.int u1), .val (.int u2), .val (.int u3), .val (.int u4), .val (.int u5), .unset, .unset, .unset, .unset, .unset, .unset, .unset, .unset, .unset, .unset, .unset] [(.ref b18)]))
  refine go _ _ (fun t' k' => XS.dup X111h.here hx rfl (hb hby at_184) rfl rfl k') ?_
  show G (T111.setTop (mkF m 185 #[.val (.int u0), .val (.int u1), .val (.int u2), .val (.int u3), .val (.int u4), .val (.int u5), .unset, .unset, .unset, .unset, .unset, .unset, .unset, .unset, .unset, .unset, .unset] [(.ref b18), (.ref b18)]))
  refine go _ _ (fun t' k' => XS.bipush X111h.here hx rfl (hb hby at_185) k') ?_
  show G (T111.setTop (mkF m 187 #[.val (.int u0), .val (.int u1), .val (.int u2), .val (.int u3), .val (.int u4), .val (.int u5), .unset, .unset, .unset, .unset, .unset, .unset, .unset, .unset, .unset, .unset, .unset] [(.int (31 : Int32)), (.ref b18), (.ref b18)]))
  refine go _ _ (fun t' k' => XS.bipush X111h.here hx rfl (hb hby at_187) k') ?_
  show G (T111.setTop (mkF m 189 #[.val (.int u0), .val (.int u1), .val (.int u2), .val (.int u3), .val (.int u4), .val (.int u5), .unset, .unset, .unset, .unset, .unset, .unset, .unset, .unset, .unset, .unset, .unset] [(.int (102 : Int32)), (.int (31 : Int32)), (.ref b18), (.ref b18)]))
  refine own_bastore go X111h hx hZ e111 31 rfl (by decide) (g := (mkF m 189 #[.val (.int u0), .val (.int u1), .val (.int u2), .val (.int u3), .val (.int u4), .val (.int u5), .unset, .unset, .unset, .unset, .unset, .unset, .unset, .unset, .unset, .unset, .unset] [(.int (102 : Int32)), (.int (31 : Int32)), (.ref b18), (.ref b18)])) rfl A111c rfl (hb hby at_189) ?_
  intro T114 h114 X114 e114 W114 A114
  have K115 : Keep h0 h114 [] := K112.wr W114 (Or.inr sz_b18)
  obtain ⟨lc114, X114h, N114h⟩ := own_hide X114 (Fr.snoc X114 N111h g_b18)
  have Z116 : n0 ≤ h114.size := Nat.le_trans Z113 (Nat.le_of_eq W114.size.symm)
  have A114c := A114.cong (g := (own_pre 32)) (own_pre_step 31 rfl)
  show G (T114.setTop (mkF m 190 #[.val (.int u0), .val (.int u1), .val (.int u2), .val (.int u3), .val (.int u4), .val (.int u5), .unset, .unset, .unset, .unset, .unset, .unset, .unset, .unset, .unset, .unset, .unset] [(.ref b18)]))
  refine go _ _ (fun t' k' => XS.dup X114h.here hx rfl (hb hby at_190) rfl rfl k') ?_
  show G (T114.setTop (mkF m 191 #[.val (.int u0), .val (.int u1), .val (.int u2), .val (.int u3), .val (.int u4), .val (.int u5), .unset, .unset, .unset, .unset, .unset, .unset, .unset, .unset, .unset, .unset, .unset] [(.ref b18), (.ref b18)]))
  refine go _ _ (fun t' k' => XS.bipush X114h.here hx rfl (hb hby at_191) k') ?_
  show G (T114.setTop (mkF m 193 #[.val (.int u0), .val (.int u1), .val (.int u2), .val (.int u3), .val (.int u4), .val (.int u5), .unset, .unset, .unset, .unset, .unset, .unset, .unset, .unset, .unset, .unset, .unset] [(.int (32 : Int32)), (.ref b18), (.ref b18)]))
  refine go _ _ (fun t' k' => XS.bipush X114h.here hx rfl (hb hby at_193) k') ?_
  show G (T114.setTop (mkF m 195 #[.val (.int u0), .val (.int u1), .val (.int u2), .val (.int u3), .val (.int u4), .val (.int u5), .unset, .unset, .unset, .unset, .unset, .unset, .unset, .unset, .unset, .unset, .unset] [(.int (48 : Int32)), (.int (32 : Int32)), (.ref b18), (.ref b18)]))
  refine own_bastore go X114h hx hZ e114 32 rfl (by decide) (g := (mkF m 195 #[.val (.int u0), .val (.int u1), .val (.int u2), .val (.int u3), .val (.int u4), .val (.int u5), .unset, .unset, .unset, .unset, .unset, .unset, .unset, .unset, .unset, .unset, .unset] [(.int (48 : Int32)), (.int (32 : Int32)), (.ref b18), (.ref b18)])) rfl A114c rfl (hb hby at_195) ?_
  intro T117 h117 X117 e117 W117 A117
  have K118 : Keep h0 h117 [] := K115.wr W117 (Or.inr sz_b18)
  obtain ⟨lc117, X117h, N117h⟩ := own_hide X117 (Fr.snoc X117 N114h g_b18)
  have Z119 : n0 ≤ h117.size := Nat.le_trans Z116 (Nat.le_of_eq W117.size.symm)
  have A117c := A117.cong (g := (own_pre 33)) (own_pre_step 32 rfl)
  show G (T117.setTop (mkF m 196 #[.val (.int u0), .val (.int u1), .val (.int u2), .val (.int u3), .val (.int u4), .val (.int u5), .unset, .unset, .unset, .unset, .unset, .unset, .unset, .unset, .unset, .unset, .unset] [(.ref b18)]))
  refine go _ _ (fun t' k' => XS.dup X117h.here hx rfl (hb hby at_196) rfl rfl k') ?_
  show G (T117.setTop (mkF m 197 #[.val (.int u0), .val (.int u1), .val (.int u2), .val (.int u3), .val (.int u4), .val (.int u5), .unset, .unset, .unset, .unset, .unset, .unset, .unset, .unset, .unset, .unset, .unset] [(.ref b18), (.ref b18)]))
  refine go _ _ (fun t' k' => XS.bipush X117h.here hx rfl (hb hby at_197) k') ?_
  show G (T117.setTop (mkF m 199 #[.val (.int u0), .val (.int u1), .val (.int u2), .val (.int u3), .val (.int u4), .val (.int u5), .unset, .unset, .unset, .unset, .unset, .unset, .unset, .unset, .unset, .unset, .unset] [(.int (33 : Int32)), (.ref b18), (.ref b18)]))
  refine go _ _ (fun t' k' => XS.bipush X117h.here hx rfl (hb hby at_199) k') ?_
  show G (T117.setTop (mkF m 201 #[.val (.int u0), .val (.int u1), .val (.int u2), .val (.int u3), .val (.int u4), .val (.int u5), .unset, .unset, .unset, .unset, .unset, .unset, .unset, .unset, .unset, .unset, .unset] [(.int (49 : Int32)), (.int (33 : Int32)), (.ref b18), (.ref b18)]))
  refine own_bastore go X117h hx hZ e117 33 rfl (by decide) (g := (mkF m 201 #[.val (.int u0), .val (.int u1), .val (.int u2), .val (.int u3), .val (.int u4), .val (.int u5), .unset, .unset, .unset, .unset, .unset, .unset, .unset, .unset, .unset, .unset, .unset] [(.int (49 : Int32)), (.int (33 : Int32)), (.ref b18), (.ref b18)])) rfl A117c rfl (hb hby at_201) ?_
  intro T120 h120 X120 e120 W120 A120
  have K121 : Keep h0 h120 [] := K118.wr W120 (Or.inr sz_b18)
  obtain ⟨lc120, X120h, N120h⟩ := own_hide X120 (Fr.snoc X120 N117h g_b18)
  have Z122 : n0 ≤ h120.size := Nat.le_trans Z119 (Nat.le_of_eq W120.size.symm)
  have A120c := A120.cong (g := (own_pre 34)) (own_pre_step 33 rfl)
  show G (T120.setTop (mkF m 202 #[.val (.int u0), .val (.int u1), .val (.int u2), .val (.int u3), .val (.int u4), .val (.int u5), .unset, .unset, .unset, .unset, .unset, .unset, .unset, .unset, .unset, .unset, .unset] [(.ref b18)]))
  refine go _ _ (fun t' k' => XS.dup X120h.here hx rfl (hb hby at_202) rfl rfl k') ?_
  show G (T120.setTop (mkF m 203 #[.val (.int u0), .val (.int u1), .val (.int u2), .val (.int u3), .val (.int u4), .val (.int u5), .unset, .unset, .unset, .unset, .unset, .unset, .unset, .unset, .unset, .unset, .unset] [(.ref b18), (.ref b18)]))
  refine go _ _ (fun t' k' => XS.bipush X120h.here hx rfl (hb hby at_203) k') ?_
  show G (T120.setTop (mkF m 205 #[.val (.int u0), .val (.int u1), .val (.int u2), .val (.int u3), .val (.int u4), .val (.int u5), .unset, .unset, .unset, .unset, .unset, .unset, .unset, .unset, .unset, .unset, .unset] [(.int (34 : Int32)), (.ref b18), (.ref b18)]))
  refine go _ _ (fun t' k' => XS.bipush X120h.here hx rfl (hb hby at_205) k') ?_
  show G (T120.setTop (mkF m 207 #[.val (.int u0), .val (.int u1), .val (.int u2), .val (.int u3), .val (.int u4), .val (.int u5), .unset, .unset, .unset, .unset, .unset, .unset, .unset, .unset, .unset, .unset, .unset] [(.int (50 : Int32)), (.int (34 : Int32)), (.ref b18), (.ref b18)]))
  refine own_bastore go X120h hx hZ e120 34 rfl (by decide) (g := (mkF m 207 #[.val (.int u0), .val (.int u1), .val (.int u2), .val (.int u3), .val (.int u4), .val (.int u5), .unset, .unset, .unset, .unset, .unset, .unset, .unset, .unset, .unset, .unset, .unset] [(.int (50 : Int32)), (.int (34 : Int32)), (.ref b18), (.ref b18)])) rfl A120c rfl (hb hby at_207) ?_
  intro T123 h123 X123 e123 W123 A123
  have K124 : Keep h0 h123 [] := K121.wr W123 (Or.inr sz_b18)
  obtain ⟨lc123, X123h, N123h⟩ := own_hide X123 (Fr.snoc X123 N120h g_b18)
  have Z125 : n0 ≤ h123.size := Nat.le_trans Z122 (Nat.le_of_eq W123.size.symm)
  have A123c := A123.cong (g := (own_pre 35)) (own_pre_step 34 rfl)
  show G (T123.setTop (mkF m 208 #[.val (.int u0), .val (.int u1), .val (.int u2), .val (.int u3), .val (.int u4), .val (.int u5), .unset, .unset, .unset, .unset, .unset, .unset, .unset, .unset, .unset, .unset, .unset] [(.ref b18)]))
  refine go _ _ (fun t' k' => XS.dup X123h.here hx rfl (hb hby at_208) rfl rfl k') ?_
  show G (T123.setTop (mkF m 209 #[.val (.int u0), .val (.int u1), .val (.int u2), .val (.int u3), .val (.int u4), .val (.int u5), .unset, .unset, .unset, .unset, .unset, .unset, .unset, .unset, .unset, .unset, .unset] [(.ref b18), (.ref b18)]))
  refine go _ _ (fun t' k' => XS.bipush X123h.here hx rfl (hb hby at_209) k') ?_
  show G (T123.setTop (mkF m 211 #[.val (.int u0), .val (.int u1), .val (.int u2), .val (.int u3), .val (.int u4), .val (.int u5), .unset, .unset, .unset, .unset, .unset, .unset, .unset, .unset, .unset, .unset, .unset] [(.int (35 : Int32)), (.ref b18), (.ref b18)]))
  refine go _ _ (fun t' k' => XS.bipush X123h.here hx rfl (hb hby at_211) k') ?_
  show G (T123.setTop (mkF m 213 #[.val (.int u0), .val (.int u1), .val (.int u2), .val (.int u3), .val (.int u4), .val (.int u5), .unset, .unset, .unset, .unset, .unset, .unset, .unset, .unset, .unset, .unset, .unset] [(.int (51 : Int32)), (.int (35 : Int32)), (.ref b18), (.ref b18)]))
  refine own_bastore go X123h hx hZ e123 35 rfl (by decide) (g := (mkF m 213 #[.val (.int u0), .val (.int u1), .val (.int u2), .val (.int u3), .val (.int u4), .val (.int u5), .unset, .unset, .unset, .unset, .unset, .unset, .unset, .unset, .unset, .unset, .unset] [(.int (51 : Int32)), (.int (35 : Int32)), (.ref b18), (.ref b18)])) rfl A123c rfl (hb hby at_213) ?_
  intro T126 h126 X126 e126 W126 A126
  have K127 : Keep h0 h126 [] := K124.wr W126 (Or.inr sz_b18)
  obtain ⟨lc126, X126h, N126h⟩ := own_hide X126 (Fr.snoc X126 N123h g_b18)
  have Z128 : n0 ≤ h126.size := Nat.le_trans Z125 (Nat.le_of_eq W126.size.symm)
  have A126c := A126.cong (g := (own_pre 36)) (own_pre_step 35 rfl)
  show G (T126.setTop (mkF m 214 #[.val (.int u0), .val (.int u1), .val (.int u2), .val (.int u3), .val (.int u4), .val (.int u5), .unset, .unset, .unset, .unset, .unset, .unset, .unset, .unset, .unset, .unset, .unset] [(.ref b18)]))
  refine go _ _ (fun t' k' => XS.dup X126h.here hx rfl (hb hby at_214) rfl rfl k') ?_
  show G (T126.setTop (mkF m 215 #[.val (.int u0), .val (.int u1), .val (.int u2), .val (.int u3), .val (.int u4), .val (.int u5), .unset, .unset, .unset, .unset, .unset, .unset, .unset, .unset, .unset, .unset, .unset] [(.ref b18), (.ref b18)]))
  refine go _ _ (fun t' k' => XS.bipush X126h.here hx rfl (hb hby at_215) k') ?_
  show G (T126.setTop (mkF m 217 #[.val (.int u0), .val (.int u1), .val (.int u2), .val (.int u3), .val (.int u4), .val (.int u5), .unset, .unset, .unset, .unset, .unset, .unset, .unset, .unset, .unset, .unset, .unset] [(.int (36 : Int32)), (.ref b18), (.ref b18)]))
  refine go _ _ (fun t' k' => XS.bipush X126h.here hx rfl (hb hby at_217) k') ?_
  show G (T126.setTop (mkF m 219 #[.val (.int u0), .val (.int u1), .val (.int u2), .val (.int u3), .val (.int u4), .val (.int u5), .unset, .unset, .unset, .unset, .unset, .unset, .unset, .unset, .unset, .unset, .unset] [(.int (52 : Int32)), (.int (36 : Int32)), (.ref b18), (.ref b18)]))
  refine own_bastore go X126h hx hZ e126 36 rfl (by decide) (g := (mkF m 219 #[.val (.int u0), .val (.int u1), .val (.int u2), .val (.int u3), .val (.int u4), .val (.int u5), .unset, .unset, .unset, .unset, .unset, .unset, .unset, .unset, .unset, .unset, .unset] [(.int (52 : Int32)), (.int (36 : Int32)), (.ref b18), (.ref b18)])) rfl A126c rfl (hb hby at_219) ?_
  intro T129 h129 X129 e129 W129 A129
  have K130 : Keep h0 h129 [] := K127.wr W129 (Or.inr sz_b18)
  obtain ⟨lc129, X129h, N129h⟩ := own_hide X129 (Fr.snoc X129 N126h g_b18)
  have Z131 : n0 ≤ h129.size := Nat.le_trans Z128 (Nat.le_of_eq W129.size.symm)
  have A129c := A129.cong (g := (own_pre 37)) (own_pre_step 36 rfl)
  show G (T129.setTop (mkF m 220 #[.val (.int u0), .val (.int u1), .val (.int u2), .val (.int u3), .val (.int u4), .val (.int u5), .unset, .unset, .unset, .unset, .unset, .unset, .unset, .unset, .unset, .unset, .unset] [(.ref b18)]))
  refine go _ _ (fun t' k' => XS.dup X129h.here hx rfl (hb hby at_220) rfl rfl k') ?_
  show G (T129.setTop (mkF m 221 #[.val (.int u0), .val (.int u1), .val (.int u2), .val (.int u3), .val (.int u4), .val (.int u5), .unset, .unset, .unset, .unset, .unset, .unset, .unset, .unset, .unset, .unset, .unset] [(.ref b18), (.ref b18)]))
  refine go _ _ (fun t' k' => XS.bipush X129h.here hx rfl (hb hby at_221) k') ?_
  show G (T129.setTop (mkF m 223 #[.val (.int u0), .val (.int u1), .val (.int u2), .val (.int u3), .val (.int u4), .val (.int u5), .unset, .unset, .unset, .unset, .unset, .unset, .unset, .unset, .unset, .unset, .unset] [(.int (37 : Int32)), (.ref b18), (.ref b18)]))
  refine go _ _ (fun t' k' => XS.bipush X129h.here hx rfl (hb hby at_223) k') ?_
  show G (T129.setTop (mkF m 225 #[.val (.int u0), .val (.int u1), .val (.int u2), .val (.int u3), .val (.int u4), .val (.int u5), .unset, .unset, .unset, .unset, .unset, .unset, .unset, .unset, .unset, .unset, .unset] [(.int (53 : Int32)), (.int (37 : Int32)), (.ref b18), (.ref b18)]))
  refine own_bastore go X129h hx hZ e129 37 rfl (by decide) (g := (mkF m 225 #[.val (.int u0), .val (.int u1), .val (.int u2), .val (.int u3), .val (.int u4), .val (.int u5), .unset, .unset, .unset, .unset, .unset, .unset, .unset, .unset, .unset, .unset, .unset] [(.int (53 : Int32)), (.int (37 : Int32)), (.ref b18), (.ref b18)])) rfl A129c rfl (hb hby at_225) ?_
  intro T132 h132 X132 e132 W132 A132
  have K133 : Keep h0 h132 [] := K130.wr W132 (Or.inr sz_b18)
  obtain ⟨lc132, X132h, N132h⟩ := own_hide X132 (Fr.snoc X132 N129h g_b18)
  have Z134 : n0 ≤ h132.size := Nat.le_trans Z131 (Nat.le_of_eq W132.size.symm)
  have A132c := A132.cong (g := (own_pre 38)) (own_pre_step 37 rfl)
  show G (T132.setTop (mkF m 226 #[.val (.int u0), .val (.int u1), .val (.int u2), .val (.int u3), .val (.int u4), .val (.int u5), .unset, .unset, .unset, .unset, .unset, .unset, .unset, .unset, .unset, .unset, .unset] [(.ref b18)]))
  refine go _ _ (fun t' k' => XS.dup X132h.here hx rfl (hb hby at_226) rfl rfl k') ?_
  show G (T132.setTop (mkF m 227 #[.val (.int u0), .val (.int u1), .val (.int u2), .val (.int u3), .val (.int u4), .val (.int u5), .unset, .unset, .unset, .unset, .unset, .unset, .unset, .unset, .unset, .unset, .unset] [(.ref b18), (.ref b18)]))
  refine go _ _ (fun t' k' => XS.bipush X132h.here hx rfl (hb hby at_227) k') ?_
  show G (T132.setTop (mkF m 229 #[.val (.int u0), .val (.int u1), .val (.int u2), .val (.int u3), .val (.int u4), .val (.int u5), .unset, .unset, .unset, .unset, .unset, .unset, .unset, .unset, .unset, .unset, .unset] [(.int (38 : Int32)), (.ref b18), (.ref b18)]))
  refine go _ _ (fun t' k' => XS.bipush X132h.here hx rfl (hb hby at_229) k') ?_
  show G (T132.setTop (mkF m 231 #[.val (.int u0), .val (.int u1), .val (.int u2), .val (.int u3), .val (.int u4), .val (.int u5), .unset, .unset, .unset, .unset, .unset, .unset, .unset, .unset, .unset, .unset, .unset] [(.int (54 : Int32)), (.int (38 : Int32)), (.ref b18), (.ref b18)]))
  refine own_bastore go X132h hx hZ e132 38 rfl (by decide) (g := (mkF m 231 #[.val (.int u0), .val (.int u1), .val (.int u2), .val (.int u3), .val (.int u4), .val (.int u5), .unset, .unset, .unset, .unset, .unset, .unset, .unset, .unset, .unset, .unset, .unset] [(.int (54 : Int32)), (.int (38 : Int32)), (.ref b18), (.ref b18)])) rfl A132c rfl (hb hby at_231) ?_
  intro T135 h135 X135 e135 W135 A135
  have K136 : Keep h0 h135 [] := K133.wr W135 (Or.inr sz_b18)
  obtain ⟨lc135, X135h, N135h⟩ := own_hide X135 (Fr.snoc X135 N132h g_b18)
  have Z137 : n0 ≤ h135.size := Nat.le_trans Z134 (Nat.le_of_eq W135.size.symm)
  have A135c := A135.cong (g := (own_pre 39)) (own_pre_step 38 rfl)
  show G (T135.setTop (mkF m 232 #[.val (.int u0), .val (.int u1), .val (.int u2), .val (.int u3), .val (.int u4), .val (.int u5), .unset, .unset, .unset, .unset, .unset, .unset, .unset, .unset, .unset, .unset, .unset] [(.ref b18)]))
  refine go _ _ (fun t' k' => XS.dup X135h.here hx rfl (hb hby at_232) rfl rfl k') ?_
  show G (T135.setTop (mkF m 233 #[.val (.int u0), .val (.int u1), .val (.int u2), .val (.int u3), .val (.int u4), .val (.int u5), .unset, .unset, .unset, .unset, .unset, .unset, .unset, .unset, .unset, .unset, .unset] [(.ref b18), (.ref b18)]))
  refine go _ _ (fun t' k' => XS.bipush X135h.here hx rfl (hb hby at_233) k') ?_
  show G (T135.setTop (mkF m 235 #[.val (.int u0), .val (.int u1), .val (.int u2), .val (.int u3), .val (.int u4), .val (.int u5), .unset, .unset, .unset, .unset, .unset, .unset, .unset, .unset, .unset, .unset, .unset] [(.int (39 : Int32)), (.ref b18), (.ref b18)]))
  refine go _ _ (fun t' k' => XS.bipush X135h.here hx rfl (hb hby at_235) k') ?_
  show G (T135.setTop (mkF m 237 #[.val (.int u0), .val (.int u1), .val (.int u2), .val (.int u3), .val (.int u4), .val (.int u5), .unset, .unset, .unset, .unset, .unset, .unset, .unset, .unset, .unset, .unset, .unset] [(.int (55 : Int32)), (.int (39 : Int32)), (.ref b18), (.ref b18)]))
  refine own_bastore go X135h hx hZ e135 39 rfl (by decide) (g := (mkF m 237 #[.val (.int u0), .val (.int u1), .val (.int u2), .val (.int u3), .val (.int u4), .val (.int u5), .unset, .unset, .unset, .unset, .unset, .unset, .unset, .unset, .unset, .unset, .unset] [(.int (55 : Int32)), (.int (39 : Int32)), (.ref b18), (.ref b18)])) rfl A135c rfl (hb hby at_237) ?_
  intro T138 h138 X138 e138 W138 A138
  have K139 : Keep h0 h138 [] := K136.wr W138 (Or.inr sz_b18)
  obtain ⟨lc138, X138h, N138h⟩ := own_hide X138 (Fr.snoc X138 N135h g_b18)
  have Z140 : n0 ≤ h138.size := Nat.le_trans Z137 (Nat.le_of_eq W138.size.symm)
  have A138c := A138.cong (g := (own_pre 40)) (own_pre_step 39 rfl)
  show G (T138.setTop (mkF m 238 #[.val (.int u0), .val (.int u1), .val (.int u2), .val (.int u3), .val (.int u4), .val (.int u5), .unset, .unset, .unset, .unset, .unset, .unset, .unset, .unset, .unset, .unset, .unset] [(.ref b18)]))
  refine go _ _ (fun t' k' => XS.astore X138h.here hx rfl (hb hby at_238) rfl rfl (l' := #[.val (.int u0), .val (.int u1), .val (.int u2), .val (.int u3), .val (.int u4), .val (.int u5), .val (.ref b18), .unset, .unset, .unset, .unset, .unset, .unset, .unset, .unset, .unset, .unset]) rfl k') ?_
  show G (T138.setTop (mkF m 240 #[.val (.int u0), .val (.int u1), .val (.int u2), .val (.int u3), .val (.int u4), .val (.int u5), .val (.ref b18), .unset, .unset, .unset, .unset, .unset, .unset, .unset, .unset, .unset, .unset] []))
  refine go _ _ (fun t' k' => XS.iloadN X138h.here hx rfl (hb hby at_240) rfl  k') ?_
  show G (T138.setTop (mkF m 241 #[.val (.int u0), .val (.int u1), .val (.int u2), .val (.int u3), .val (.int u4), .val (.int u5), .val (.ref b18), .unset, .unset, .unset, .unset, .unset, .unset, .unset, .unset, .unset, .unset] [(.int u0)]))
  refine go _ _ (fun t' k' => X138h.ldcInt hx hown (mvT hZ (hw _ (List.mem_of_getElem? (i := 1) rfl))) (g := (mkF m 241 #[.val (.int u0), .val (.int u1), .val (.int u2), .val (.int u3), .val (.int u4), .val (.int u5), .val (.ref b18), .unset, .unset, .unset, .unset, .unset, .unset, .unset, .unset, .unset, .unset] [(.int u0)])) rfl (hb hby at_241) _ k') ?_
  show G (T138.setTop (mkF m 243 #[.val (.int u0), .val (.int u1), .val (.int u2), .val (.int u3), .val (.int u4), .val (.int u5), .val (.ref b18), .unset, .unset, .unset, .unset, .unset, .unset, .unset, .unset, .unset, .unset] [(.int (2147483647 : Int32)), (.int u0)]))
  refine go _ _ (fun t' k' => XS.iand X138h.here hx rfl (hb hby at_243) rfl k') ?_
  show G (T138.setTop (mkF m 244 #[.val (.int u0), .val (.int u1), .val (.int u2), .val (.int u3), .val (.int u4), .val (.int u5), .val (.ref b18), .unset, .unset, .unset, .unset, .unset, .unset, .unset, .unset, .unset, .unset] [(.int (u0 &&& (2147483647 : Int32)))]))
  refine go _ _ (fun t' k' => XS.bipush X138h.here hx rfl (hb hby at_244) k') ?_
  show G (T138.setTop (mkF m 246 #[.val (.int u0), .val (.int u1), .val (.int u2), .val (.int u3), .val (.int u4), .val (.int u5), .val (.ref b18), .unset, .unset, .unset, .unset, .unset, .unset, .unset, .unset, .unset, .unset] [(.int (9 : Int32)), (.int (u0 &&& (2147483647 : Int32)))]))
  refine go _ _ (fun t' k' => iremM X138h hx rfl (hb hby at_246) rfl (by decide) k') ?_
  show G (T138.setTop (mkF m 247 #[.val (.int u0), .val (.int u1), .val (.int u2), .val (.int u3), .val (.int u4), .val (.int u5), .val (.ref b18), .unset, .unset, .unset, .unset, .unset, .unset, .unset, .unset, .unset, .unset] [(.int ((u0 &&& (2147483647 : Int32)) % (9 : Int32)))]))
  refine go _ _ (fun t' k' => XS.istore X138h.here hx rfl (hb hby at_247) rfl (l' := #[.val (.int u0), .val (.int u1), .val (.int u2), .val (.int u3), .val (.int u4), .val (.int u5), .val (.ref b18), .val (.int ((u0 &&& (2147483647 : Int32)) % (9 : Int32))), .unset, .unset, .unset, .unset, .unset, .unset, .unset, .unset, .unset]) rfl k') ?_
  show G (T138.setTop (mkF m 249 #[.val (.int u0), .val (.int u1), .val (.int u2), .val (.int u3), .val (.int u4), .val (.int u5), .val (.ref b18), .val (.int ((u0 &&& (2147483647 : Int32)) % (9 : Int32))), .unset, .unset, .unset, .unset, .unset, .unset, .unset, .unset, .unset] []))
  obtain ⟨f7, hf7⟩ : ∃ z, z = ((u0 &&& (2147483647 : Int32)) % (9 : Int32)) := ⟨_, rfl⟩
  rw [← hf7]
  show G (T138.setTop (mkF m 249 #[.val (.int u0), .val (.int u1), .val (.int u2), .val (.int u3), .val (.int u4), .val (.int u5), .val (.ref b18), .val (.int f7), .unset, .unset, .unset, .unset, .unset, .unset, .unset, .unset, .unset] []))
  obtain ⟨fr, hfr, hf9⟩ := own_rem (d := 9) rfl (by decide) hf7
  refine go _ _ (fun t' k' => XS.iloadN X138h.here hx rfl (hb hby at_249) rfl  k') ?_
  show G (T138.setTop (mkF m 250 #[.val (.int u0), .val (.int u1), .val (.int u2), .val (.int u3), .val (.int u4), .val (.int u5), .val (.ref b18), .val (.int f7), .unset, .unset, .unset, .unset, .unset, .unset, .unset, .unset, .unset] [(.int u1)]))
  refine go _ _ (fun t' k' => XS.iconst X138h.here hx rfl (hb hby at_250) k') ?_
  show G (T138.setTop (mkF m 251 #[.val (.int u0), .val (.int u1), .val (.int u2), .val (.int u3), .val (.int u4), .val (.int u5), .val (.ref b18), .val (.int f7), .unset, .unset, .unset, .unset, .unset, .unset, .unset, .unset, .unset] [(.int (1 : Int32)), (.int u1)]))
  refine go _ _ (fun t' k' => XS.iand X138h.here hx rfl (hb hby at_251) rfl k') ?_
  show G (T138.setTop (mkF m 252 #[.val (.int u0), .val (.int u1), .val (.int u2), .val (.int u3), .val (.int u4), .val (.int u5), .val (.ref b18), .val (.int f7), .unset, .unset, .unset, .unset, .unset, .unset, .unset, .unset, .unset] [(.int (u1 &&& (1 : Int32)))]))
  have J263 : ∀ (T : State) (locs : List Loc), Stand p l e room_1 s m #[(.int u0), (.int u1), (.int u2), (.int u3), (.int u4), (.int u5)] below meth c T locs 1 40 → T.heap = h138 → Fr n0 locs → ∀ (dd : Int32), G (T.setTop (mkF m 263 #[.val (.int u0), .val (.int u1), .val (.int u2), .val (.int u3), .val (.int u4), .val (.int u5), .val (.ref b18), .val (.int f7), .unset, .unset, .unset, .unset, .unset, .unset, .unset, .unset, .unset] [(.int dd)])) := by
    intro T141 locs141 X141 e141 N141j dd 
    show G (T141.setTop (mkF m 263 #[.val (.int u0), .val (.int u1), .val (.int u2), .val (.int u3), .val (.int u4), .val (.int u5), .val (.ref b18), .val (.int f7), .unset, .unset, .unset, .unset, .unset, .unset, .unset, .unset, .unset] [(.int dd)]))
    refine go _ _ (fun t' k' => XS.istore X141.here hx rfl (hb hby at_263) rfl (l' := #[.val (.int u0), .val (.int u1), .val (.int u2), .val (.int u3), .val (.int u4), .val (.int u5), .val (.ref b18), .val (.int f7), .val (.int dd), .unset, .unset, .unset, .unset, .unset, .unset, .unset, .unset]) rfl k') ?_
    show G (T141.setTop (mkF m 265 #[.val (.int u0), .val (.int u1), .val (.int u2), .val (.int u3), .val (.int u4), .val (.int u5), .val (.ref b18), .val (.int f7), .val (.int dd), .unset, .unset, .unset, .unset, .unset, .unset, .unset, .unset] []))
    refine go _ _ (fun t' k' => XS.iload X141.here hx rfl (hb hby at_265) rfl  k') ?_
    show G (T141.setTop (mkF m 267 #[.val (.int u0), .val (.int u1), .val (.int u2), .val (.int u3), .val (.int u4), .val (.int u5), .val (.ref b18), .val (.int f7), .val (.int dd), .unset, .unset, .unset, .unset, .unset, .unset, .unset, .unset] [(.int f7)]))
    refine go _ _ (fun t' k' => XS.iload X141.here hx rfl (hb hby at_267) rfl  k') ?_
    show G (T141.setTop (mkF m 269 #[.val (.int u0), .val (.int u1), .val (.int u2), .val (.int u3), .val (.int u4), .val (.int u5), .val (.ref b18), .val (.int f7), .val (.int dd), .unset, .unset, .unset, .unset, .unset, .unset, .unset, .unset] [(.int dd), (.int f7)]))
    refine go _ _ (fun t' k' => XS.iadd X141.here hx rfl (hb hby at_269) rfl k') ?_
    show G (T141.setTop (mkF m 270 #[.val (.int u0), .val (.int u1), .val (.int u2), .val (.int u3), .val (.int u4), .val (.int u5), .val (.ref b18), .val (.int f7), .val (.int dd), .unset, .unset, .unset, .unset, .unset, .unset, .unset, .unset] [(.int (f7 + dd))]))
    refine go _ _ (fun t' k' => XS.istore X141.here hx rfl (hb hby at_270) rfl (l' := #[.val (.int u0), .val (.int u1), .val (.int u2), .val (.int u3), .val (.int u4), .val (.int u5), .val (.ref b18), .val (.int f7), .val (.int dd), .val (.int (f7 + dd)), .unset, .unset, .unset, .unset, .unset, .unset, .unset]) rfl k') ?_
    show G (T141.setTop (mkF m 272 #[.val (.int u0), .val (.int u1), .val (.int u2), .val (.int u3), .val (.int u4), .val (.int u5), .val (.ref b18), .val (.int f7), .val (.int dd), .val (.int (f7 + dd)), .unset, .unset, .unset, .unset, .unset, .unset, .unset] []))
    refine go _ _ (fun t' k' => XS.iloadN X141.here hx rfl (hb hby at_272) rfl  k') ?_
    show G (T141.setTop (mkF m 273 #[.val (.int u0), .val (.int u1), .val (.int u2), .val (.int u3), .val (.int u4), .val (.int u5), .val (.ref b18), .val (.int f7), .val (.int dd), .val (.int (f7 + dd)), .unset, .unset, .unset, .unset, .unset, .unset, .unset] [(.int u2)]))
    refine go _ _ (fun t' k' => X141.ldcInt hx hown (mvT hZ (hw _ (List.mem_of_getElem? (i := 1) rfl))) (g := (mkF m 273 #[.val (.int u0), .val (.int u1), .val (.int u2), .val (.int u3), .val (.int u4), .val (.int u5), .val (.ref b18), .val (.int f7), .val (.int dd), .val (.int (f7 + dd)), .unset, .unset, .unset, .unset, .unset, .unset, .unset] [(.int u2)])) rfl (hb hby at_273) _ k') ?_
    show G (T141.setTop (mkF m 275 #[.val (.int u0), .val (.int u1), .val (.int u2), .val (.int u3), .val (.int u4), .val (.int u5), .val (.ref b18), .val (.int f7), .val (.int dd), .val (.int (f7 + dd)), .unset, .unset, .unset, .unset, .unset, .unset, .unset] [(.int (2147483647 : Int32)), (.int u2)]))
    refine go _ _ (fun t' k' => XS.iand X141.here hx rfl (hb hby at_275) rfl k') ?_
    show G (T141.setTop (mkF m 276 #[.val (.int u0), .val (.int u1), .val (.int u2), .val (.int u3), .val (.int u4), .val (.int u5), .val (.ref b18), .val (.int f7), .val (.int dd), .val (.int (f7 + dd)), .unset, .unset, .unset, .unset, .unset, .unset, .unset] [(.int (u2 &&& (2147483647 : Int32)))]))
    refine go _ _ (fun t' k' => XS.bipush X141.here hx rfl (hb hby at_276) k') ?_
    show G (T141.setTop (mkF m 278 #[.val (.int u0), .val (.int u1), .val (.int u2), .val (.int u3), .val (.int u4), .val (.int u5), .val (.ref b18), .val (.int f7), .val (.int dd), .val (.int (f7 + dd)), .unset, .unset, .unset, .unset, .unset, .unset, .unset] [(.int (40 : Int32)), (.int (u2 &&& (2147483647 : Int32)))]))
    refine go _ _ (fun t' k' => iremM X141 hx rfl (hb hby at_278) rfl (by decide) k') ?_
    show G (T141.setTop (mkF m 279 #[.val (.int u0), .val (.int u1), .val (.int u2), .val (.int u3), .val (.int u4), .val (.int u5), .val (.ref b18), .val (.int f7), .val (.int dd), .val (.int (f7 + dd)), .unset, .unset, .unset, .unset, .unset, .unset, .unset] [(.int ((u2 &&& (2147483647 : Int32)) % (40 : Int32)))]))
    refine go _ _ (fun t' k' => XS.istore X141.here hx rfl (hb hby at_279) rfl (l' := #[.val (.int u0), .val (.int u1), .val (.int u2), .val (.int u3), .val (.int u4), .val (.int u5), .val (.ref b18), .val (.int f7), .val (.int dd), .val (.int (f7 + dd)), .val (.int ((u2 &&& (2147483647 : Int32)) % (40 : Int32))), .unset, .unset, .unset, .unset, .unset, .unset]) rfl k') ?_
    show G (T141.setTop (mkF m 281 #[.val (.int u0), .val (.int u1), .val (.int u2), .val (.int u3), .val (.int u4), .val (.int u5), .val (.ref b18), .val (.int f7), .val (.int dd), .val (.int (f7 + dd)), .val (.int ((u2 &&& (2147483647 : Int32)) % (40 : Int32))), .unset, .unset, .unset, .unset, .unset, .unset] []))
    refine go _ _ (fun t' k' => XS.iload X141.here hx rfl (hb hby at_281) rfl  k') ?_
    show G (T141.setTop (mkF m 283 #[.val (.int u0), .val (.int u1), .val (.int u2), .val (.int u3), .val (.int u4), .val (.int u5), .val (.ref b18), .val (.int f7), .val (.int dd), .val (.int (f7 + dd)), .val (.int ((u2 &&& (2147483647 : Int32)) % (40 : Int32))), .unset, .unset, .unset, .unset, .unset, .unset] [(.int u4)]))
    refine go _ _ (fun t' k' => X141.ldcInt hx hown (mvT hZ (hw _ (List.mem_of_getElem? (i := 1) rfl))) (g := (mkF m 283 #[.val (.int u0), .val (.int u1), .val (.int u2), .val (.int u3), .val (.int u4), .val (.int u5), .val (.ref b18), .val (.int f7), .val (.int dd), .val (.int (f7 + dd)), .val (.int ((u2 &&& (2147483647 : Int32)) % (40 : Int32))), .unset, .unset, .unset, .unset, .unset, .unset] [(.int u4)])) rfl (hb hby at_283) _ k') ?_
    show G (T141.setTop (mkF m 285 #[.val (.int u0), .val (.int u1), .val (.int u2), .val (.int u3), .val (.int u4), .val (.int u5), .val (.ref b18), .val (.int f7), .val (.int dd), .val (.int (f7 + dd)), .val (.int ((u2 &&& (2147483647 : Int32)) % (40 : Int32))), .unset, .unset, .unset, .unset, .unset, .unset] [(.int (2147483647 : Int32)), (.int u4)]))
    refine go _ _ (fun t' k' => XS.iand X141.here hx rfl (hb hby at_285) rfl k') ?_
    show G (T141.setTop (mkF m 286 #[.val (.int u0), .val (.int u1), .val (.int u2), .val (.int u3), .val (.int u4), .val (.int u5), .val (.ref b18), .val (.int f7), .val (.int dd), .val (.int (f7 + dd)), .val (.int ((u2 &&& (2147483647 : Int32)) % (40 : Int32))), .unset, .unset, .unset, .unset, .unset, .unset] [(.int (u4 &&& (2147483647 : Int32)))]))
    refine go _ _ (fun t' k' => XS.bipush X141.here hx rfl (hb hby at_286) k') ?_
    show G (T141.setTop (mkF m 288 #[.val (.int u0), .val (.int u1), .val (.int u2), .val (.int u3), .val (.int u4), .val (.int u5), .val (.ref b18), .val (.int f7), .val (.int dd), .val (.int (f7 + dd)), .val (.int ((u2 &&& (2147483647 : Int32)) % (40 : Int32))), .unset, .unset, .unset, .unset, .unset, .unset] [(.int (40 : Int32)), (.int (u4 &&& (2147483647 : Int32)))]))
    refine go _ _ (fun t' k' => iremM X141 hx rfl (hb hby at_288) rfl (by decide) k') ?_
    show G (T141.setTop (mkF m 289 #[.val (.int u0), .val (.int u1), .val (.int u2), .val (.int u3), .val (.int u4), .val (.int u5), .val (.ref b18), .val (.int f7), .val (.int dd), .val (.int (f7 + dd)), .val (.int ((u2 &&& (2147483647 : Int32)) % (40 : Int32))), .unset, .unset, .unset, .unset, .unset, .unset] [(.int ((u4 &&& (2147483647 : Int32)) % (40 : Int32)))]))
    refine go _ _ (fun t' k' => XS.istore X141.here hx rfl (hb hby at_289) rfl (l' := #[.val (.int u0), .val (.int u1), .val (.int u2), .val (.int u3), .val (.int u4), .val (.int u5), .val (.ref b18), .val (.int f7), .val (.int dd), .val (.int (f7 + dd)), .val (.int ((u2 &&& (2147483647 : Int32)) % (40 : Int32))), .val (.int ((u4 &&& (2147483647 : Int32)) % (40 : Int32))), .unset, .unset, .unset, .unset, .unset]) rfl k') ?_
    show G (T141.setTop (mkF m 291 #[.val (.int u0), .val (.int u1), .val (.int u2), .val (.int u3), .val (.int u4), .val (.int u5), .val (.ref b18), .val (.int f7), .val (.int dd), .val (.int (f7 + dd)), .val (.int ((u2 &&& (2147483647 : Int32)) % (40 : Int32))), .val (.int ((u4 &&& (2147483647 : Int32)) % (40 : Int32))), .unset, .unset, .unset, .unset, .unset] []))
    obtain ⟨q1, hq1⟩ : ∃ z, z = ((u2 &&& (2147483647 : Int32)) % (40 : Int32)) := ⟨_, rfl⟩
    rw [← hq1]
    show G (T141.setTop (mkF m 291 #[.val (.int u0), .val (.int u1), .val (.int u2), .val (.int u3), .val (.int u4), .val (.int u5), .val (.ref b18), .val (.int f7), .val (.int dd), .val (.int (f7 + dd)), .val (.int q1), .val (.int ((u4 &&& (2147483647 : Int32)) % (40 : Int32))), .unset, .unset, .unset, .unset, .unset] []))
    obtain ⟨q2, hq2⟩ : ∃ z, z = ((u4 &&& (2147483647 : Int32)) % (40 : Int32)) := ⟨_, rfl⟩
    rw [← hq2]
    show G (T141.setTop (mkF m 291 #[.val (.int u0), .val (.int u1), .val (.int u2), .val (.int u3), .val (.int u4), .val (.int u5), .val (.ref b18), .val (.int f7), .val (.int dd), .val (.int (f7 + dd)), .val (.int q1), .val (.int q2), .unset, .unset, .unset, .unset, .unset] []))
    obtain ⟨i1, hi1, li1⟩ := own_rem (d := 40) rfl (by decide) hq1
    obtain ⟨i2, hi2, li2⟩ := own_rem (d := 40) rfl (by decide) hq2
    refine go _ _ (fun t' k' => XS.iloadN X141.here hx rfl (hb hby at_291) rfl  k') ?_
    show G (T141.setTop (mkF m 292 #[.val (.int u0), .val (.int u1), .val (.int u2), .val (.int u3), .val (.int u4), .val (.int u5), .val (.ref b18), .val (.int f7), .val (.int dd), .val (.int (f7 + dd)), .val (.int q1), .val (.int q2), .unset, .unset, .unset, .unset, .unset] [(.int u3)]))
    refine go _ _ (fun t' k' => XS.i2b X141.here hx rfl (hb hby at_292) rfl k') ?_
    show G (T141.setTop (mkF m 293 #[.val (.int u0), .val (.int u1), .val (.int u2), .val (.int u3), .val (.int u4), .val (.int u5), .val (.ref b18), .val (.int f7), .val (.int dd), .val (.int (f7 + dd)), .val (.int q1), .val (.int q2), .unset, .unset, .unset, .unset, .unset] [(.int (u3.toInt8.toInt32))]))
    refine go _ _ (fun t' k' => XS.istore X141.here hx rfl (hb hby at_293) rfl (l' := #[.val (.int u0), .val (.int u1), .val (.int u2), .val (.int u3), .val (.int u4), .val (.int u5), .val (.ref b18), .val (.int f7), .val (.int dd), .val (.int (f7 + dd)), .val (.int q1), .val (.int q2), .val (.int (u3.toInt8.toInt32)), .unset, .unset, .unset, .unset]) rfl k') ?_
    show G (T141.setTop (mkF m 295 #[.val (.int u0), .val (.int u1), .val (.int u2), .val (.int u3), .val (.int u4), .val (.int u5), .val (.ref b18), .val (.int f7), .val (.int dd), .val (.int (f7 + dd)), .val (.int q1), .val (.int q2), .val (.int (u3.toInt8.toInt32)), .unset, .unset, .unset, .unset] []))
    refine go _ _ (fun t' k' => XS.iload X141.here hx rfl (hb hby at_295) rfl  k') ?_
    show G (T141.setTop (mkF m 297 #[.val (.int u0), .val (.int u1), .val (.int u2), .val (.int u3), .val (.int u4), .val (.int u5), .val (.ref b18), .val (.int f7), .val (.int dd), .val (.int (f7 + dd)), .val (.int q1), .val (.int q2), .val (.int (u3.toInt8.toInt32)), .unset, .unset, .unset, .unset] [(.int u5)]))
    refine go _ _ (fun t' k' => XS.i2b X141.here hx rfl (hb hby at_297) rfl k') ?_
    show G (T141.setTop (mkF m 298 #[.val (.int u0), .val (.int u1), .val (.int u2), .val (.int u3), .val (.int u4), .val (.int u5), .val (.ref b18), .val (.int f7), .val (.int dd), .val (.int (f7 + dd)), .val (.int q1), .val (.int q2), .val (.int (u3.toInt8.toInt32)), .unset, .unset, .unset, .unset] [(.int (u5.toInt8.toInt32))]))
    refine go _ _ (fun t' k' => XS.istore X141.here hx rfl (hb hby at_298) rfl (l' := #[.val (.int u0), .val (.int u1), .val (.int u2), .val (.int u3), .val (.int u4), .val (.int u5), .val (.ref b18), .val (.int f7), .val (.int dd), .val (.int (f7 + dd)), .val (.int q1), .val (.int q2), .val (.int (u3.toInt8.toInt32)), .val (.int (u5.toInt8.toInt32)), .unset, .unset, .unset]) rfl k') ?_
    show G (T141.setTop (mkF m 300 #[.val (.int u0), .val (.int u1), .val (.int u2), .val (.int u3), .val (.int u4), .val (.int u5), .val (.ref b18), .val (.int f7), .val (.int dd), .val (.int (f7 + dd)), .val (.int q1), .val (.int q2), .val (.int (u3.toInt8.toInt32)), .val (.int (u5.toInt8.toInt32)), .unset, .unset, .unset] []))
    obtain ⟨b1, hb1⟩ : ∃ z, z = (u3.toInt8.toInt32) := ⟨_, rfl⟩
    rw [← hb1]
    show G (T141.setTop (mkF m 300 #[.val (.int u0), .val (.int u1), .val (.int u2), .val (.int u3), .val (.int u4), .val (.int u5), .val (.ref b18), .val (.int f7), .val (.int dd), .val (.int (f7 + dd)), .val (.int q1), .val (.int q2), .val (.int b1), .val (.int (u5.toInt8.toInt32)), .unset, .unset, .unset] []))
    obtain ⟨b2, hb2⟩ : ∃ z, z = (u5.toInt8.toInt32) := ⟨_, rfl⟩
    rw [← hb2]
    show G (T141.setTop (mkF m 300 #[.val (.int u0), .val (.int u1), .val (.int u2), .val (.int u3), .val (.int u4), .val (.int u5), .val (.ref b18), .val (.int f7), .val (.int dd), .val (.int (f7 + dd)), .val (.int q1), .val (.int q2), .val (.int b1), .val (.int b2), .unset, .unset, .unset] []))
    refine go _ _ (fun t' k' => XS.aload X141.here hx rfl (hb hby at_300) rfl rfl  k') ?_
    show G (T141.setTop (mkF m 302 #[.val (.int u0), .val (.int u1), .val (.int u2), .val (.int u3), .val (.int u4), .val (.int u5), .val (.ref b18), .val (.int f7), .val (.int dd), .val (.int (f7 + dd)), .val (.int q1), .val (.int q2), .val (.int b1), .val (.int b2), .unset, .unset, .unset] [(.ref b18)]))
    refine go _ _ (fun t' k' => XS.iload X141.here hx rfl (hb hby at_302) rfl  k') ?_
    show G (T141.setTop (mkF m 304 #[.val (.int u0), .val (.int u1), .val (.int u2), .val (.int u3), .val (.int u4), .val (.int u5), .val (.ref b18), .val (.int f7), .val (.int dd), .val (.int (f7 + dd)), .val (.int q1), .val (.int q2), .val (.int b1), .val (.int b2), .unset, .unset, .unset] [(.int q1), (.ref b18)]))
    refine go _ _ (fun t' k' => XS.iload X141.here hx rfl (hb hby at_304) rfl  k') ?_
    show G (T141.setTop (mkF m 306 #[.val (.int u0), .val (.int u1), .val (.int u2), .val (.int u3), .val (.int u4), .val (.int u5), .val (.ref b18), .val (.int f7), .val (.int dd), .val (.int (f7 + dd)), .val (.int q1), .val (.int q2), .val (.int b1), .val (.int b2), .unset, .unset, .unset] [(.int b1), (.int q1), (.ref b18)]))
    refine own_bastore go X141 hx hZ e141 i1 hi1 (by omega) (g := (mkF m 306 #[.val (.int u0), .val (.int u1), .val (.int u2), .val (.int u3), .val (.int u4), .val (.int u5), .val (.ref b18), .val (.int f7), .val (.int dd), .val (.int (f7 + dd)), .val (.int q1), .val (.int q2), .val (.int b1), .val (.int b2), .unset, .unset, .unset] [(.int b1), (.int q1), (.ref b18)])) rfl A138c rfl (hb hby at_306) ?_
    intro T142 h142 X142 e142 W142 A142
    have K143 : Keep h0 h142 [] := K139.wr W142 (Or.inr sz_b18)
    obtain ⟨lc142, X142h, N142h⟩ := own_hide X142 (Fr.snoc X142 N141j g_b18)
    have Z144 : n0 ≤ h142.size := Nat.le_trans Z140 (Nat.le_of_eq W142.size.symm)
    show G (T142.setTop (mkF m 307 #[.val (.int u0), .val (.int u1), .val (.int u2), .val (.int u3), .val (.int u4), .val (.int u5), .val (.ref b18), .val (.int f7), .val (.int dd), .val (.int (f7 + dd)), .val (.int q1), .val (.int q2), .val (.int b1), .val (.int b2), .unset, .unset, .unset] []))
    refine go _ _ (fun t' k' => XS.aload X142h.here hx rfl (hb hby at_307) rfl rfl  k') ?_
    show G (T142.setTop (mkF m 309 #[.val (.int u0), .val (.int u1), .val (.int u2), .val (.int u3), .val (.int u4), .val (.int u5), .val (.ref b18), .val (.int f7), .val (.int dd), .val (.int (f7 + dd)), .val (.int q1), .val (.int q2), .val (.int b1), .val (.int b2), .unset, .unset, .unset] [(.ref b18)]))
    refine go _ _ (fun t' k' => XS.iload X142h.here hx rfl (hb hby at_309) rfl  k') ?_
    show G (T142.setTop (mkF m 311 #[.val (.int u0), .val (.int u1), .val (.int u2), .val (.int u3), .val (.int u4), .val (.int u5), .val (.ref b18), .val (.int f7), .val (.int dd), .val (.int (f7 + dd)), .val (.int q1), .val (.int q2), .val (.int b1), .val (.int b2), .unset, .unset, .unset] [(.int q2), (.ref b18)]))
    refine go _ _ (fun t' k' => XS.iload X142h.here hx rfl (hb hby at_311) rfl  k') ?_
    show G (T142.setTop (mkF m 313 #[.val (.int u0), .val (.int u1), .val (.int u2), .val (.int u3), .val (.int u4), .val (.int u5), .val (.ref b18), .val (.int f7), .val (.int dd), .val (.int (f7 + dd)), .val (.int q1), .val (.int q2), .val (.int b1), .val (.int b2), .unset, .unset, .unset] [(.int b2), (.int q2), (.ref b18)]))
    refine own_bastore go X142h hx hZ e142 i2 hi2 (by omega) (g := (mkF m 313 #[.val (.int u0), .val (.int u1), .val (.int u2), .val (.int u3), .val (.int u4), .val (.int u5), .val (.ref b18), .val (.int f7), .val (.int dd), .val (.int (f7 + dd)), .val (.int q1), .val (.int q2), .val (.int b1), .val (.int b2), .unset, .unset, .unset] [(.int b2), (.int q2), (.ref b18)])) rfl A142 rfl (hb hby at_313) ?_
    intro T145 h145 X145 e145 W145 A145
    have K146 : Keep h0 h145 [] := K143.wr W145 (Or.inr sz_b18)
    obtain ⟨lc145, X145h, N145h⟩ := own_hide X145 (Fr.snoc X145 N142h g_b18)
    have Z147 : n0 ≤ h145.size := Nat.le_trans Z144 (Nat.le_of_eq W145.size.symm)
    have A145c := A145.cong (g := (fun q => .int (gg i1 i2 b1 b2 q))) (own_gg hb1 hb2)
    show G (T145.setTop (mkF m 314 #[.val (.int u0), .val (.int u1), .val (.int u2), .val (.int u3), .val (.int u4), .val (.int u5), .val (.ref b18), .val (.int f7), .val (.int dd), .val (.int (f7 + dd)), .val (.int q1), .val (.int q2), .val (.int b1), .val (.int b2), .unset, .unset, .unset] []))
    have J344 : ∀ (T : State) (locs : List Loc), Stand p l e room_1 s m #[(.int u0), (.int u1), (.int u2), (.int u3), (.int u4), (.int u5)] below meth c T locs 1 40 → T.heap = h145 → Fr n0 locs → ∀ (b14 : Int32), (b14 = (if q1 = q2 ∨ (q1 < f7 ∨ ¬ q1 < f7 + 32) ∨ hexB b1 = true then 1 else 0)) → G (T.setTop (mkF m 344 #[.val (.int u0), .val (.int u1), .val (.int u2), .val (.int u3), .val (.int u4), .val (.int u5), .val (.ref b18), .val (.int f7), .val (.int dd), .val (.int (f7 + dd)), .val (.int q1), .val (.int q2), .val (.int b1), .val (.int b2), .unset, .unset, .unset] [(.int b14)])) := by
      intro T148 locs148 X148 e148 N148j b14 h14
      show G (T148.setTop (mkF m 344 #[.val (.int u0), .val (.int u1), .val (.int u2), .val (.int u3), .val (.int u4), .val (.int u5), .val (.ref b18), .val (.int f7), .val (.int dd), .val (.int (f7 + dd)), .val (.int q1), .val (.int q2), .val (.int b1), .val (.int b2), .unset, .unset, .unset] [(.int b14)]))
      refine go _ _ (fun t' k' => XS.istore X148.here hx rfl (hb hby at_344) rfl (l' := #[.val (.int u0), .val (.int u1), .val (.int u2), .val (.int u3), .val (.int u4), .val (.int u5), .val (.ref b18), .val (.int f7), .val (.int dd), .val (.int (f7 + dd)), .val (.int q1), .val (.int q2), .val (.int b1), .val (.int b2), .val (.int b14), .unset, .unset]) rfl k') ?_
      show G (T148.setTop (mkF m 346 #[.val (.int u0), .val (.int u1), .val (.int u2), .val (.int u3), .val (.int u4), .val (.int u5), .val (.ref b18), .val (.int f7), .val (.int dd), .val (.int (f7 + dd)), .val (.int q1), .val (.int q2), .val (.int b1), .val (.int b2), .val (.int b14), .unset, .unset] []))
      have J369 : ∀ (T : State) (locs : List Loc), Stand p l e room_1 s m #[(.int u0), (.int u1), (.int u2), (.int u3), (.int u4), (.int u5)] below meth c T locs 1 40 → T.heap = h145 → Fr n0 locs → ∀ (b15 : Int32), (b15 = (if (q2 < f7 ∨ ¬ q2 < f7 + 32) ∨ hexB b2 = true then 1 else 0)) → G (T.setTop (mkF m 369 #[.val (.int u0), .val (.int u1), .val (.int u2), .val (.int u3), .val (.int u4), .val (.int u5), .val (.ref b18), .val (.int f7), .val (.int dd), .val (.int (f7 + dd)), .val (.int q1), .val (.int q2), .val (.int b1), .val (.int b2), .val (.int b14), .unset, .unset] [(.int b15)])) := by
        intro T149 locs149 X149 e149 N149j b15 h15
        show G (T149.setTop (mkF m 369 #[.val (.int u0), .val (.int u1), .val (.int u2), .val (.int u3), .val (.int u4), .val (.int u5), .val (.ref b18), .val (.int f7), .val (.int dd), .val (.int (f7 + dd)), .val (.int q1), .val (.int q2), .val (.int b1), .val (.int b2), .val (.int b14), .unset, .unset] [(.int b15)]))
        refine go _ _ (fun t' k' => XS.istore X149.here hx rfl (hb hby at_369) rfl (l' := #[.val (.int u0), .val (.int u1), .val (.int u2), .val (.int u3), .val (.int u4), .val (.int u5), .val (.ref b18), .val (.int f7), .val (.int dd), .val (.int (f7 + dd)), .val (.int q1), .val (.int q2), .val (.int b1), .val (.int b2), .val (.int b14), .val (.int b15), .unset]) rfl k') ?_
        show G (T149.setTop (mkF m 371 #[.val (.int u0), .val (.int u1), .val (.int u2), .val (.int u3), .val (.int u4), .val (.int u5), .val (.ref b18), .val (.int f7), .val (.int dd), .val (.int (f7 + dd)), .val (.int q1), .val (.int q2), .val (.int b1), .val (.int b2), .val (.int b14), .val (.int b15), .unset] []))
        have J393 : ∀ (T : State) (locs : List Loc), Stand p l e room_1 s m #[(.int u0), (.int u1), (.int u2), (.int u3), (.int u4), (.int u5)] below meth c T locs 1 40 → T.heap = h145 → Fr n0 locs → ∀ (b16 : Int32), (b16 = (if dd = 32 ∧ ¬ b14 = 0 ∧ ¬ b15 = 0 then 1 else 0)) → G (T.setTop (mkF m 393 #[.val (.int u0), .val (.int u1), .val (.int u2), .val (.int u3), .val (.int u4), .val (.int u5), .val (.ref b18), .val (.int f7), .val (.int dd), .val (.int (f7 + dd)), .val (.int q1), .val (.int q2), .val (.int b1), .val (.int b2), .val (.int b14), .val (.int b15), .unset] [(.int b16)])) := by
          intro T150 locs150 X150 e150 N150j b16 h16
          show G (T150.setTop (mkF m 393 #[.val (.int u0), .val (.int u1), .val (.int u2), .val (.int u3), .val (.int u4), .val (.int u5), .val (.ref b18), .val (.int f7), .val (.int dd), .val (.int (f7 + dd)), .val (.int q1), .val (.int q2), .val (.int b1), .val (.int b2), .val (.int b14), .val (.int b15), .unset] [(.int b16)]))
          refine go _ _ (fun t' k' => XS.istore X150.here hx rfl (hb hby at_393) rfl (l' := #[.val (.int u0), .val (.int u1), .val (.int u2), .val (.int u3), .val (.int u4), .val (.int u5), .val (.ref b18), .val (.int f7), .val (.int dd), .val (.int (f7 + dd)), .val (.int q1), .val (.int q2), .val (.int b1), .val (.int b2), .val (.int b14), .val (.int b15), .val (.int b16)]) rfl k') ?_
          show G (T150.setTop (mkF m 395 #[.val (.int u0), .val (.int u1), .val (.int u2), .val (.int u3), .val (.int u4), .val (.int u5), .val (.ref b18), .val (.int f7), .val (.int dd), .val (.int (f7 + dd)), .val (.int q1), .val (.int q2), .val (.int b1), .val (.int b2), .val (.int b14), .val (.int b15), .val (.int b16)] []))
          refine go _ _ (fun t' k' => XS.aload X150.here hx rfl (hb hby at_395) rfl rfl  k') ?_
          show G (T150.setTop (mkF m 397 #[.val (.int u0), .val (.int u1), .val (.int u2), .val (.int u3), .val (.int u4), .val (.int u5), .val (.ref b18), .val (.int f7), .val (.int dd), .val (.int (f7 + dd)), .val (.int q1), .val (.int q2), .val (.int b1), .val (.int b2), .val (.int b14), .val (.int b15), .val (.int b16)] [(.ref b18)]))
          refine go _ _ (fun t' k' => XS.iload X150.here hx rfl (hb hby at_397) rfl  k') ?_
          show G (T150.setTop (mkF m 399 #[.val (.int u0), .val (.int u1), .val (.int u2), .val (.int u3), .val (.int u4), .val (.int u5), .val (.ref b18), .val (.int f7), .val (.int dd), .val (.int (f7 + dd)), .val (.int q1), .val (.int q2), .val (.int b1), .val (.int b2), .val (.int b14), .val (.int b15), .val (.int b16)] [(.int f7), (.ref b18)]))
          refine go _ _ (fun t' k' => XS.iload X150.here hx rfl (hb hby at_399) rfl  k') ?_
          show G (T150.setTop (mkF m 401 #[.val (.int u0), .val (.int u1), .val (.int u2), .val (.int u3), .val (.int u4), .val (.int u5), .val (.ref b18), .val (.int f7), .val (.int dd), .val (.int (f7 + dd)), .val (.int q1), .val (.int q2), .val (.int b1), .val (.int b2), .val (.int b14), .val (.int b15), .val (.int b16)] [(.int (f7 + dd)), (.int f7), (.ref b18)]))
          refine own_static go X150 hx hZ e150 hown (hw _ (List.mem_of_getElem? (i := 9) rfl)) (hw _ (List.mem_of_getElem? (i := 10) rfl)) (hw _ (List.mem_of_getElem? (i := 11) rfl)) (hw _ (List.mem_of_getElem? (i := 12) rfl)) (by decide) (rm3 l Z a0 hw b18 f7 (f7 + dd) (gg i1 i2 b1 b2) fr h145 n0 Z147 A145c hfr (by omega)) 0 (by decide) (by decide) (by decide) (by decide) (g := (mkF m 401 #[.val (.int u0), .val (.int u1), .val (.int u2), .val (.int u3), .val (.int u4), .val (.int u5), .val (.ref b18), .val (.int f7), .val (.int dd), .val (.int (f7 + dd)), .val (.int q1), .val (.int q2), .val (.int b1), .val (.int b2), .val (.int b14), .val (.int b15), .val (.int b16)] [(.int (f7 + dd)), (.int f7), (.ref b18)])) rfl (by rw [hml]; rfl) [(.ref b18), (.int f7), (.int (f7 + dd))] [] rfl (lenOf pd_0 rfl) rfl (by show 2 * 0 + _ ≤ _; exact Nat.le_of_eq rfl) (hb hby at_401) ?_
          intro T151 L151 v151 X151 q151
          obtain ⟨rfl, N151, hh151⟩ := q151
          obtain ⟨lc151, X151h, N151h⟩ := own_hide X151 (Fr.app N150j N151)
          show G (T151.setTop (mkF m 404 #[.val (.int u0), .val (.int u1), .val (.int u2), .val (.int u3), .val (.int u4), .val (.int u5), .val (.ref b18), .val (.int f7), .val (.int dd), .val (.int (f7 + dd)), .val (.int q1), .val (.int q2), .val (.int b1), .val (.int b2), .val (.int b14), .val (.int b15), .val (.int b16)] [(.int (if (f7 + dd) - f7 = 32 ∧ allHex (gg i1 i2 b1 b2) fr 32 = true then (1 : Int32) else 0))]))
          refine go _ _ (fun t' k' => XS.iload X151h.here hx rfl (hb hby at_404) rfl  k') ?_
          show G (T151.setTop (mkF m 406 #[.val (.int u0), .val (.int u1), .val (.int u2), .val (.int u3), .val (.int u4), .val (.int u5), .val (.ref b18), .val (.int f7), .val (.int dd), .val (.int (f7 + dd)), .val (.int q1), .val (.int q2), .val (.int b1), .val (.int b2), .val (.int b14), .val (.int b15), .val (.int b16)] [(.int b16), (.int (if (f7 + dd) - f7 = 32 ∧ allHex (gg i1 i2 b1 b2) fr 32 = true then (1 : Int32) else 0))]))
          refine go _ _ (fun t' k' => XS.icmpNo X151h.here hx rfl (hb hby at_406) rfl (Free.XT.ii_ne_f ((own_final hi1 hi2 (by omega) (by omega) hfr (by omega) h14 h15).trans h16.symm)) k') ?_
          show G (T151.setTop (mkF m 409 #[.val (.int u0), .val (.int u1), .val (.int u2), .val (.int u3), .val (.int u4), .val (.int u5), .val (.ref b18), .val (.int f7), .val (.int dd), .val (.int (f7 + dd)), .val (.int q1), .val (.int q2), .val (.int b1), .val (.int b2), .val (.int b14), .val (.int b15), .val (.int b16)] []))
          refine go _ _ (fun t' k' => XS.iconst X151h.here hx rfl (hb hby at_409) k') ?_
          show G (T151.setTop (mkF m 410 #[.val (.int u0), .val (.int u1), .val (.int u2), .val (.int u3), .val (.int u4), .val (.int u5), .val (.ref b18), .val (.int f7), .val (.int dd), .val (.int (f7 + dd)), .val (.int q1), .val (.int q2), .val (.int b1), .val (.int b2), .val (.int b14), .val (.int b15), .val (.int b16)] [(.int (1 : Int32))]))
          refine go _ _ (fun t' k' => XS.goto X151h.here hx rfl (pc0 := 410) (pc' := 414) rfl (hb hby at_410) (by decide) (by decide) k') ?_
          show G (T151.setTop (mkF m 414 #[.val (.int u0), .val (.int u1), .val (.int u2), .val (.int u3), .val (.int u4), .val (.int u5), .val (.ref b18), .val (.int f7), .val (.int dd), .val (.int (f7 + dd)), .val (.int q1), .val (.int q2), .val (.int b1), .val (.int b2), .val (.int b14), .val (.int b15), .val (.int b16)] [(.int (1 : Int32))]))
          refine own_retZ rt X151h hx (t := .boolean) hret (by simp) (hb hby at_414) (by decide) (by decide) ?_
          exact ⟨rfl, N151h⟩
        refine go _ _ (fun t' k' => XS.iload X149.here hx rfl (hb hby at_371) rfl  k') ?_
        show G (T149.setTop (mkF m 373 #[.val (.int u0), .val (.int u1), .val (.int u2), .val (.int u3), .val (.int u4), .val (.int u5), .val (.ref b18), .val (.int f7), .val (.int dd), .val (.int (f7 + dd)), .val (.int q1), .val (.int q2), .val (.int b1), .val (.int b2), .val (.int b14), .val (.int b15), .unset] [(.int dd)]))
        refine go _ _ (fun t' k' => XS.bipush X149.here hx rfl (hb hby at_373) k') ?_
        show G (T149.setTop (mkF m 375 #[.val (.int u0), .val (.int u1), .val (.int u2), .val (.int u3), .val (.int u4), .val (.int u5), .val (.ref b18), .val (.int f7), .val (.int dd), .val (.int (f7 + dd)), .val (.int q1), .val (.int q2), .val (.int b1), .val (.int b2), .val (.int b14), .val (.int b15), .unset] [(.int (32 : Int32)), (.int dd)]))
        by_cases c152 : dd = (32 : Int32)
        · refine go _ _ (fun t' k' => XS.icmpNo X149.here hx rfl (hb hby at_375) rfl (Free.XT.ii_ne_f c152) k') ?_
          show G (T149.setTop (mkF m 378 #[.val (.int u0), .val (.int u1), .val (.int u2), .val (.int u3), .val (.int u4), .val (.int u5), .val (.ref b18), .val (.int f7), .val (.int dd), .val (.int (f7 + dd)), .val (.int q1), .val (.int q2), .val (.int b1), .val (.int b2), .val (.int b14), .val (.int b15), .unset] []))
          refine go _ _ (fun t' k' => XS.iload X149.here hx rfl (hb hby at_378) rfl  k') ?_
          show G (T149.setTop (mkF m 380 #[.val (.int u0), .val (.int u1), .val (.int u2), .val (.int u3), .val (.int u4), .val (.int u5), .val (.ref b18), .val (.int f7), .val (.int dd), .val (.int (f7 + dd)), .val (.int q1), .val (.int q2), .val (.int b1), .val (.int b2), .val (.int b14), .val (.int b15), .unset] [(.int b14)]))
          by_cases c153 : b14 = (0 : Int32)
          · refine go _ _ (fun t' k' => XS.ifYes X149.here hx rfl (pc0 := 380) (pc' := 392) rfl (hb hby at_380) rfl (Free.XT.i0_eq_t c153) (by decide) (by decide) k') ?_
            show G (T149.setTop (mkF m 392 #[.val (.int u0), .val (.int u1), .val (.int u2), .val (.int u3), .val (.int u4), .val (.int u5), .val (.ref b18), .val (.int f7), .val (.int dd), .val (.int (f7 + dd)), .val (.int q1), .val (.int q2), .val (.int b1), .val (.int b2), .val (.int b14), .val (.int b15), .unset] []))
            refine go _ _ (fun t' k' => XS.iconst X149.here hx rfl (hb hby at_392) k') ?_
            show G (T149.setTop (mkF m 393 #[.val (.int u0), .val (.int u1), .val (.int u2), .val (.int u3), .val (.int u4), .val (.int u5), .val (.ref b18), .val (.int f7), .val (.int dd), .val (.int (f7 + dd)), .val (.int q1), .val (.int q2), .val (.int b1), .val (.int b2), .val (.int b14), .val (.int b15), .unset] [(.int (0 : Int32))]))
            exact J393 T149 _ X149 e149 N149j _ (by (try simp only [own_ite_z, Decidable.not_not] at c152 c153); first | (simp only [c152, c153, or_false, false_or, or_true, true_or, not_true, not_false_iff, and_true, true_and, and_false, false_and, or_self, and_self, if_true, if_false]; done) | (simp [c152, c153]; done) | (exact (if_neg (fun z => by rcases z with z | z <;> first | contradiction | (rcases z with z | z <;> contradiction))).symm))
          · refine go _ _ (fun t' k' => XS.ifNo X149.here hx rfl (hb hby at_380) rfl (Free.XT.i0_eq_f c153) k') ?_
            show G (T149.setTop (mkF m 383 #[.val (.int u0), .val (.int u1), .val (.int u2), .val (.int u3), .val (.int u4), .val (.int u5), .val (.ref b18), .val (.int f7), .val (.int dd), .val (.int (f7 + dd)), .val (.int q1), .val (.int q2), .val (.int b1), .val (.int b2), .val (.int b14), .val (.int b15), .unset] []))
            refine go _ _ (fun t' k' => XS.iload X149.here hx rfl (hb hby at_383) rfl  k') ?_
            show G (T149.setTop (mkF m 385 #[.val (.int u0), .val (.int u1), .val (.int u2), .val (.int u3), .val (.int u4), .val (.int u5), .val (.ref b18), .val (.int f7), .val (.int dd), .val (.int (f7 + dd)), .val (.int q1), .val (.int q2), .val (.int b1), .val (.int b2), .val (.int b14), .val (.int b15), .unset] [(.int b15)]))
            by_cases c154 : b15 = (0 : Int32)
            · refine go _ _ (fun t' k' => XS.ifYes X149.here hx rfl (pc0 := 385) (pc' := 392) rfl (hb hby at_385) rfl (Free.XT.i0_eq_t c154) (by decide) (by decide) k') ?_
              show G (T149.setTop (mkF m 392 #[.val (.int u0), .val (.int u1), .val (.int u2), .val (.int u3), .val (.int u4), .val (.int u5), .val (.ref b18), .val (.int f7), .val (.int dd), .val (.int (f7 + dd)), .val (.int q1), .val (.int q2), .val (.int b1), .val (.int b2), .val (.int b14), .val (.int b15), .unset] []))
              refine go _ _ (fun t' k' => XS.iconst X149.here hx rfl (hb hby at_392) k') ?_
              show G (T149.setTop (mkF m 393 #[.val (.int u0), .val (.int u1), .val (.int u2), .val (.int u3), .val (.int u4), .val (.int u5), .val (.ref b18), .val (.int f7), .val (.int dd), .val (.int (f7 + dd)), .val (.int q1), .val (.int q2), .val (.int b1), .val (.int b2), .val (.int b14), .val (.int b15), .unset] [(.int (0 : Int32))]))
              exact J393 T149 _ X149 e149 N149j _ (by (try simp only [own_ite_z, Decidable.not_not] at c152 c153 c154); first | (simp only [c152, c153, c154, or_false, false_or, or_true, true_or, not_true, not_false_iff, and_true, true_and, and_false, false_and, or_self, and_self, if_true, if_false]; done) | (simp [c152, c153, c154]; done) | (exact (if_neg (fun z => by rcases z with z | z <;> first | contradiction | (rcases z with z | z <;> contradiction))).symm))
            · refine go _ _ (fun t' k' => XS.ifNo X149.here hx rfl (hb hby at_385) rfl (Free.XT.i0_eq_f c154) k') ?_
              show G (T149.setTop (mkF m 388 #[.val (.int u0), .val (.int u1), .val (.int u2), .val (.int u3), .val (.int u4), .val (.int u5), .val (.ref b18), .val (.int f7), .val (.int dd), .val (.int (f7 + dd)), .val (.int q1), .val (.int q2), .val (.int b1), .val (.int b2), .val (.int b14), .val (.int b15), .unset] []))
              refine go _ _ (fun t' k' => XS.iconst X149.here hx rfl (hb hby at_388) k') ?_
              show G (T149.setTop (mkF m 389 #[.val (.int u0), .val (.int u1), .val (.int u2), .val (.int u3), .val (.int u4), .val (.int u5), .val (.ref b18), .val (.int f7), .val (.int dd), .val (.int (f7 + dd)), .val (.int q1), .val (.int q2), .val (.int b1), .val (.int b2), .val (.int b14), .val (.int b15), .unset] [(.int (1 : Int32))]))
              refine go _ _ (fun t' k' => XS.goto X149.here hx rfl (pc0 := 389) (pc' := 393) rfl (hb hby at_389) (by decide) (by decide) k') ?_
              show G (T149.setTop (mkF m 393 #[.val (.int u0), .val (.int u1), .val (.int u2), .val (.int u3), .val (.int u4), .val (.int u5), .val (.ref b18), .val (.int f7), .val (.int dd), .val (.int (f7 + dd)), .val (.int q1), .val (.int q2), .val (.int b1), .val (.int b2), .val (.int b14), .val (.int b15), .unset] [(.int (1 : Int32))]))
              exact J393 T149 _ X149 e149 N149j _ (by (try simp only [own_ite_z, Decidable.not_not] at c152 c153 c154); first | (simp only [c152, c153, c154, or_false, false_or, or_true, true_or, not_true, not_false_iff, and_true, true_and, and_false, false_and, or_self, and_self, if_true, if_false]; done) | (simp [c152, c153, c154]; done) | (exact (if_neg (fun z => by rcases z with z | z <;> first | contradiction | (rcases z with z | z <;> contradiction))).symm))
        · refine go _ _ (fun t' k' => XS.icmpYes X149.here hx rfl (pc0 := 375) (pc' := 392) rfl (hb hby at_375) rfl (Free.XT.ii_ne_t c152) (by decide) (by decide) k') ?_
          show G (T149.setTop (mkF m 392 #[.val (.int u0), .val (.int u1), .val (.int u2), .val (.int u3), .val (.int u4), .val (.int u5), .val (.ref b18), .val (.int f7), .val (.int dd), .val (.int (f7 + dd)), .val (.int q1), .val (.int q2), .val (.int b1), .val (.int b2), .val (.int b14), .val (.int b15), .unset] []))
          refine go _ _ (fun t' k' => XS.iconst X149.here hx rfl (hb hby at_392) k') ?_
          show G (T149.setTop (mkF m 393 #[.val (.int u0), .val (.int u1), .val (.int u2), .val (.int u3), .val (.int u4), .val (.int u5), .val (.ref b18), .val (.int f7), .val (.int dd), .val (.int (f7 + dd)), .val (.int q1), .val (.int q2), .val (.int b1), .val (.int b2), .val (.int b14), .val (.int b15), .unset] [(.int (0 : Int32))]))
          exact J393 T149 _ X149 e149 N149j _ (by (try simp only [own_ite_z, Decidable.not_not] at c152); first | (simp only [c152, or_false, false_or, or_true, true_or, not_true, not_false_iff, and_true, true_and, and_false, false_and, or_self, and_self, if_true, if_false]; done) | (simp [c152]; done) | (exact (if_neg (fun z => by rcases z with z | z <;> first | contradiction | (rcases z with z | z <;> contradiction))).symm))
      refine go _ _ (fun t' k' => XS.iload X148.here hx rfl (hb hby at_346) rfl  k') ?_
      show G (T148.setTop (mkF m 348 #[.val (.int u0), .val (.int u1), .val (.int u2), .val (.int u3), .val (.int u4), .val (.int u5), .val (.ref b18), .val (.int f7), .val (.int dd), .val (.int (f7 + dd)), .val (.int q1), .val (.int q2), .val (.int b1), .val (.int b2), .val (.int b14), .unset, .unset] [(.int q2)]))
      refine go _ _ (fun t' k' => XS.iload X148.here hx rfl (hb hby at_348) rfl  k') ?_
      show G (T148.setTop (mkF m 350 #[.val (.int u0), .val (.int u1), .val (.int u2), .val (.int u3), .val (.int u4), .val (.int u5), .val (.ref b18), .val (.int f7), .val (.int dd), .val (.int (f7 + dd)), .val (.int q1), .val (.int q2), .val (.int b1), .val (.int b2), .val (.int b14), .unset, .unset] [(.int f7), (.int q2)]))
      refine own_static go X148 hx hZ e148 hown (hw _ (List.mem_of_getElem? (i := 2) rfl)) (hw _ (List.mem_of_getElem? (i := 3) rfl)) (hw _ (List.mem_of_getElem? (i := 4) rfl)) (hw _ (List.mem_of_getElem? (i := 5) rfl)) (by decide) (rm1 l Z a0 hw q2 f7 h145 n0 Z147) 0 (by decide) (by decide) (by decide) (by decide) (g := (mkF m 350 #[.val (.int u0), .val (.int u1), .val (.int u2), .val (.int u3), .val (.int u4), .val (.int u5), .val (.ref b18), .val (.int f7), .val (.int dd), .val (.int (f7 + dd)), .val (.int q1), .val (.int q2), .val (.int b1), .val (.int b2), .val (.int b14), .unset, .unset] [(.int f7), (.int q2)])) rfl (by rw [hml]; rfl) [(.int q2), (.int f7)] [] rfl (lenOf pd_1 rfl) rfl (by show 2 * 0 + _ ≤ _; exact Nat.le_of_eq rfl) (hb hby at_350) ?_
      intro T155 L155 v155 X155 q155
      obtain ⟨rfl, N155, hh155⟩ := q155
      obtain ⟨lc155, X155h, N155h⟩ := own_hide X155 (Fr.app N148j N155)
      show G (T155.setTop (mkF m 353 #[.val (.int u0), .val (.int u1), .val (.int u2), .val (.int u3), .val (.int u4), .val (.int u5), .val (.ref b18), .val (.int f7), .val (.int dd), .val (.int (f7 + dd)), .val (.int q1), .val (.int q2), .val (.int b1), .val (.int b2), .val (.int b14), .unset, .unset] [(.int (if q2 < f7 ∨ ¬ q2 < f7 + 32 then (1 : Int32) else 0))]))
      by_cases c156 : (if q2 < f7 ∨ ¬ q2 < f7 + 32 then (1 : Int32) else 0) = (0 : Int32)
      · refine go _ _ (fun t' k' => XS.ifNo X155h.here hx rfl (hb hby at_353) rfl (Free.XT.i0_ne_f c156) k') ?_
        show G (T155.setTop (mkF m 356 #[.val (.int u0), .val (.int u1), .val (.int u2), .val (.int u3), .val (.int u4), .val (.int u5), .val (.ref b18), .val (.int f7), .val (.int dd), .val (.int (f7 + dd)), .val (.int q1), .val (.int q2), .val (.int b1), .val (.int b2), .val (.int b14), .unset, .unset] []))
        refine go _ _ (fun t' k' => XS.iload X155h.here hx rfl (hb hby at_356) rfl  k') ?_
        show G (T155.setTop (mkF m 358 #[.val (.int u0), .val (.int u1), .val (.int u2), .val (.int u3), .val (.int u4), .val (.int u5), .val (.ref b18), .val (.int f7), .val (.int dd), .val (.int (f7 + dd)), .val (.int q1), .val (.int q2), .val (.int b1), .val (.int b2), .val (.int b14), .unset, .unset] [(.int b2)]))
        refine own_static go X155h hx hZ hh155 hown (hw _ (List.mem_of_getElem? (i := 6) rfl)) (hw _ (List.mem_of_getElem? (i := 7) rfl)) (hw _ (List.mem_of_getElem? (i := 4) rfl)) (hw _ (List.mem_of_getElem? (i := 8) rfl)) (by decide) (rm2 l Z a0 hw b2 h145 n0 Z147) 0 (by decide) (by decide) (by decide) (by decide) (g := (mkF m 358 #[.val (.int u0), .val (.int u1), .val (.int u2), .val (.int u3), .val (.int u4), .val (.int u5), .val (.ref b18), .val (.int f7), .val (.int dd), .val (.int (f7 + dd)), .val (.int q1), .val (.int q2), .val (.int b1), .val (.int b2), .val (.int b14), .unset, .unset] [(.int b2)])) rfl (by rw [hml]; rfl) [(.int b2)] [] rfl (lenOf pd_2 rfl) rfl (by show 2 * 0 + _ ≤ _; exact Nat.le_of_eq rfl) (hb hby at_358) ?_
        intro T157 L157 v157 X157 q157
        obtain ⟨rfl, N157, hh157⟩ := q157
        obtain ⟨lc157, X157h, N157h⟩ := own_hide X157 (Fr.app N155h N157)
        show G (T157.setTop (mkF m 361 #[.val (.int u0), .val (.int u1), .val (.int u2), .val (.int u3), .val (.int u4), .val (.int u5), .val (.ref b18), .val (.int f7), .val (.int dd), .val (.int (f7 + dd)), .val (.int q1), .val (.int q2), .val (.int b1), .val (.int b2), .val (.int b14), .unset, .unset] [(.int (if hexB b2 = true then (1 : Int32) else 0))]))
        by_cases c158 : (if hexB b2 = true then (1 : Int32) else 0) = (0 : Int32)
        · refine go _ _ (fun t' k' => XS.ifYes X157h.here hx rfl (pc0 := 361) (pc' := 368) rfl (hb hby at_361) rfl (Free.XT.i0_eq_t c158) (by decide) (by decide) k') ?_
          show G (T157.setTop (mkF m 368 #[.val (.int u0), .val (.int u1), .val (.int u2), .val (.int u3), .val (.int u4), .val (.int u5), .val (.ref b18), .val (.int f7), .val (.int dd), .val (.int (f7 + dd)), .val (.int q1), .val (.int q2), .val (.int b1), .val (.int b2), .val (.int b14), .unset, .unset] []))
          refine go _ _ (fun t' k' => XS.iconst X157h.here hx rfl (hb hby at_368) k') ?_
          show G (T157.setTop (mkF m 369 #[.val (.int u0), .val (.int u1), .val (.int u2), .val (.int u3), .val (.int u4), .val (.int u5), .val (.ref b18), .val (.int f7), .val (.int dd), .val (.int (f7 + dd)), .val (.int q1), .val (.int q2), .val (.int b1), .val (.int b2), .val (.int b14), .unset, .unset] [(.int (0 : Int32))]))
          exact J369 T157 _ X157h hh157 N157h _ (by (try simp only [own_ite_z, Decidable.not_not] at c156 c158); first | (simp only [c156, c158, or_false, false_or, or_true, true_or, not_true, not_false_iff, and_true, true_and, and_false, false_and, or_self, and_self, if_true, if_false]; done) | (simp [c156, c158]; done) | (exact (if_neg (fun z => by rcases z with z | z <;> first | contradiction | (rcases z with z | z <;> contradiction))).symm))
        · refine go _ _ (fun t' k' => XS.ifNo X157h.here hx rfl (hb hby at_361) rfl (Free.XT.i0_eq_f c158) k') ?_
          show G (T157.setTop (mkF m 364 #[.val (.int u0), .val (.int u1), .val (.int u2), .val (.int u3), .val (.int u4), .val (.int u5), .val (.ref b18), .val (.int f7), .val (.int dd), .val (.int (f7 + dd)), .val (.int q1), .val (.int q2), .val (.int b1), .val (.int b2), .val (.int b14), .unset, .unset] []))
          refine go _ _ (fun t' k' => XS.iconst X157h.here hx rfl (hb hby at_364) k') ?_
          show G (T157.setTop (mkF m 365 #[.val (.int u0), .val (.int u1), .val (.int u2), .val (.int u3), .val (.int u4), .val (.int u5), .val (.ref b18), .val (.int f7), .val (.int dd), .val (.int (f7 + dd)), .val (.int q1), .val (.int q2), .val (.int b1), .val (.int b2), .val (.int b14), .unset, .unset] [(.int (1 : Int32))]))
          refine go _ _ (fun t' k' => XS.goto X157h.here hx rfl (pc0 := 365) (pc' := 369) rfl (hb hby at_365) (by decide) (by decide) k') ?_
          show G (T157.setTop (mkF m 369 #[.val (.int u0), .val (.int u1), .val (.int u2), .val (.int u3), .val (.int u4), .val (.int u5), .val (.ref b18), .val (.int f7), .val (.int dd), .val (.int (f7 + dd)), .val (.int q1), .val (.int q2), .val (.int b1), .val (.int b2), .val (.int b14), .unset, .unset] [(.int (1 : Int32))]))
          exact J369 T157 _ X157h hh157 N157h _ (by (try simp only [own_ite_z, Decidable.not_not] at c156 c158); first | (simp only [c156, c158, or_false, false_or, or_true, true_or, not_true, not_false_iff, and_true, true_and, and_false, false_and, or_self, and_self, if_true, if_false]; done) | (simp [c156, c158]; done) | (exact (if_neg (fun z => by rcases z with z | z <;> first | contradiction | (rcases z with z | z <;> contradiction))).symm))
      · refine go _ _ (fun t' k' => XS.ifYes X155h.here hx rfl (pc0 := 353) (pc' := 364) rfl (hb hby at_353) rfl (Free.XT.i0_ne_t c156) (by decide) (by decide) k') ?_
        show G (T155.setTop (mkF m 364 #[.val (.int u0), .val (.int u1), .val (.int u2), .val (.int u3), .val (.int u4), .val (.int u5), .val (.ref b18), .val (.int f7), .val (.int dd), .val (.int (f7 + dd)), .val (.int q1), .val (.int q2), .val (.int b1), .val (.int b2), .val (.int b14), .unset, .unset] []))
        refine go _ _ (fun t' k' => XS.iconst X155h.here hx rfl (hb hby at_364) k') ?_
        show G (T155.setTop (mkF m 365 #[.val (.int u0), .val (.int u1), .val (.int u2), .val (.int u3), .val (.int u4), .val (.int u5), .val (.ref b18), .val (.int f7), .val (.int dd), .val (.int (f7 + dd)), .val (.int q1), .val (.int q2), .val (.int b1), .val (.int b2), .val (.int b14), .unset, .unset] [(.int (1 : Int32))]))
        refine go _ _ (fun t' k' => XS.goto X155h.here hx rfl (pc0 := 365) (pc' := 369) rfl (hb hby at_365) (by decide) (by decide) k') ?_
        show G (T155.setTop (mkF m 369 #[.val (.int u0), .val (.int u1), .val (.int u2), .val (.int u3), .val (.int u4), .val (.int u5), .val (.ref b18), .val (.int f7), .val (.int dd), .val (.int (f7 + dd)), .val (.int q1), .val (.int q2), .val (.int b1), .val (.int b2), .val (.int b14), .unset, .unset] [(.int (1 : Int32))]))
        exact J369 T155 _ X155h hh155 N155h _ (by (try simp only [own_ite_z, Decidable.not_not] at c156); first | (simp only [c156, or_false, false_or, or_true, true_or, not_true, not_false_iff, and_true, true_and, and_false, false_and, or_self, and_self, if_true, if_false]; done) | (simp [c156]; done) | (exact (if_neg (fun z => by rcases z with z | z <;> first | contradiction | (rcases z with z | z <;> contradiction))).symm))
    refine go _ _ (fun t' k' => XS.iload X145h.here hx rfl (hb hby at_314) rfl  k') ?_
    show G (T145.setTop (mkF m 316 #[.val (.int u0), .val (.int u1), .val (.int u2), .val (.int u3), .val (.int u4), .val (.int u5), .val (.ref b18), .val (.int f7), .val (.int dd), .val (.int (f7 + dd)), .val (.int q1), .val (.int q2), .val (.int b1), .val (.int b2), .unset, .unset, .unset] [(.int q1)]))
    refine go _ _ (fun t' k' => XS.iload X145h.here hx rfl (hb hby at_316) rfl  k') ?_
    show G (T145.setTop (mkF m 318 #[.val (.int u0), .val (.int u1), .val (.int u2), .val (.int u3), .val (.int u4), .val (.int u5), .val (.ref b18), .val (.int f7), .val (.int dd), .val (.int (f7 + dd)), .val (.int q1), .val (.int q2), .val (.int b1), .val (.int b2), .unset, .unset, .unset] [(.int q2), (.int q1)]))
    by_cases c159 : q1 = q2
    · refine go _ _ (fun t' k' => XS.icmpYes X145h.here hx rfl (pc0 := 318) (pc' := 339) rfl (hb hby at_318) rfl (Free.XT.ii_eq_t c159) (by decide) (by decide) k') ?_
      show G (T145.setTop (mkF m 339 #[.val (.int u0), .val (.int u1), .val (.int u2), .val (.int u3), .val (.int u4), .val (.int u5), .val (.ref b18), .val (.int f7), .val (.int dd), .val (.int (f7 + dd)), .val (.int q1), .val (.int q2), .val (.int b1), .val (.int b2), .unset, .unset, .unset] []))
      refine go _ _ (fun t' k' => XS.iconst X145h.here hx rfl (hb hby at_339) k') ?_
      show G (T145.setTop (mkF m 340 #[.val (.int u0), .val (.int u1), .val (.int u2), .val (.int u3), .val (.int u4), .val (.int u5), .val (.ref b18), .val (.int f7), .val (.int dd), .val (.int (f7 + dd)), .val (.int q1), .val (.int q2), .val (.int b1), .val (.int b2), .unset, .unset, .unset] [(.int (1 : Int32))]))
      refine go _ _ (fun t' k' => XS.goto X145h.here hx rfl (pc0 := 340) (pc' := 344) rfl (hb hby at_340) (by decide) (by decide) k') ?_
      show G (T145.setTop (mkF m 344 #[.val (.int u0), .val (.int u1), .val (.int u2), .val (.int u3), .val (.int u4), .val (.int u5), .val (.ref b18), .val (.int f7), .val (.int dd), .val (.int (f7 + dd)), .val (.int q1), .val (.int q2), .val (.int b1), .val (.int b2), .unset, .unset, .unset] [(.int (1 : Int32))]))
      exact J344 T145 _ X145h e145 N145h _ (by (try simp only [own_ite_z, Decidable.not_not] at c159); first | (simp only [c159, or_false, false_or, or_true, true_or, not_true, not_false_iff, and_true, true_and, and_false, false_and, or_self, and_self, if_true, if_false]; done) | (simp [c159]; done) | (exact (if_neg (fun z => by rcases z with z | z <;> first | contradiction | (rcases z with z | z <;> contradiction))).symm))
    · refine go _ _ (fun t' k' => XS.icmpNo X145h.here hx rfl (hb hby at_318) rfl (Free.XT.ii_eq_f c159) k') ?_
      show G (T145.setTop (mkF m 321 #[.val (.int u0), .val (.int u1), .val (.int u2), .val (.int u3), .val (.int u4), .val (.int u5), .val (.ref b18), .val (.int f7), .val (.int dd), .val (.int (f7 + dd)), .val (.int q1), .val (.int q2), .val (.int b1), .val (.int b2), .unset, .unset, .unset] []))
      refine go _ _ (fun t' k' => XS.iload X145h.here hx rfl (hb hby at_321) rfl  k') ?_
      show G (T145.setTop (mkF m 323 #[.val (.int u0), .val (.int u1), .val (.int u2), .val (.int u3), .val (.int u4), .val (.int u5), .val (.ref b18), .val (.int f7), .val (.int dd), .val (.int (f7 + dd)), .val (.int q1), .val (.int q2), .val (.int b1), .val (.int b2), .unset, .unset, .unset] [(.int q1)]))
      refine go _ _ (fun t' k' => XS.iload X145h.here hx rfl (hb hby at_323) rfl  k') ?_
      show G (T145.setTop (mkF m 325 #[.val (.int u0), .val (.int u1), .val (.int u2), .val (.int u3), .val (.int u4), .val (.int u5), .val (.ref b18), .val (.int f7), .val (.int dd), .val (.int (f7 + dd)), .val (.int q1), .val (.int q2), .val (.int b1), .val (.int b2), .unset, .unset, .unset] [(.int f7), (.int q1)]))
      refine own_static go X145h hx hZ e145 hown (hw _ (List.mem_of_getElem? (i := 2) rfl)) (hw _ (List.mem_of_getElem? (i := 3) rfl)) (hw _ (List.mem_of_getElem? (i := 4) rfl)) (hw _ (List.mem_of_getElem? (i := 5) rfl)) (by decide) (rm1 l Z a0 hw q1 f7 h145 n0 Z147) 0 (by decide) (by decide) (by decide) (by decide) (g := (mkF m 325 #[.val (.int u0), .val (.int u1), .val (.int u2), .val (.int u3), .val (.int u4), .val (.int u5), .val (.ref b18), .val (.int f7), .val (.int dd), .val (.int (f7 + dd)), .val (.int q1), .val (.int q2), .val (.int b1), .val (.int b2), .unset, .unset, .unset] [(.int f7), (.int q1)])) rfl (by rw [hml]; rfl) [(.int q1), (.int f7)] [] rfl (lenOf pd_1 rfl) rfl (by show 2 * 0 + _ ≤ _; exact Nat.le_of_eq rfl) (hb hby at_325) ?_
      intro T160 L160 v160 X160 q160
      obtain ⟨rfl, N160, hh160⟩ := q160
      obtain ⟨lc160, X160h, N160h⟩ := own_hide X160 (Fr.app N145h N160)
      show G (T160.setTop (mkF m 328 #[.val (.int u0), .val (.int u1), .val (.int u2), .val (.int u3), .val (.int u4), .val (.int u5), .val (.ref b18), .val (.int f7), .val (.int dd), .val (.int (f7 + dd)), .val (.int q1), .val (.int q2), .val (.int b1), .val (.int b2), .unset, .unset, .unset] [(.int (if q1 < f7 ∨ ¬ q1 < f7 + 32 then (1 : Int32) else 0))]))
      by_cases c161 : (if q1 < f7 ∨ ¬ q1 < f7 + 32 then (1 : Int32) else 0) = (0 : Int32)
      · refine go _ _ (fun t' k' => XS.ifNo X160h.here hx rfl (hb hby at_328) rfl (Free.XT.i0_ne_f c161) k') ?_
        show G (T160.setTop (mkF m 331 #[.val (.int u0), .val (.int u1), .val (.int u2), .val (.int u3), .val (.int u4), .val (.int u5), .val (.ref b18), .val (.int f7), .val (.int dd), .val (.int (f7 + dd)), .val (.int q1), .val (.int q2), .val (.int b1), .val (.int b2), .unset, .unset, .unset] []))
        refine go _ _ (fun t' k' => XS.iload X160h.here hx rfl (hb hby at_331) rfl  k') ?_
        show G (T160.setTop (mkF m 333 #[.val (.int u0), .val (.int u1), .val (.int u2), .val (.int u3), .val (.int u4), .val (.int u5), .val (.ref b18), .val (.int f7), .val (.int dd), .val (.int (f7 + dd)), .val (.int q1), .val (.int q2), .val (.int b1), .val (.int b2), .unset, .unset, .unset] [(.int b1)]))
        refine own_static go X160h hx hZ hh160 hown (hw _ (List.mem_of_getElem? (i := 6) rfl)) (hw _ (List.mem_of_getElem? (i := 7) rfl)) (hw _ (List.mem_of_getElem? (i := 4) rfl)) (hw _ (List.mem_of_getElem? (i := 8) rfl)) (by decide) (rm2 l Z a0 hw b1 h145 n0 Z147) 0 (by decide) (by decide) (by decide) (by decide) (g := (mkF m 333 #[.val (.int u0), .val (.int u1), .val (.int u2), .val (.int u3), .val (.int u4), .val (.int u5), .val (.ref b18), .val (.int f7), .val (.int dd), .val (.int (f7 + dd)), .val (.int q1), .val (.int q2), .val (.int b1), .val (.int b2), .unset, .unset, .unset] [(.int b1)])) rfl (by rw [hml]; rfl) [(.int b1)] [] rfl (lenOf pd_2 rfl) rfl (by show 2 * 0 + _ ≤ _; exact Nat.le_of_eq rfl) (hb hby at_333) ?_
        intro T162 L162 v162 X162 q162
        obtain ⟨rfl, N162, hh162⟩ := q162
        obtain ⟨lc162, X162h, N162h⟩ := own_hide X162 (Fr.app N160h N162)
        show G (T162.setTop (mkF m 336 #[.val (.int u0), .val (.int u1), .val (.int u2), .val (.int u3), .val (.int u4), .val (.int u5), .val (.ref b18), .val (.int f7), .val (.int dd), .val (.int (f7 + dd)), .val (.int q1), .val (.int q2), .val (.int b1), .val (.int b2), .unset, .unset, .unset] [(.int (if hexB b1 = true then (1 : Int32) else 0))]))
        by_cases c163 : (if hexB b1 = true then (1 : Int32) else 0) = (0 : Int32)
        · refine go _ _ (fun t' k' => XS.ifYes X162h.here hx rfl (pc0 := 336) (pc' := 343) rfl (hb hby at_336) rfl (Free.XT.i0_eq_t c163) (by decide) (by decide) k') ?_
          show G (T162.setTop (mkF m 343 #[.val (.int u0), .val (.int u1), .val (.int u2), .val (.int u3), .val (.int u4), .val (.int u5), .val (.ref b18), .val (.int f7), .val (.int dd), .val (.int (f7 + dd)), .val (.int q1), .val (.int q2), .val (.int b1), .val (.int b2), .unset, .unset, .unset] []))
          refine go _ _ (fun t' k' => XS.iconst X162h.here hx rfl (hb hby at_343) k') ?_
          show G (T162.setTop (mkF m 344 #[.val (.int u0), .val (.int u1), .val (.int u2), .val (.int u3), .val (.int u4), .val (.int u5), .val (.ref b18), .val (.int f7), .val (.int dd), .val (.int (f7 + dd)), .val (.int q1), .val (.int q2), .val (.int b1), .val (.int b2), .unset, .unset, .unset] [(.int (0 : Int32))]))
          exact J344 T162 _ X162h hh162 N162h _ (by (try simp only [own_ite_z, Decidable.not_not] at c159 c161 c163); first | (simp only [c159, c161, c163, or_false, false_or, or_true, true_or, not_true, not_false_iff, and_true, true_and, and_false, false_and, or_self, and_self, if_true, if_false]; done) | (simp [c159, c161, c163]; done) | (exact (if_neg (fun z => by rcases z with z | z <;> first | contradiction | (rcases z with z | z <;> contradiction))).symm))
        · refine go _ _ (fun t' k' => XS.ifNo X162h.here hx rfl (hb hby at_336) rfl (Free.XT.i0_eq_f c163) k') ?_
          show G (T162.setTop (mkF m 339 #[.val (.int u0), .val (.int u1), .val (.int u2), .val (.int u3), .val (.int u4), .val (.int u5), .val (.ref b18), .val (.int f7), .val (.int dd), .val (.int (f7 + dd)), .val (.int q1), .val (.int q2), .val (.int b1), .val (.int b2), .unset, .unset, .unset] []))
          refine go _ _ (fun t' k' => XS.iconst X162h.here hx rfl (hb hby at_339) k') ?_
          show G (T162.setTop (mkF m 340 #[.val (.int u0), .val (.int u1), .val (.int u2), .val (.int u3), .val (.int u4), .val (.int u5), .val (.ref b18), .val (.int f7), .val (.int dd), .val (.int (f7 + dd)), .val (.int q1), .val (.int q2), .val (.int b1), .val (.int b2), .unset, .unset, .unset] [(.int (1 : Int32))]))
          refine go _ _ (fun t' k' => XS.goto X162h.here hx rfl (pc0 := 340) (pc' := 344) rfl (hb hby at_340) (by decide) (by decide) k') ?_
          show G (T162.setTop (mkF m 344 #[.val (.int u0), .val (.int u1), .val (.int u2), .val (.int u3), .val (.int u4), .val (.int u5), .val (.ref b18), .val (.int f7), .val (.int dd), .val (.int (f7 + dd)), .val (.int q1), .val (.int q2), .val (.int b1), .val (.int b2), .unset, .unset, .unset] [(.int (1 : Int32))]))
          exact J344 T162 _ X162h hh162 N162h _ (by (try simp only [own_ite_z, Decidable.not_not] at c159 c161 c163); first | (simp only [c159, c161, c163, or_false, false_or, or_true, true_or, not_true, not_false_iff, and_true, true_and, and_false, false_and, or_self, and_self, if_true, if_false]; done) | (simp [c159, c161, c163]; done) | (exact (if_neg (fun z => by rcases z with z | z <;> first | contradiction | (rcases z with z | z <;> contradiction))).symm))
      · refine go _ _ (fun t' k' => XS.ifYes X160h.here hx rfl (pc0 := 328) (pc' := 339) rfl (hb hby at_328) rfl (Free.XT.i0_ne_t c161) (by decide) (by decide) k') ?_
        show G (T160.setTop (mkF m 339 #[.val (.int u0), .val (.int u1), .val (.int u2), .val (.int u3), .val (.int u4), .val (.int u5), .val (.ref b18), .val (.int f7), .val (.int dd), .val (.int (f7 + dd)), .val (.int q1), .val (.int q2), .val (.int b1), .val (.int b2), .unset, .unset, .unset] []))
        refine go _ _ (fun t' k' => XS.iconst X160h.here hx rfl (hb hby at_339) k') ?_
        show G (T160.setTop (mkF m 340 #[.val (.int u0), .val (.int u1), .val (.int u2), .val (.int u3), .val (.int u4), .val (.int u5), .val (.ref b18), .val (.int f7), .val (.int dd), .val (.int (f7 + dd)), .val (.int q1), .val (.int q2), .val (.int b1), .val (.int b2), .unset, .unset, .unset] [(.int (1 : Int32))]))
        refine go _ _ (fun t' k' => XS.goto X160h.here hx rfl (pc0 := 340) (pc' := 344) rfl (hb hby at_340) (by decide) (by decide) k') ?_
        show G (T160.setTop (mkF m 344 #[.val (.int u0), .val (.int u1), .val (.int u2), .val (.int u3), .val (.int u4), .val (.int u5), .val (.ref b18), .val (.int f7), .val (.int dd), .val (.int (f7 + dd)), .val (.int q1), .val (.int q2), .val (.int b1), .val (.int b2), .unset, .unset, .unset] [(.int (1 : Int32))]))
        exact J344 T160 _ X160h hh160 N160h _ (by (try simp only [own_ite_z, Decidable.not_not] at c159 c161); first | (simp only [c159, c161, or_false, false_or, or_true, true_or, not_true, not_false_iff, and_true, true_and, and_false, false_and, or_self, and_self, if_true, if_false]; done) | (simp [c159, c161]; done) | (exact (if_neg (fun z => by rcases z with z | z <;> first | contradiction | (rcases z with z | z <;> contradiction))).symm))
  by_cases c164 : (u1 &&& (1 : Int32)) = (0 : Int32)
  · refine go _ _ (fun t' k' => XS.ifNo X138h.here hx rfl (hb hby at_252) rfl (Free.XT.i0_ne_f c164) k') ?_
    show G (T138.setTop (mkF m 255 #[.val (.int u0), .val (.int u1), .val (.int u2), .val (.int u3), .val (.int u4), .val (.int u5), .val (.ref b18), .val (.int f7), .unset, .unset, .unset, .unset, .unset, .unset, .unset, .unset, .unset] []))
    refine go _ _ (fun t' k' => XS.bipush X138h.here hx rfl (hb hby at_255) k') ?_
    show G (T138.setTop (mkF m 257 #[.val (.int u0), .val (.int u1), .val (.int u2), .val (.int u3), .val (.int u4), .val (.int u5), .val (.ref b18), .val (.int f7), .unset, .unset, .unset, .unset, .unset, .unset, .unset, .unset, .unset] [(.int (32 : Int32))]))
    refine go _ _ (fun t' k' => XS.goto X138h.here hx rfl (pc0 := 257) (pc' := 263) rfl (hb hby at_257) (by decide) (by decide) k') ?_
    show G (T138.setTop (mkF m 263 #[.val (.int u0), .val (.int u1), .val (.int u2), .val (.int u3), .val (.int u4), .val (.int u5), .val (.ref b18), .val (.int f7), .unset, .unset, .unset, .unset, .unset, .unset, .unset, .unset, .unset] [(.int (32 : Int32))]))
    exact J263 T138 _ X138h e138 N138h _ 
  · refine go _ _ (fun t' k' => XS.ifYes X138h.here hx rfl (pc0 := 252) (pc' := 260) rfl (hb hby at_252) rfl (Free.XT.i0_ne_t c164) (by decide) (by decide) k') ?_
    show G (T138.setTop (mkF m 260 #[.val (.int u0), .val (.int u1), .val (.int u2), .val (.int u3), .val (.int u4), .val (.int u5), .val (.ref b18), .val (.int f7), .unset, .unset, .unset, .unset, .unset, .unset, .unset, .unset, .unset] []))
    refine go _ _ (fun t' k' => XS.iloadN X138h.here hx rfl (hb hby at_260) rfl  k') ?_
    show G (T138.setTop (mkF m 261 #[.val (.int u0), .val (.int u1), .val (.int u2), .val (.int u3), .val (.int u4), .val (.int u5), .val (.ref b18), .val (.int f7), .unset, .unset, .unset, .unset, .unset, .unset, .unset, .unset, .unset] [(.int u1)]))
    refine go _ _ (fun t' k' => XS.iconst X138h.here hx rfl (hb hby at_261) k') ?_
    show G (T138.setTop (mkF m 262 #[.val (.int u0), .val (.int u1), .val (.int u2), .val (.int u3), .val (.int u4), .val (.int u5), .val (.ref b18), .val (.int f7), .unset, .unset, .unset, .unset, .unset, .unset, .unset, .unset, .unset] [(.int (1 : Int32)), (.int u1)]))
    refine go _ _ (fun t' k' => XS.ishr X138h.here hx rfl (hb hby at_262) rfl k') ?_
    show G (T138.setTop (mkF m 263 #[.val (.int u0), .val (.int u1), .val (.int u2), .val (.int u3), .val (.int u4), .val (.int u5), .val (.ref b18), .val (.int f7), .unset, .unset, .unset, .unset, .unset, .unset, .unset, .unset, .unset] [(.int (u1 >>> ((1 : Int32) &&& 31)))]))
    exact J263 T138 _ X138h e138 N138h _ 
set_option maxRecDepth 65536 in
set_option maxHeartbeats 40000000 in
theorem comes_1 {Post : Tables → Env → Array Value → State → Outcome → State → Prop} (hpost : ∀ tb e args s v u, (limb_1_1.after args s (.returned v) u = true ∧ limb_1_2.after args s (.returned v) u = true ∧ True) → FrameEnd s (.returned v) u (Jvm.fieldLocs frame_1_writes args s ++ Jvm.arrayLocs frame_1_arrays args s ++ Jvm.staticLocs frame_1_statics s) 16 192 → Post tb e args s (.returned v) u) :
    ArmFor flags0 classFile x code maxLocals ret World_1 tables_1 room_1 Calls_1 rest_1 Pre_1 Post := by
  intro l hfl _ _ p e ha hc hk s m args below hf hA hF happ hP
  obtain ⟨hcalls, hrest, hpre⟩ := hP
  obtain ⟨-, -, -, hnamed, -, -, -, hat⟩ := (Spec.applies_iff hf).mp happ
  obtain ⟨hg, hn⟩ := and_e (Cond.before_iff.mp (show (Jvm.Cond.and given_1 narrow_1).before args s = true from hpre))
  obtain ⟨k0, hg0⟩ := and_e hg
  obtain ⟨ka0, hg1⟩ := and_e hg0
  obtain ⟨ka1, hg2⟩ := and_e hg1
  obtain ⟨ka2, hg3⟩ := and_e hg2
  obtain ⟨ka3, hg4⟩ := and_e hg3
  obtain ⟨ka4, hg5⟩ := and_e hg4
  have ka5 := hg5
  obtain ⟨w0, w1, w2, w3, w4, w5, rfl⟩ : ∃ w0 w1 w2 w3 w4 w5 : Value, args = #[w0, w1, w2, w3, w4, w5] := by
    have hs : args.size = 6 := by simpa [Cond.value, given_1] using k0
    obtain ⟨L⟩ := args
    match L, hs with
    | [w0, w1, w2, w3, w4, w5], _ => exact ⟨w0, w1, w2, w3, w4, w5, rfl⟩
  have hw := fun d (hd : d ∈ tables_1) => atoms_spec (ws := Jvm.Cond.code x code maxLocals ret :: tables_1) hat d (List.mem_cons_of_mem _ hd)
  have hfit : Fit s := fun {y c} hc i hi => by
    obtain ⟨ha, rfl⟩ := Array.getElem?_eq_some_iff.mp hc
    have q := List.all_eq_true.mp ((Array.all_eq_true_iff_forall_mem.mp hF) _ (Array.getElem_mem ha)) i (List.mem_range.mpr hi)
    simpa [Array.getElem?_eq_getElem hi] using q
  obtain ⟨i0, ie0⟩ := is_v ka0
  obtain rfl : w0 = (.int i0) := Option.some.inj ie0
  obtain ⟨i1, ie1⟩ := is_v ka1
  obtain rfl : w1 = (.int i1) := Option.some.inj ie1
  obtain ⟨i2, ie2⟩ := is_v ka2
  obtain rfl : w2 = (.int i2) := Option.some.inj ie2
  obtain ⟨i3, ie3⟩ := is_v ka3
  obtain rfl : w3 = (.int i3) := Option.some.inj ie3
  obtain ⟨i4, ie4⟩ := is_v ka4
  obtain rfl : w4 = (.int i4) := Option.some.inj ie4
  obtain ⟨i5, ie5⟩ := is_v ka5
  obtain rfl : w5 = (.int i5) := Option.some.inj ie5
  obtain ⟨n, o, h1, h2, h3, _, L, rfl, ⟨rfl, N⟩, hq⟩ := rm0 l s _ hw i0 i1 i2 i3 i4 i5 s.heap s.heap.size (Nat.le_refl _)  tables_1 p e ha hc hk s m _ below hf ((Spec.applies_iff_loose hf).mp happ).1 ⟨rfl, State.Warmed39.refl s, rfl⟩ trivial
  refine ⟨n, _, h1, h2, h3, hpost _ _ _ _ _ _ ⟨Cond.after_iff.mpr rfl, Cond.after_iff.mpr (eq_i res_at (Term.int_eval (1)) rfl), trivial⟩ ⟨hq.1, hq.2.1, (hq.2.2.sift fun y hy => Or.inr (N y hy)).mono (by decide) (by decide)⟩⟩
theorem main_1_1 : Claimed_1_1 := comes_1 fun _ _ _ _ _ _ h hF => ⟨h.1, hF⟩
theorem main_1_2 : Claimed_1_2 := comes_1 fun _ _ _ _ _ _ h hF => ⟨h.2.1, hF⟩
end Jvm.Pilot.@@N@@
namespace Jvm.Pilot.@@N@@
open Jvm Jvm.ClassFile Sem Op Lib Jvm.Free Jvm.Stand Jvm.Pilot.@@N@@.Jvm.D
/-! MADE BY PROGRAM (witnessworld.py) out of the Statement's table words and the real class files: 9 classes; the members and pool entries that the words name. The judged class is class 1, her method 1. -/
namespace start1
open Jvm.ClassFile
def u (s : String) : CpInfo := .utf8 (stringToUtf16 s)
/-- a pool by its gaps: so many unusable entries, then the entry; so many at the end -/
def gap : Nat → List CpInfo → List CpInfo
  | 0, r => r
  | n + 1, r => .unusable :: gap n r
def poolList (es : List (Nat × CpInfo)) (last : Nat) : List CpInfo := es.foldr (fun e r => gap e.1 (e.2 :: r)) (gap last [])
def pool (es : List (Nat × CpInfo)) (last : Nat) : Array CpInfo := ⟨poolList es last⟩
def fileOf (pool : Array CpInfo) (this : Nat) (attrs : Array Attribute := #[]) (ms : Array MethodInfo := #[]) (fl : Nat := 33) (sup : Nat := 0) (ifs : Array Nat := #[]) (fds : Array FieldInfo := #[]) : ClassFile where
  minorVersion := 0
  majorVersion := 65
  constantPool := pool
  accessFlags := fl
  thisClass := this
  superClass := sup
  interfaces := ifs
  fields := fds
  methods := ms
  attributes := attrs
def plain (name : String) (sup : Option ClassId) : Class where
  name := name
  kind := .ordinary
  loader := none
  accessFlags := 33
  super := sup
  interfaces := #[]
  cf := none
  fields := #[]
  methods := #[]
  instanceTypes := #[]
  staticTypes := #[]
  resolved := #[]
  callSites := []
  init := .initialized
  statics := none
  mirror := none

def pool0 : Array CpInfo := pool [(5, u "<init>"), (0, u "()V"), (1, .class_ 10), (1, u "java/lang/Object")] 113

def k0m0 : Method := { name := "<init>", desc := "()V", sig := { parameters := [], returnType := none }, accessFlags := 1, code := none }
/-- java/lang/Object -/
def k0 : Class := { plain "java/lang/Object" none with
  accessFlags := 33
  interfaces := #[]
  cf := some (fileOf pool0 8 #[] #[{ accessFlags := 1, nameIndex := 5, descriptorIndex := 6, attributes := #[] }] 33 0 #[] #[])
  fields := #[]
  methods := #[k0m0]
  instanceTypes := #[]
  staticTypes := #[]
  resolved := Array.replicate 124 none
  statics := none }

def pool1 : Array CpInfo := pool [(2, .class_ 4), (1, u "java/lang/Object"), (0, u "<init>"), (0, u "()V"), (0, .integer 2147483647), (0, .methodref 9 10), (0, .class_ 11), (0, .nameAndType 12 13), (0, u "com/example/lotwise/lotwise/value/ValuesIsDigestPinLaw"), (0, u "outside"), (0, u "(II)Z"), (0, .methodref 9 15), (0, .nameAndType 16 17), (0, u "isHex"), (0, u "(B)Z"), (0, .methodref 19 20), (0, .class_ 21), (0, .nameAndType 22 23), (0, u "com/example/lotwise/lotwise/value/Values"), (0, u "isDigest"), (0, u "([BII)Z"), (2, u "law"), (0, u "(IIIIII)Z")] 5

def k1m0 : Method := { name := "<init>", desc := "()V", sig := { parameters := [], returnType := none }, accessFlags := 2, code := none }
def k1c1 : Code := { maxStack := 4, maxLocals := 17, code := code, exceptionTable := #[], attributes := #[] }
def k1m1 : Method := { name := "law", desc := "(IIIIII)Z", sig := { parameters := [.int, .int, .int, .int, .int, .int], returnType := some .boolean }, accessFlags := 9, code := some k1c1 }
def k1c2 : Code := { maxStack := 3, maxLocals := 2, code := method_3_code, exceptionTable := #[], attributes := #[] }
def k1m2 : Method := { name := "outside", desc := "(II)Z", sig := { parameters := [.int, .int], returnType := some .boolean }, accessFlags := 10, code := some k1c2 }
def k1c3 : Code := { maxStack := 2, maxLocals := 2, code := method_4_code, exceptionTable := #[], attributes := #[] }
def k1m3 : Method := { name := "isHex", desc := "(B)Z", sig := { parameters := [.byte], returnType := some .boolean }, accessFlags := 10, code := some k1c3 }
/-- com/example/lotwise/lotwise/value/ValuesIsDigestPinLaw -/
def k1 : Class := { plain "com/example/lotwise/lotwise/value/ValuesIsDigestPinLaw" (some 0) with
  accessFlags := 49
  interfaces := #[]
  cf := some (fileOf pool1 9 #[] #[{ accessFlags := 2, nameIndex := 5, descriptorIndex := 6, attributes := #[] }, { accessFlags := 9, nameIndex := 26, descriptorIndex := 27, attributes := #[] }, { accessFlags := 10, nameIndex := 12, descriptorIndex := 13, attributes := #[] }, { accessFlags := 10, nameIndex := 16, descriptorIndex := 17, attributes := #[] }] 49 2 #[] #[])
  fields := #[]
  methods := #[k1m0, k1m1, k1m2, k1m3]
  instanceTypes := #[]
  staticTypes := #[]
  resolved := Array.replicate 33 none
  statics := none }

def pool2 : Array CpInfo := pool [(1, .class_ 2), (0, u "com/example/lotwise/lotwise/value/Values"), (1, .class_ 6), (1, u "java/lang/Object"), (0, u "<init>"), (0, u "()V"), (89, u "HUNDRED"), (0, u "Ljava/math/BigDecimal;"), (26, u "MAX_DAYS"), (0, u "J"), (2, u "DAY_SPAN"), (0, u "Ljava/lang/String;"), (44, u "isDigest"), (0, u "([BII)Z"), (45, u "FIRST_DATE"), (0, u "Ljava/time/LocalDate;"), (6, u "LAST_DATE"), (11, u "WEEKDAYS"), (0, u "Ljava/util/List;"), (111, u "MAX_IDENTIFIER_LENGTH"), (0, u "I"), (2, u "MAX_INTEGER_DIGITS"), (1, u "MAX_FRACTION_DIGITS"), (1, u "HOUR_DECIMALS"), (1, u "LONG_DIGITS"), (1, u "NOT_PLAIN_DECIMAL"), (0, u "DATE_LENGTH"), (1, u "MONTH_HYPHEN"), (1, u "DAY_HYPHEN"), (1, u "A_DATE"), (2, u "NOT_A_DATE"), (0, u "MAX_PORT"), (1, u "A_PORT"), (50, .class_ 433), (0, u "com/example/lotwise/lotwise/value/Values$Parts")] 30

def k2m0 : Method := { name := "<init>", desc := "()V", sig := { parameters := [], returnType := none }, accessFlags := 2, code := none }
def k2c1 : Code := { maxStack := 2, maxLocals := 6, code := prog_158_method_20_code, exceptionTable := #[], attributes := #[] }
def k2m1 : Method := { name := "isDigest", desc := "([BII)Z", sig := { parameters := [(.array .byte), .int, .int], returnType := some .boolean }, accessFlags := 9, code := some k2c1 }
/-- com/example/lotwise/lotwise/value/Values -/
def k2 : Class := { plain "com/example/lotwise/lotwise/value/Values" (some 0) with
  accessFlags := 49
  interfaces := #[]
  cf := some (fileOf pool2 1 #[.nestMembers #[432]] #[{ accessFlags := 2, nameIndex := 7, descriptorIndex := 8, attributes := #[] }, { accessFlags := 9, nameIndex := 176, descriptorIndex := 177, attributes := #[] }] 49 4 #[] #[{ accessFlags := 25, nameIndex := 356, descriptorIndex := 357, attributes := #[] }, { accessFlags := 25, nameIndex := 223, descriptorIndex := 224, attributes := #[] }, { accessFlags := 25, nameIndex := 231, descriptorIndex := 224, attributes := #[] }, { accessFlags := 26, nameIndex := 360, descriptorIndex := 357, attributes := #[] }, { accessFlags := 26, nameIndex := 362, descriptorIndex := 357, attributes := #[] }, { accessFlags := 26, nameIndex := 98, descriptorIndex := 99, attributes := #[] }, { accessFlags := 26, nameIndex := 364, descriptorIndex := 357, attributes := #[] }, { accessFlags := 26, nameIndex := 126, descriptorIndex := 127, attributes := #[] }, { accessFlags := 26, nameIndex := 130, descriptorIndex := 131, attributes := #[] }, { accessFlags := 26, nameIndex := 366, descriptorIndex := 357, attributes := #[] }, { accessFlags := 26, nameIndex := 368, descriptorIndex := 131, attributes := #[] }, { accessFlags := 26, nameIndex := 369, descriptorIndex := 357, attributes := #[] }, { accessFlags := 26, nameIndex := 371, descriptorIndex := 357, attributes := #[] }, { accessFlags := 26, nameIndex := 373, descriptorIndex := 357, attributes := #[] }, { accessFlags := 26, nameIndex := 375, descriptorIndex := 131, attributes := #[] }, { accessFlags := 26, nameIndex := 378, descriptorIndex := 131, attributes := #[] }, { accessFlags := 26, nameIndex := 379, descriptorIndex := 357, attributes := #[] }, { accessFlags := 26, nameIndex := 381, descriptorIndex := 131, attributes := #[] }, { accessFlags := 26, nameIndex := 243, descriptorIndex := 244, attributes := #[] }])
  fields := #[{ name := "MAX_IDENTIFIER_LENGTH", type := .int, accessFlags := 25, slot := 0, constantValue := 0 }, { name := "FIRST_DATE", type := (.object "java/time/LocalDate"), accessFlags := 25, slot := 1, constantValue := 0 }, { name := "LAST_DATE", type := (.object "java/time/LocalDate"), accessFlags := 25, slot := 2, constantValue := 0 }, { name := "MAX_INTEGER_DIGITS", type := .int, accessFlags := 26, slot := 3, constantValue := 0 }, { name := "MAX_FRACTION_DIGITS", type := .int, accessFlags := 26, slot := 4, constantValue := 0 }, { name := "HUNDRED", type := (.object "java/math/BigDecimal"), accessFlags := 26, slot := 5, constantValue := 0 }, { name := "HOUR_DECIMALS", type := .int, accessFlags := 26, slot := 6, constantValue := 0 }, { name := "MAX_DAYS", type := .long, accessFlags := 26, slot := 7, constantValue := 0 }, { name := "DAY_SPAN", type := (.object "java/lang/String"), accessFlags := 26, slot := 8, constantValue := 0 }, { name := "LONG_DIGITS", type := .int, accessFlags := 26, slot := 9, constantValue := 0 }, { name := "NOT_PLAIN_DECIMAL", type := (.object "java/lang/String"), accessFlags := 26, slot := 10, constantValue := 0 }, { name := "DATE_LENGTH", type := .int, accessFlags := 26, slot := 11, constantValue := 0 }, { name := "MONTH_HYPHEN", type := .int, accessFlags := 26, slot := 12, constantValue := 0 }, { name := "DAY_HYPHEN", type := .int, accessFlags := 26, slot := 13, constantValue := 0 }, { name := "A_DATE", type := (.object "java/lang/String"), accessFlags := 26, slot := 14, constantValue := 0 }, { name := "NOT_A_DATE", type := (.object "java/lang/String"), accessFlags := 26, slot := 15, constantValue := 0 }, { name := "MAX_PORT", type := .int, accessFlags := 26, slot := 16, constantValue := 0 }, { name := "A_PORT", type := (.object "java/lang/String"), accessFlags := 26, slot := 17, constantValue := 0 }, { name := "WEEKDAYS", type := (.object "java/util/List"), accessFlags := 26, slot := 18, constantValue := 0 }]
  methods := #[k2m0, k2m1]
  instanceTypes := #[]
  staticTypes := #[.int, (.object "java/time/LocalDate"), (.object "java/time/LocalDate"), .int, .int, (.object "java/math/BigDecimal"), .int, .long, (.object "java/lang/String"), .int, (.object "java/lang/String"), .int, .int, .int, (.object "java/lang/String"), (.object "java/lang/String"), .int, (.object "java/lang/String"), (.object "java/util/List")]
  resolved := Array.replicate 464 none
  statics := none }

def pool3 : Array CpInfo := pool [(1, u "java/lang/Cloneable"), (0, .class_ 1), (0, u "java/lang/Object"), (0, .class_ 3)] 3

/-- java/lang/Cloneable -/
def k3 : Class := { plain "java/lang/Cloneable" (some 0) with
  accessFlags := 1537
  interfaces := #[]
  cf := some (fileOf pool3 2 #[] #[] 1537 4 #[] #[])
  fields := #[]
  methods := #[]
  instanceTypes := #[]
  staticTypes := #[]
  resolved := Array.replicate 8 none
  statics := none }

def pool4 : Array CpInfo := pool [(1, u "java/io/Serializable"), (0, .class_ 1), (0, u "java/lang/Object"), (0, .class_ 3)] 3

/-- java/io/Serializable -/
def k4 : Class := { plain "java/io/Serializable" (some 0) with
  accessFlags := 1537
  interfaces := #[]
  cf := some (fileOf pool4 2 #[] #[] 1537 4 #[] #[])
  fields := #[]
  methods := #[]
  instanceTypes := #[]
  staticTypes := #[]
  resolved := Array.replicate 8 none
  statics := none }

/-- the primitive byte -/
def k5 : Class := { plain "byte" none with kind := .primitive 'B', accessFlags := 0x411 }
/-- [B -/
def k6 : Class := { plain "[B" (some 0) with kind := .array 5 .byte, interfaces := #[3, 4], accessFlags := 1041 }

/-- the primitive int -/
def k7 : Class := { plain "int" none with kind := .primitive 'I', accessFlags := 0x411 }
/-- [I -/
def k8 : Class := { plain "[I" (some 0) with kind := .array 7 .int, interfaces := #[3, 4], accessFlags := 1041 }

def heap : Heap := #[]
def classes : Array Class := #[k0, k1, k2, k3, k4, k5, k6, k7, k8]
def interned : List (Array UInt16 × Addr) := []
def slotsUsed : Nat := 0
def theMethod : MethodId := ⟨1, 1⟩
def args0 : Array Value := #[.int 5, .int 300, .int 7, .int 48, .int 9, .int 50]
def aboutOver (below : List Frame) : State where
  vm := { classes := classes, interned := interned.toArray }
  heap := heap
  slotsUsed := slotsUsed
  threads := #[{ frames := .invoking theMethod args0 :: below }]
def below0 : List Frame := [.native { method := ⟨0, 0⟩, args := #[] }]
def about1 : State := aboutOver below0
def p0 : Program := .bare "" "" ""
def e0 : Env := launch0.env 0 0 0
theorem w_frames : about1.frames = Frame.invoking theMethod args0 :: below0 := rfl
set_option maxRecDepth 65536 in
theorem w_args : argsFit about1.vm theMethod args0 = true := by decide +kernel
set_option maxRecDepth 65536 in
theorem w_heap : heapFits about1 = true := by decide +kernel
set_option maxRecDepth 65536 in
theorem w_runnable : about1.curStatus? = some .runnable := by decide +kernel
set_option maxRecDepth 65536 in
theorem w_alone : about1.alone = true := by decide +kernel
set_option maxRecDepth 65536 in
theorem w_named : about1.methodNamed? x = some theMethod := by decide +kernel
set_option maxRecDepth 65536 in
theorem w_hears : about1.hears theMethod below0 = true := by decide +kernel
set_option maxRecDepth 65536 in
theorem w_ripe : about1.ripe theMethod args0 below0 = true := by decide +kernel
theorem w_running : about1.status = .running := rfl
set_option maxRecDepth 65536 in
theorem w_room : about1.hasRoom e0.platform room_1 = true :=
  launch0.hasRoom_least _ room_1 (by decide +kernel) (by decide +kernel) (by decide +kernel) (by decide +kernel) (by decide +kernel) (by decide +kernel)
theorem allAtoms_all (ts : List Jvm.Cond) (a : Array Jvm.Value) (st : Jvm.State) : (allAtoms ts).before a st = ts.all (fun c => c.before a st) := by
  induction ts with
  | nil => rfl
  | cons c t ih =>
    show (Jvm.Cond.and c (allAtoms t)).before a st = _
    rw [Jvm.Cond.before_and, ih, List.all_cons]
def words1 : List Jvm.Cond := Jvm.Cond.code x code maxLocals ret :: tables_1
/-- a 'code' word, met by the world's own term for the bytes: nothing is compared byte by byte -/
theorem code_word {y : MethodName} {bytes : ByteArray} {mx : Nat} {rt : Option FieldType} {a : Array Value} {s : State} {m : MethodId} {meth : Method} {c : Code} (h1 : s.methodNamed? y = some m) (h2 : s.vm.method? m = some meth) (h3 : meth.code = some c) (h4 : c.code = bytes)
    (h5 : (c.maxLocals == mx && c.exceptionTable.isEmpty && decide (c.maxStack ≤ mostOperands) && decide (meth.sig.returnType = rt) && !meth.locks && decide (parseMethodDescriptor y.desc = some meth.sig)) = true) : (Jvm.Cond.code y bytes mx rt).before a s = true := by
  simp only [Bool.and_eq_true, beq_iff_eq, Bool.not_eq_true', decide_eq_true_eq] at h5
  obtain ⟨⟨⟨⟨⟨g1, g2⟩, g3⟩, g4⟩, g5⟩, g6⟩ := h5
  simp [Cond.before, Cond.holds, Cond.value, h1, h2, h3, h4, g1, g2, g3, g4, g5, g6]
def isCode : Jvm.Cond → Bool
  | .code _ _ _ _ => true
  | _ => false
theorem all_split {L : List Jvm.Cond} {P : Jvm.Cond → Bool} (h1 : L.all (fun c => isCode c || P c) = true) (h2 : ∀ c ∈ L.filter isCode, P c = true) : L.all P = true := by
  refine List.all_eq_true.mpr fun c hc => ?_
  have h := List.all_eq_true.mp h1 c hc
  rcases Bool.eq_false_or_eq_true (isCode c) with hi | hi
  · exact h2 c (List.mem_filter.mpr ⟨hc, hi⟩)
  · simpa [hi] using h
set_option maxRecDepth 65536 in
theorem w_c0 : (Jvm.Cond.code x code maxLocals ret).before args0 about1 = true := code_word (m := ⟨1, 1⟩) (meth := k1m1) (c := k1c1) (by decide +kernel) rfl rfl rfl (by decide +kernel)
set_option maxRecDepth 65536 in
theorem w_c1 : (Jvm.Cond.code ({ cls := "com/example/lotwise/lotwise/value/ValuesIsDigestPinLaw", name := "outside", desc := "(II)Z" } : Jvm.MethodName) method_3_code (2 : Nat) (Option.some Jvm.ClassFile.FieldType.boolean)).before args0 about1 = true := code_word (m := ⟨1, 2⟩) (meth := k1m2) (c := k1c2) (by decide +kernel) rfl rfl rfl (by decide +kernel)
set_option maxRecDepth 65536 in
theorem w_c2 : (Jvm.Cond.code ({ cls := "com/example/lotwise/lotwise/value/ValuesIsDigestPinLaw", name := "isHex", desc := "(B)Z" } : Jvm.MethodName) method_4_code (2 : Nat) (Option.some Jvm.ClassFile.FieldType.boolean)).before args0 about1 = true := code_word (m := ⟨1, 3⟩) (meth := k1m3) (c := k1c3) (by decide +kernel) rfl rfl rfl (by decide +kernel)
set_option maxRecDepth 65536 in
theorem w_c3 : (Jvm.Cond.code ({ cls := "com/example/lotwise/lotwise/value/Values", name := "isDigest", desc := "([BII)Z" } : Jvm.MethodName) prog_158_method_20_code (6 : Nat) (Option.some Jvm.ClassFile.FieldType.boolean)).before args0 about1 = true := code_word (m := ⟨2, 1⟩) (meth := k2m1) (c := k2c1) (by decide +kernel) rfl rfl rfl (by decide +kernel)
def codes1 : List Jvm.Cond := [Jvm.Cond.code x code maxLocals ret, Jvm.Cond.code ({ cls := "com/example/lotwise/lotwise/value/ValuesIsDigestPinLaw", name := "outside", desc := "(II)Z" } : Jvm.MethodName) method_3_code (2 : Nat) (Option.some Jvm.ClassFile.FieldType.boolean), Jvm.Cond.code ({ cls := "com/example/lotwise/lotwise/value/ValuesIsDigestPinLaw", name := "isHex", desc := "(B)Z" } : Jvm.MethodName) method_4_code (2 : Nat) (Option.some Jvm.ClassFile.FieldType.boolean), Jvm.Cond.code ({ cls := "com/example/lotwise/lotwise/value/Values", name := "isDigest", desc := "([BII)Z" } : Jvm.MethodName) prog_158_method_20_code (6 : Nat) (Option.some Jvm.ClassFile.FieldType.boolean)]
set_option maxRecDepth 65536 in
theorem codes_eq : words1.filter isCode = codes1 := rfl
theorem w_codes : ∀ c ∈ words1.filter isCode, c.before args0 about1 = true := by
  rw [codes_eq]
  intro c hc
  simp only [codes1, List.mem_cons, List.not_mem_nil, or_false] at hc
  rcases hc with rfl | rfl | rfl | rfl
  · exact w_c0
  · exact w_c1
  · exact w_c2
  · exact w_c3
set_option maxRecDepth 65536 in
theorem w_t1 : words1.all (fun c => isCode c || c.before args0 about1) = true := by decide +kernel
theorem w_tables : (allAtoms (Jvm.Cond.code x code maxLocals ret :: tables_1)).before args0 about1 = true := by
  rw [allAtoms_all]
  show words1.all (fun c => c.before args0 about1) = true
  refine all_split ?_ w_codes
  rw [w_t1]
set_option maxRecDepth 65536 in
theorem w_case : (Jvm.Cond.and given_1 narrow_1).before args0 about1 = true := by decide +kernel
theorem w_applies : (headSpec (Jvm.Cond.code x code maxLocals ret :: tables_1) room_1).applies x e0.platform about1 = true :=
  (Spec.applies_iff w_frames).mpr ⟨w_running, w_runnable, w_alone, w_named, w_hears, w_ripe, w_room, w_tables⟩
theorem atStart : AtStart classFile x code maxLocals ret World_1 tables_1 room_1 Calls_1 rest_1 Pre_1 launch0 p0 e0 about1 theMethod args0 below0 :=
  ⟨lists_1, trivial, launch0.admits_env _ _ _, launch0.least_env, fairChoices_fair.cas, fairChoices_fair.clock, w_frames, w_args, w_heap, w_applies, trivial, trivial, w_case⟩
end start1
theorem witness_1 : WitnessClaimed_1 := ⟨start1.p0, start1.e0, start1.about1, start1.theMethod, start1.args0, start1.below0, start1.atStart⟩
end Jvm.Pilot.@@N@@
