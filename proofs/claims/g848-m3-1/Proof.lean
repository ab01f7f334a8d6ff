import JvmDerived
import JvmDerived.Pilot.@@N@@Statement
import JvmDerived.Pilot.@@N@@Code
set_option linter.unusedVariables false
set_option linter.unusedSimpArgs false
namespace Jvm.Pilot.@@N@@
open Jvm Jvm.ClassFile Sem Op Lib Jvm.Free Jvm.Stand Jvm.LawKit Jvm.RoadKit Bundle Jvm.Pilot.@@N@@.Jvm.D
section Own
variable {p : Program} {l : Launch} {e : Env} {R : Room} {s : State} {m : MethodId} {args : Array Value} {below : List Frame} {meth : Method} {c : Code} {T : State} {locs : List Loc} {cells slots : Nat} {Z : State} {a0 : Array Value} {h : Heap}
/-- the goal of a walk is a predicate that may be carried back over steps -/
def Go (p : Program) (e : Env) (below : List Frame) (G : State → Prop) : Prop := ∀ F F' : State, (∀ t, Steps p.tables e below F' t → Steps p.tables e below F t) → G F' → G F
/-- how a walk ends: it returns v -/
def Rt (p : Program) (l : Launch) (e : Env) (R : Room) (s : State) (m : MethodId) (args : Array Value) (below : List Frame) (meth : Method) (c : Code) (Q : Option Value → Heap → List Loc → Prop) (kc ks : Nat) (G : State → Prop) : Prop :=
  ∀ (T : State) (locs : List Loc) (cells slots : Nat) (v : Option Value) (F : State), Stand p l e R s m args below meth c T locs cells slots → cells ≤ kc → slots ≤ ks → (meth.sig.returnType = none → v = none) → Q v T.heap locs →
    (∀ fs, (∀ (f : JFrame) (acts : List Action), f.method = m → f.locked = none → f.entered = [] → (doReturn e (T.setTop f) acts v).1 = T.setFrames fs) → Steps p.tables e below F (T.setFrames fs)) → G F
def Gl (p : Program) (e : Env) (below : List Frame) (s : State) (Q : Option Value → Heap → List Loc → Prop) (kc ks : Nat) (F : State) : Prop :=
  ∃ s₂ o, Steps p.tables e below F s₂ ∧ s₂.status = .running ∧ Ended s₂ below o ∧ ∃ v L, o = .returned v ∧ Q v s₂.heap L ∧ FrameEnd s o s₂ L kc ks
theorem gl_go {Q : Option Value → Heap → List Loc → Prop} {kc ks : Nat} : Go p e below (Gl p e below s Q kc ks) := fun F F' h g => by
  obtain ⟨s₂, o, h1, h2⟩ := g
  exact ⟨s₂, o, h _ h1, h2⟩
theorem gl_rt {Q : Option Value → Heap → List Loc → Prop} {kc ks : Nat} (hlk : meth.locks = false) : Rt p l e R s m args below meth c Q kc ks (Gl p e below s Q kc ks) := fun T locs cells slots v F X hc hs hv hQ st => by
  obtain ⟨fs, hr, hrun, hended, hW, hsame⟩ := X.leave (v := v) hv hlk
  exact ⟨_, _, st fs hr, hrun, hended, v, locs, rfl, hQ, ⟨_, rfl⟩, hW, hsame.mono hc hs⟩
/-- a method's contract, at given arguments and a given heap -/
def Con (l : Launch) (Z : State) (y : MethodName) (bytes : ByteArray) (maxL : Nat) (ret : Option FieldType) (rm : Room) (as' : Array Value) (h : Heap) (Q : Option Value → Heap → List Loc → Prop) : Prop :=
  ∀ ws, MetFree l y (head1 (Jvm.Cond.code y bytes maxL ret :: ws) rm) (fun a U => a = as' ∧ Z.Warmed39 U.vm ∧ U.heap = h) (fun _ _ _ _ _ => True) (fun _ U o U' => ∃ v L, o = .returned v ∧ Q v U'.heap L ∧ FrameEnd U o U' L rm.cells rm.slots)
theorem own_body {y : MethodName} {bytes : ByteArray} {maxL : Nat} {ret : Option FieldType} {rm : Room} {as' : Array Value} {h0 : Heap} {Q : Option Value → Heap → List Loc → Prop} (hp : plainName y.cls = true)
    (k : ∀ (p : Program) (e : Env) (s : State) (m : MethodId) (below : List Frame) (meth : Method) (c : Code) (s₁ : State), p.tables.exec = Jvm.exec → c.code = bytes → c.maxLocals = maxL → s.vm.findClass y.cls = some m.cls → meth.name = y.name → meth.sig.returnType = ret → Z.Warmed39 s.vm → s₁.heap = h0 →
      Stand p l e rm s m as' below meth c s₁ [] 0 0 → ∀ G : State → Prop, Go p e below G → Rt p l e rm s m as' below meth c Q rm.cells rm.slots G → G (s₁.setTop (entryFrame m as' maxL))) : Con l Z y bytes maxL ret rm as' h0 Q := fun ws => by
  refine MetFree.of_bodySF (plainFor_of_name hp) hisR ?_
  intro p e s m args below meth c s₁ Bd hml0 hP hK
  obtain ⟨rfl, hZ, hh⟩ := hP
  exact k p e s m below meth c s₁ Bd.exec Bd.bytes hml0 (findClass_of_methodNamed Bd.named) (name_of_methodNamed Bd.named Bd.method).1 Bd.returns hZ (by rw [← hh, Bd.state]; rfl) (Stand.of_body Bd) (Gl p e below s Q rm.cells rm.slots) gl_go (gl_rt Bd.notSynchronized)
theorem own_hide {k : Nat} (X : Stand p l e R s m args below meth c T locs cells slots) (N : Fr k locs) : ∃ L, Stand p l e R s m args below meth c T L cells slots ∧ Fr k L := ⟨_, X, N⟩
section Rets
variable {Q : Option Value → Heap → List Loc → Prop} {kc ks : Nat} {G : State → Prop}
theorem own_retI (rt : Rt p l e R s m args below meth c Q kc ks G) (X : Stand p l e R s m args below meth c T locs cells slots) (hx : p.tables.exec = Jvm.exec) {pc : Nat} {Ls : Array Slot} {rest : List Value} (hret : meth.sig.returnType = some .int) {z : Int32} (hd : decode c.code pc = .ok (.ireturn, 1)) (hc : cells ≤ kc) (hs : slots ≤ ks) (hQ : Q (some (.int z)) T.heap locs) : G (T.setTop (mkF m pc Ls (.int z :: rest))) :=
  rt T locs cells slots _ _ X hc hs (fun h => by rw [hret] at h; cases h) hQ fun fs hr => retOut X hx hret rfl (Or.inl ⟨rfl, Or.inl rfl, _, rfl⟩) hd hr
theorem own_retZ (rt : Rt p l e R s m args below meth c Q kc ks G) (X : Stand p l e R s m args below meth c T locs cells slots) (hx : p.tables.exec = Jvm.exec) {pc : Nat} {Ls : Array Slot} {rest : List Value} {t : FieldType} (hret : meth.sig.returnType = some t) (ht : t = .boolean ∨ t = .byte ∨ t = .char ∨ t = .short) {z : Int32} (hd : decode c.code pc = .ok (.ireturn, 1)) (hc : cells ≤ kc) (hs : slots ≤ ks) (hQ : Q (some (.int (nar t z))) T.heap locs) : G (T.setTop (mkF m pc Ls (.int z :: rest))) :=
  rt T locs cells slots _ _ X hc hs (fun h => by rw [hret] at h; cases h) hQ fun fs hr => retN X hx hret ht hd hr
theorem own_retJ (rt : Rt p l e R s m args below meth c Q kc ks G) (X : Stand p l e R s m args below meth c T locs cells slots) (hx : p.tables.exec = Jvm.exec) {pc : Nat} {Ls : Array Slot} {rest : List Value} (hret : meth.sig.returnType = some .long) {z : Int64} (hd : decode c.code pc = .ok (.lreturn, 1)) (hc : cells ≤ kc) (hs : slots ≤ ks) (hQ : Q (some (.long z)) T.heap locs) : G (T.setTop (mkF m pc Ls (.long z :: rest))) :=
  rt T locs cells slots _ _ X hc hs (fun h => by rw [hret] at h; cases h) hQ fun fs hr => retOut X hx hret rfl (Or.inr (Or.inl ⟨rfl, rfl, _, rfl⟩)) hd hr
theorem own_retA (rt : Rt p l e R s m args below meth c Q kc ks G) (X : Stand p l e R s m args below meth c T locs cells slots) (hx : p.tables.exec = Jvm.exec) {pc : Nat} {Ls : Array Slot} {rest : List Value} {t : FieldType} (hret : meth.sig.returnType = some t) (ht : t.isReference = true) {v : Value} (hv : v.isRef = true) (hd : decode c.code pc = .ok (.areturn, 1)) (hc : cells ≤ kc) (hs : slots ≤ ks) (hQ : Q (some v) T.heap locs) : G (T.setTop (mkF m pc Ls (v :: rest))) :=
  rt T locs cells slots _ _ X hc hs (fun h => by rw [hret] at h; cases h) hQ fun fs hr => retOut X hx hret (by cases t <;> cases v <;> first | rfl | (simp [FieldType.isReference, Value.isRef] at ht hv)) (Or.inr (Or.inr (Or.inr (Or.inr ⟨rfl, ht, hv⟩)))) hd hr
theorem own_retV (rt : Rt p l e R s m args below meth c Q kc ks G) (X : Stand p l e R s m args below meth c T locs cells slots) (hx : p.tables.exec = Jvm.exec) {pc : Nat} {Ls : Array Slot} (hret : meth.sig.returnType = none) (hd : decode c.code pc = .ok (.return_, 1)) (hc : cells ≤ kc) (hs : slots ≤ ks) (hQ : Q none T.heap locs) : G (T.setTop (mkF m pc Ls [])) :=
  rt T locs cells slots _ _ X hc hs (fun _ => rfl) hQ fun fs hr => X.returnOut hx hret hd hr
end Rets
section Calls
variable {G : State → Prop}
theorem own_static (go : Go p e below G) (X : Stand p l e R s m args below meth c T locs cells slots) (hx : p.tables.exec = Jvm.exec) (hZ : Z.Warmed39 s.vm) (eT : T.heap = h) {own : String} {index : Nat} {y : MethodName} {bytes : ByteArray} {maxL : Nat} {ret : Option FieldType} {rm : Room} {as' : Array Value} {Q : Option Value → Heap → List Loc → Prop} (hown : s.vm.findClass own = some m.cls) (w1 : (Cond.methodLink own index y).before a0 Z = true) (w2 : (Cond.static y).before a0 Z = true) (w3 : (Cond.initialized y.cls).before a0 Z = true) (w4 : (Cond.code y bytes maxL ret).before a0 Z = true)
    (hy : y.cls ≠ "java/lang/invoke/MethodHandle" ∧ y.cls ≠ "java/lang/invoke/VarHandle") (hM : Con l Z y bytes maxL ret rm as' h Q) (W : Nat) (hf : rm.frames + 1 ≤ R.frames) (hl : W + (maxL + 11) + rm.locals ≤ R.locals) (hc : cells + rm.cells ≤ R.cells) (hs : slots + rm.slots ≤ R.slots)
    {g : JFrame} (hg : g.method = m) (hsize : g.locals.size = c.maxLocals) (argsL rest : List Value) (has : argsL.toArray = as') (hlen : ∀ sig, parseMethodDescriptor y.desc = some sig → argsL.length = sig.parameters.length)
    (hstack : g.stack = argsL.reverse ++ rest) (hW : 2 * g.monitorRoom + (rest.map fun v => v.category).sum ≤ W) (hd : decode c.code g.pc = .ok (.invokestatic index, 3))
    (k : ∀ (T' : State) (L' : List Loc) (v : Option Value), Stand p l e R s m args below meth c T' (locs ++ L') (cells + rm.cells) (slots + rm.slots) → Q v T'.heap L' → G (T'.setTop { g with pc := g.pc + 3, stack := v.toList ++ rest })) : G (T.setTop g) := by
  obtain ⟨v, _, ⟨T1, L1, k1, n1⟩, -, X1, ⟨Lc, hQ, l1, y1, z1⟩, st⟩ := Jvm.LawKit.callS X hx hown (mvT hZ w1) (mvT hZ w2) (mvT hZ w3) (mvT hZ w4) hy (backOf (R := R) (W := W) (hM []) hZ w4 w3 hf hl) hg hsize hlen hstack hW hd (fun _ _ => ⟨has, eT, hc, hs⟩)
  dsimp only [Pt.U, Pt.locs, Pt.cells, Pt.slots] at X1 l1 y1 z1 st hQ
  subst l1 y1 z1
  exact go _ _ st (k T1 Lc v X1 hQ)
theorem own_init (go : Go p e below G) (X : Stand p l e R s m args below meth c T locs cells slots) (hx : p.tables.exec = Jvm.exec) (hZ : Z.Warmed39 s.vm) (eT : T.heap = h) {own : String} {index : Nat} {y : MethodName} {bytes : ByteArray} {maxL : Nat} {rm : Room} {as' : Array Value} {Q : Option Value → Heap → List Loc → Prop} (hy1 : y.name = "<init>") (hown : s.vm.findClass own = some m.cls) (w1 : (Cond.methodLink own index y).before a0 Z = true) (w2 : (Cond.instanceMethod y).before a0 Z = true) (w3 : (Cond.initialized y.cls).before a0 Z = true) (w4 : (Cond.code y bytes maxL none).before a0 Z = true)
    (hy : y.cls ≠ "java/lang/invoke/MethodHandle" ∧ y.cls ≠ "java/lang/invoke/VarHandle") (hM : Con l Z y bytes maxL none rm as' h Q) (W : Nat) (hf : rm.frames + 1 ≤ R.frames) (hl : W + (maxL + 11) + rm.locals ≤ R.locals) (hc : cells + rm.cells ≤ R.cells) (hs : slots + rm.slots ≤ R.slots)
    {g : JFrame} (hg : g.method = m) (hsize : g.locals.size = c.maxLocals) (a : Addr) (argsL rest : List Value) (has : (.ref a :: argsL).toArray = as') (hlen : ∀ sig, parseMethodDescriptor y.desc = some sig → argsL.length = sig.parameters.length)
    (hstack : g.stack = argsL.reverse ++ .ref a :: rest) (hW : 2 * g.monitorRoom + (rest.map fun v => v.category).sum ≤ W) (hd : decode c.code g.pc = .ok (.invokespecial index, 3))
    (k : ∀ (T' : State) (L' : List Loc) (v : Option Value), Stand p l e R s m args below meth c T' (locs ++ L') (cells + rm.cells) (slots + rm.slots) → Q v T'.heap L' → G (T'.setTop { g with pc := g.pc + 3, stack := v.toList ++ rest })) : G (T.setTop g) := by
  obtain ⟨v, _, ⟨T1, L1, k1, n1⟩, -, X1, ⟨Lc, hQ, l1, y1, z1⟩, st⟩ := X.specialBack hx hy1 hown (mvT hZ w1) (mvT hZ w2) (mvT hZ w4) hy (backOf (R := R) (W := W) (hM []) hZ w4 w3 hf hl) hg hsize (Steps.refl _) (a := a) hlen hstack hW hd (fun _ _ => ⟨has, eT, hc, hs⟩)
  dsimp only [Pt.U, Pt.locs, Pt.cells, Pt.slots] at X1 l1 y1 z1 st hQ
  subst l1 y1 z1
  exact go _ _ (fun t k => st.trans k) (k T1 Lc v X1 hQ)
theorem own_virtual (go : Go p e below G) (X : Stand p l e R s m args below meth c T locs cells slots) (hx : p.tables.exec = Jvm.exec) (hZ : Z.Warmed39 s.vm) (eT : T.heap = h) {own : String} {index : Nat} {y : MethodName} {bytes : ByteArray} {maxL : Nat} {ret : Option FieldType} {rm : Room} {as' : Array Value} {Q : Option Value → Heap → List Loc → Prop} {C : String} {z : MethodName} (hown : s.vm.findClass own = some m.cls) (w1 : (Cond.methodLink own index y).before a0 Z = true) (w2 : (Cond.declares y).before a0 Z = true) (hnf : NotFace s y) (w3 : (Cond.selects C y z).before a0 Z = true) (w4 : (Cond.instanceMethod z).before a0 Z = true) (w5 : (Cond.initialized z.cls).before a0 Z = true) (w6 : (Cond.code z bytes maxL ret).before a0 Z = true)
    (hy : y.cls ≠ "java/lang/invoke/MethodHandle" ∧ y.cls ≠ "java/lang/invoke/VarHandle") (hM : Con l Z z bytes maxL ret rm as' h Q) (W : Nat) (hf : rm.frames + 1 ≤ R.frames) (hl : W + (maxL + 11) + rm.locals ≤ R.locals) (hc : cells + rm.cells ≤ R.cells) (hs : slots + rm.slots ≤ R.slots)
    {a : Addr} (E : Exa Z h a C) {g : JFrame} (hg : g.method = m) (hsize : g.locals.size = c.maxLocals) (argsL rest : List Value) (has : (.ref a :: argsL).toArray = as') (hlen : ∀ sig, parseMethodDescriptor y.desc = some sig → argsL.length = sig.parameters.length)
    (hstack : g.stack = argsL.reverse ++ .ref a :: rest) (hW : 2 * g.monitorRoom + (rest.map fun v => v.category).sum ≤ W) (hd : decode c.code g.pc = .ok (.invokevirtual index, 3))
    (k : ∀ (T' : State) (L' : List Loc) (v : Option Value), Stand p l e R s m args below meth c T' (locs ++ L') (cells + rm.cells) (slots + rm.slots) → Q v T'.heap L' → G (T'.setTop { g with pc := g.pc + 3, stack := v.toList ++ rest })) : G (T.setTop g) := by
  obtain ⟨cq, kq, qa, qb, qc⟩ := isOf hZ eT E
  obtain ⟨v, _, ⟨T1, L1, k1, n1⟩, -, X1, ⟨Lc, hQ, l1, y1, z1⟩, st⟩ := X.virtualBack hx hown (mvT hZ w1) (mvT hZ w2) hnf (mvT hZ w3) (mvT hZ w4) hy (backOf (R := R) (W := W) (hM []) hZ w6 w5 hf hl) qa qc hg hsize (Steps.refl _) hlen hstack hW hd (fun _ _ => ⟨has, eT, hc, hs⟩)
  dsimp only [Pt.U, Pt.locs, Pt.cells, Pt.slots] at X1 l1 y1 z1 st hQ
  subst l1 y1 z1
  exact go _ _ (fun t k => st.trans k) (k T1 Lc v X1 hQ)
theorem own_private (go : Go p e below G) (X : Stand p l e R s m args below meth c T locs cells slots) (hx : p.tables.exec = Jvm.exec) (hZ : Z.Warmed39 s.vm) (eT : T.heap = h) {own : String} {index : Nat} {y : MethodName} {bytes : ByteArray} {maxL : Nat} {ret : Option FieldType} {rm : Room} {as' : Array Value} {Q : Option Value → Heap → List Loc → Prop} (hown : s.vm.findClass own = some m.cls) (w1 : (Cond.methodLink own index y).before a0 Z = true) (w2 : (Cond.instanceMethod y).before a0 Z = true) (w3 : (Cond.selects y.cls y y).before a0 Z = true) (w4 : (Cond.privateMethod y).before a0 Z = true) (w5 : (Cond.initialized y.cls).before a0 Z = true) (w6 : (Cond.code y bytes maxL ret).before a0 Z = true)
    (hy : y.cls ≠ "java/lang/invoke/MethodHandle" ∧ y.cls ≠ "java/lang/invoke/VarHandle") (hM : Con l Z y bytes maxL ret rm as' h Q) (W : Nat) (hf : rm.frames + 1 ≤ R.frames) (hl : W + (maxL + 11) + rm.locals ≤ R.locals) (hc : cells + rm.cells ≤ R.cells) (hs : slots + rm.slots ≤ R.slots)
    {a : Addr} {C : String} (E : Exa Z h a C) {g : JFrame} (hg : g.method = m) (hsize : g.locals.size = c.maxLocals) (argsL rest : List Value) (has : (.ref a :: argsL).toArray = as') (hlen : ∀ sig, parseMethodDescriptor y.desc = some sig → argsL.length = sig.parameters.length)
    (hstack : g.stack = argsL.reverse ++ .ref a :: rest) (hW : 2 * g.monitorRoom + (rest.map fun v => v.category).sum ≤ W) (hd : decode c.code g.pc = .ok (.invokevirtual index, 3))
    (k : ∀ (T' : State) (L' : List Loc) (v : Option Value), Stand p l e R s m args below meth c T' (locs ++ L') (cells + rm.cells) (slots + rm.slots) → Q v T'.heap L' → G (T'.setTop { g with pc := g.pc + 3, stack := v.toList ++ rest })) : G (T.setTop g) := by
  obtain ⟨cq, q1, q2⟩ := E.cell
  obtain ⟨v, _, ⟨T1, L1, k1, n1⟩, -, X1, ⟨Lc, hQ, l1, y1, z1⟩, st⟩ := X.privateBack hx hown (mvT hZ w1) (mvT hZ w2) (mvT hZ w3) (Cond.privateMethod_at (mvP hZ w4 (args := #[]))) (mvT hZ w6) hy (backOf (R := R) (W := W) (hM []) hZ w6 w5 hf hl) hg hsize (Steps.refl _) (a := a) (by rw [eT]; exact q1) q2 hlen hstack hW hd (fun _ _ => ⟨has, eT, hc, hs⟩)
  dsimp only [Pt.U, Pt.locs, Pt.cells, Pt.slots] at X1 l1 y1 z1 st hQ
  subst l1 y1 z1
  exact go _ _ (fun t k => st.trans k) (k T1 Lc v X1 hQ)
end Calls
end Own
section OwnArr
variable {p : Program} {l : Launch} {e : Env} {R : Room} {s : State} {m : MethodId} {args : Array Value} {below : List Frame} {meth : Method} {c : Code} {T : State} {locs : List Loc} {cells slots : Nat} {Z : State} {a0 : Array Value} {h h' : Heap} {a b : Addr} {ty : FieldType} {n sl : Nat} {f : Nat → Value} {v w : Value} {ws : List Addr}
/-- an array: its kind, its length, what lies in it -/
def Ary (Z : State) (h : Heap) (a : Addr) (ty : FieldType) (n : Nat) (f : Nat → Value) : Prop := ∃ c : Cell, Arr Z h a c ty ∧ c.slots.size = n ∧ n < 2147483648 ∧ (∀ i, i < n → c.slots[i]? = some (f i)) ∧ ∀ i, i < n → fits ty (f i) = true
theorem Ary.lt (F : Ary Z h a ty n f) : a < h.size := by obtain ⟨c, A, -⟩ := F; exact A.lt
theorem own_ary_ns (F : Ary Z h a ty n f) : ∃ c : Cell, h[a]? = some c ∧ c.vm.isStatics = false := by obtain ⟨c, A, -⟩ := F; exact ⟨c, A.1, A.plain⟩
theorem Ary.ext (F : Ary Z h a ty n f) (E : Ext h h') : Ary Z h' a ty n f := by obtain ⟨c, A, r⟩ := F; exact ⟨c, A.ext E, r⟩
theorem Ary.other (F : Ary Z h b ty n f) (W : Wr h h' a sl v) (q : b ≠ a) : Ary Z h' b ty n f := by obtain ⟨c, A, r⟩ := F; exact ⟨c, A.other W q, r⟩
theorem Ary.keep (F : Ary Z h a ty n f) (K : Keep h h' ws) (q : a ∉ ws) : Ary Z h' a ty n f := by obtain ⟨c, A, r⟩ := F; exact ⟨c, ⟨K.2.1 a c A.1 q, A.2⟩, r⟩
theorem Ary.cong {g : Nat → Value} (F : Ary Z h a ty n f) (q : ∀ i, i < n → f i = g i) : Ary Z h a ty n g := by
  obtain ⟨c, A, r1, r2, r3, r4⟩ := F
  exact ⟨c, A, r1, r2, fun i hi => by rw [← q i hi]; exact r3 i hi, fun i hi => by rw [← q i hi]; exact r4 i hi⟩
theorem Ary.same (W : Wr h h' a sl v) (F : Ary Z h a ty n f) (hv : fits ty v = true) : Ary Z h' a ty n (fun q => if q = sl then v else f q) := by
  obtain ⟨c, A, r1, r2, r3, r4⟩ := F
  refine ⟨_, A.same W, (sz_set _ _ _).trans r1, r2, fun i hi => ?_, fun i hi => ?_⟩
  · show (c.slots.setIfInBounds sl v)[i]? = _
    by_cases q : i = sl
    · subst q; simp [r1, hi]
    · rw [Array.getElem?_setIfInBounds_ne (fun z => q z.symm), r3 i hi]; simp [q]
  · show fits ty (if i = sl then v else f i) = true
    by_cases q : i = sl
    · simp [q, hv]
    · simp [q, r4 i hi]
theorem Ary.new {cA : ClassId} {z : Int32} (A : Arr Z h a (newA cA ty z) ty) (q : ¬ z < 0) : Ary Z h a ty z.toNatClampNeg (fun _ => defaultValue ty) :=
  ⟨_, A, sz_new _ _ _, (back32 q).2, fun i hi => by simp [newA, hi], fun i _ => by cases ty <;> rfl⟩
theorem Ary.ints (F : Ary Z h a ty n f) (ht : ty = .int ∨ ty = .boolean ∨ ty = .byte ∨ ty = .char ∨ ty = .short) : ∃ gg : Nat → Int32, Ary Z h a ty n (fun i => .int (gg i)) := by
  refine ⟨fun i => match f i with | .int y => y | _ => 0, F.cong fun i hi => ?_⟩
  obtain ⟨c, -, -, -, -, r4⟩ := F
  obtain ⟨y, hy⟩ := fit_I (r4 i hi) ht
  show f i = Value.int (match f i with | .int y => y | _ => 0)
  rw [hy]
theorem ix_of {j : Int32} {i : Nat} (hi : j.toInt = i) : j.toNatClampNeg = i := by simp [Int32.toNatClampNeg, hi]
theorem ix_in {j : Int32} {i k : Nat} (hi : j.toInt = i) (hk : i < k) : ¬ (j < 0 ∨ k ≤ j.toNatClampNeg) := by
  rw [ix_of hi]
  intro q
  rcases q with q | q
  · rw [Int32.lt_iff_toInt_lt, hi] at q
    have : (0 : Int32).toInt = 0 := rfl
    omega
  · omega
section St
variable {G : State → Prop}
theorem own_iastore (go : Go p e below G) (X : Stand p l e R s m args below meth c T locs cells slots) (hx : p.tables.exec = Jvm.exec) (hZ : Z.Warmed39 s.vm) (eT : T.heap = h) {j x : Int32} (i : Nat) (hi : j.toInt = i) (hlt : i < n) {g : JFrame} (hg : g.method = m) {rest : List Value} (F : Ary Z h a .int n f) (hs : g.stack = .int x :: .int j :: .ref a :: rest) (hd : decode c.code g.pc = .ok (.iastore, 1))
    (k : ∀ (T' : State) (h' : Heap), Stand p l e R s m args below meth c T' (locs ++ [⟨a, i⟩]) cells slots → T'.heap = h' → Wr h h' a i (.int x) → Ary Z h' a .int n (fun q => if q = i then .int x else f q) → G (T'.setTop { g with pc := g.pc + 1, stack := rest })) : G (T.setTop g) := by
  obtain ⟨cl, A, r1, r2, r3, r4⟩ := F
  have hj : ¬ (j < 0 ∨ cl.slots.size ≤ j.toNatClampNeg) := by rw [r1]; exact ix_in hi hlt
  obtain ⟨T1, h1, X1, e1, W1, st⟩ := stI X hx hZ eT A hj hg hs hd
  rw [ix_of hi] at X1 W1
  exact go _ _ st (k T1 h1 X1 e1 W1 (Ary.same W1 ⟨cl, A, r1, r2, r3, r4⟩ rfl))
theorem own_bastore (go : Go p e below G) (X : Stand p l e R s m args below meth c T locs cells slots) (hx : p.tables.exec = Jvm.exec) (hZ : Z.Warmed39 s.vm) (eT : T.heap = h) {j x : Int32} (i : Nat) (hi : j.toInt = i) (hlt : i < n) {g : JFrame} (hg : g.method = m) {rest : List Value} (F : Ary Z h a .byte n f) (hs : g.stack = .int x :: .int j :: .ref a :: rest) (hd : decode c.code g.pc = .ok (.bastore, 1))
    (k : ∀ (T' : State) (h' : Heap), Stand p l e R s m args below meth c T' (locs ++ [⟨a, i⟩]) cells slots → T'.heap = h' → Wr h h' a i (.int (nar .byte x)) → Ary Z h' a .byte n (fun q => if q = i then .int (nar .byte x) else f q) → G (T'.setTop { g with pc := g.pc + 1, stack := rest })) : G (T.setTop g) := by
  obtain ⟨cl, A, r1, r2, r3, r4⟩ := F
  have hj : ¬ (j < 0 ∨ cl.slots.size ≤ j.toNatClampNeg) := by rw [r1]; exact ix_in hi hlt
  obtain ⟨T1, h1, X1, e1, W1, st⟩ := stB X hx hZ eT A hj hg hs hd
  rw [ix_of hi] at X1 W1
  exact go _ _ st (k T1 h1 X1 e1 W1 (Ary.same W1 ⟨cl, A, r1, r2, r3, r4⟩ (fits_nar_byte _)))
theorem own_zastore (go : Go p e below G) (X : Stand p l e R s m args below meth c T locs cells slots) (hx : p.tables.exec = Jvm.exec) (hZ : Z.Warmed39 s.vm) (eT : T.heap = h) {j x : Int32} (i : Nat) (hi : j.toInt = i) (hlt : i < n) {g : JFrame} (hg : g.method = m) {rest : List Value} (F : Ary Z h a .boolean n f) (hs : g.stack = .int x :: .int j :: .ref a :: rest) (hd : decode c.code g.pc = .ok (.bastore, 1))
    (k : ∀ (T' : State) (h' : Heap), Stand p l e R s m args below meth c T' (locs ++ [⟨a, i⟩]) cells slots → T'.heap = h' → Wr h h' a i (.int (nar .boolean x)) → Ary Z h' a .boolean n (fun q => if q = i then .int (nar .boolean x) else f q) → G (T'.setTop { g with pc := g.pc + 1, stack := rest })) : G (T.setTop g) := by
  obtain ⟨cl, A, r1, r2, r3, r4⟩ := F
  have hj : ¬ (j < 0 ∨ cl.slots.size ≤ j.toNatClampNeg) := by rw [r1]; exact ix_in hi hlt
  obtain ⟨T1, h1, X1, e1, W1, st⟩ := stZ X hx hZ eT A hj hg hs hd
  rw [ix_of hi] at X1 W1
  exact go _ _ st (k T1 h1 X1 e1 W1 (Ary.same W1 ⟨cl, A, r1, r2, r3, r4⟩ (fits_nar_bool _)))
theorem own_iaload (go : Go p e below G) (X : Stand p l e R s m args below meth c T locs cells slots) (hx : p.tables.exec = Jvm.exec) (hZ : Z.Warmed39 s.vm) (eT : T.heap = h) {j : Int32} (i : Nat) (hi : j.toInt = i) (hlt : i < n) {g : JFrame} (hg : g.method = m) {rest : List Value} (F : Ary Z h a .int n f) (hs : g.stack = .int j :: .ref a :: rest) (hd : decode c.code g.pc = .ok (.iaload, 1)) (k : G (T.setTop { g with pc := g.pc + 1, stack := f i :: rest })) : G (T.setTop g) := by
  obtain ⟨cl, A, r1, r2, r3, r4⟩ := F
  have hj : ¬ (j < 0 ∨ cl.slots.size ≤ j.toNatClampNeg) := by rw [r1]; exact ix_in hi hlt
  exact go _ _ (fun t => X.iaload hx (by rw [eT]; exact A.1) (State.isArrayOf_alike hZ.alike A.2.1) A.2.2 hj (by rw [ix_of hi]; exact r3 i hlt) hg hs hd t) k
theorem own_baload (go : Go p e below G) (X : Stand p l e R s m args below meth c T locs cells slots) (hx : p.tables.exec = Jvm.exec) (hZ : Z.Warmed39 s.vm) (eT : T.heap = h) {j : Int32} (i : Nat) (hi : j.toInt = i) (hlt : i < n) {g : JFrame} (hg : g.method = m) {rest : List Value} (F : Ary Z h a .byte n f) (hs : g.stack = .int j :: .ref a :: rest) (hd : decode c.code g.pc = .ok (.baload, 1)) (k : G (T.setTop { g with pc := g.pc + 1, stack := f i :: rest })) : G (T.setTop g) := by
  obtain ⟨cl, A, r1, r2, r3, r4⟩ := F
  have hj : ¬ (j < 0 ∨ cl.slots.size ≤ j.toNatClampNeg) := by rw [r1]; exact ix_in hi hlt
  exact go _ _ (fun t => X.baloadBytes hx (by rw [eT]; exact A.1) (State.isArrayOf_alike hZ.alike A.2.1) A.2.2 hj (by rw [ix_of hi]; exact r3 i hlt) hg hs hd t) k
theorem own_zaload (go : Go p e below G) (X : Stand p l e R s m args below meth c T locs cells slots) (hx : p.tables.exec = Jvm.exec) (hZ : Z.Warmed39 s.vm) (eT : T.heap = h) {j : Int32} (i : Nat) (hi : j.toInt = i) (hlt : i < n) {g : JFrame} (hg : g.method = m) {rest : List Value} (F : Ary Z h a .boolean n f) (hs : g.stack = .int j :: .ref a :: rest) (hd : decode c.code g.pc = .ok (.baload, 1)) (k : G (T.setTop { g with pc := g.pc + 1, stack := f i :: rest })) : G (T.setTop g) := by
  obtain ⟨cl, A, r1, r2, r3, r4⟩ := F
  have hj : ¬ (j < 0 ∨ cl.slots.size ≤ j.toNatClampNeg) := by rw [r1]; exact ix_in hi hlt
  exact go _ _ (fun t => X.baloadBooleans hx (by rw [eT]; exact A.1) (State.isArrayOf_alike hZ.alike A.2.1) A.2.2 hj (by rw [ix_of hi]; exact r3 i hlt) hg hs hd t) k
theorem own_arrlen (go : Go p e below G) (X : Stand p l e R s m args below meth c T locs cells slots) (hx : p.tables.exec = Jvm.exec) (hZ : Z.Warmed39 s.vm) (eT : T.heap = h) {g : JFrame} (hg : g.method = m) {rest : List Value} (F : Ary Z h a ty n f) (hs : g.stack = .ref a :: rest) (hd : decode c.code g.pc = .ok (.arraylength, 1)) (k : G (T.setTop { g with pc := g.pc + 1, stack := .int n.toInt32 :: rest })) : G (T.setTop g) := by
  obtain ⟨cl, A, r1, r2, r3, r4⟩ := F
  subst r1
  exact go _ _ (fun t => X.arraylength hx (by rw [eT]; exact A.1) (State.isArrayOf_alike hZ.alike A.2.1) hg hs hd t) k
theorem own_newarr (go : Go p e below G) (X : Stand p l e R s m args below meth c T locs cells slots) (hx : p.tables.exec = Jvm.exec) (hZ : Z.Warmed39 s.vm) (eT : T.heap = h) {g : JFrame} (hg : g.method = m) {rest : List Value} {aty : ArrayType} (w : (Cond.arrayClass (newarray.typeOf aty)).before a0 Z = true) {z : Int32} (nn : Nat) (hz : z.toInt = nn) (hd : decode c.code g.pc = .ok (.newarray aty, 2)) (hs : g.stack = .int z :: rest)
    (cap : Nat) (hcap : nn ≤ cap) (hb : cap * 8 ≤ 536870912) (hc : cells + 1 ≤ R.cells) (hl : slots + cap ≤ R.slots)
    (k : ∀ (T' : State) (h' : Heap) (a : Addr), Stand p l e R s m args below meth c T' locs (cells + 1) (slots + cap) → T'.heap = h' → Ext h h' → a = h.size → Ary Z h' a (newarray.typeOf aty) nn (fun _ => defaultValue (newarray.typeOf aty)) → G (T'.setTop { g with pc := g.pc + 2, stack := .ref a :: rest })) : G (T.setTop g) := by
  have q : ¬ z < 0 := by
    rw [Int32.lt_iff_toInt_lt, hz]
    have : (0 : Int32).toInt = 0 := rfl
    omega
  obtain ⟨T1, h1, cA, X1, e1, E1, A1, st⟩ := newP X hx hZ w eT hg hd hs q (cap := cap) (by rw [ix_of hz]; exact hcap) hb hc hl
  have F := Ary.new A1 q
  rw [ix_of hz] at F
  exact go _ _ st (k T1 h1 _ X1 e1 E1 rfl F)
end St
end OwnArr
section OwnSta
variable {args : Array Value} {s Z : State} {C n d K : String} {a b : Addr} {h h' : Heap} {v w : Value} {t : Term} {ws : List Addr}
theorem own_sta (hx : (Jvm.Cond.exactly (Term.static C n d) K).value args s none s [] = some true) (w1 : (Jvm.Cond.initialized C).before args s = true) (w2 : (Jvm.Cond.laysStatic C n d).before args s = true) :
    ∃ a, Sta s s.heap C n d (.ref a) ∧ Exa s s.heap a K ∧ (Term.static C n d).eval args s none [] s = some (.ref a) := by
  obtain ⟨a, ev⟩ := exa_v hx
  exact ⟨a, Sta.start ev (Or.inr ⟨w1, w2⟩), Exa.start ev hx, ev⟩
theorem own_fieldeq {k : Int32} (ev : t.eval args s none [] s = some (.ref a)) (hq : (Jvm.Cond.eq (.field t C n d) (.int k)).value args s none s [] = some true) : Fld s s.heap a C n d (.int k) := by
  obtain ⟨x, y, ex, ey, k1, k2⟩ := cmp_v (Or.inl hq)
  have ey' := Option.some.inj ((Term.int_eval k).symm.trans ey)
  subst ey'
  obtain ⟨z, rfl⟩ := k2
  have := gotT (Cond.eq_ints ex ey) hq
  subst this
  rw [fld_at ev] at ex
  exact Fld.start ex
theorem own_sta_keep (F : Sta Z h C n d v) (K : Keep h h' ws) (q : ∀ w ∈ ws, ∃ c : Cell, h[w]? = some c ∧ c.vm.isStatics = false) : Sta Z h' C n d v := by
  obtain ⟨cf, i, k, f, st, cell, h1, h2, h3, h4, h5, h6, h7⟩ := F
  refine ⟨cf, i, k, f, st, cell, h1, h2, h3, h4, K.2.1 st cell h5 (fun hm => ?_), h6, h7⟩
  obtain ⟨c, e1, e2⟩ := q st hm
  cases h5.symm.trans e1
  rw [h6] at e2
  cases e2
theorem own_exa_ns (E : Exa Z h a C) : ∃ c : Cell, h[a]? = some c ∧ c.vm.isStatics = false := by
  obtain ⟨cell, k, h1, -, -, h4, -⟩ := E
  exact ⟨cell, h1, h4⟩
end OwnSta

theorem own_m (a b c : Int64) (f m0 l0 : Int64) (hf : f = 1 + (a &&& 2305843009213693951)) (hm : m0 = f + (b &&& 2305843009213693951)) (hl : l0 = m0 + 1 + (c &&& 2305843009213693951)) :
    m0 - m0 + 1 = 1 ∧ ¬ (m0 - f + 1) < 1 ∧ ¬ (l0 - (m0 + 1) + 1) < 1 ∧ (m0 - f + 1) + (l0 - (m0 + 1) + 1) = l0 - f + 1 := by
  have e1 : (a &&& 2305843009213693951).toInt = a.toInt % (2 ^ 61 : Nat) := c_maskL a _ 61 (by decide) (by decide)
  have e2 : (b &&& 2305843009213693951).toInt = b.toInt % (2 ^ 61 : Nat) := c_maskL b _ 61 (by decide) (by decide)
  have e3 : (c &&& 2305843009213693951).toInt = c.toInt % (2 ^ 61 : Nat) := c_maskL c _ 61 (by decide) (by decide)
  generalize (a &&& 2305843009213693951) = A at *
  generalize (b &&& 2305843009213693951) = B at *
  generalize (c &&& 2305843009213693951) = D at *
  have o1 : (1 : Int64).toInt = 1 := rfl
  have f1 : f.toInt = 1 + A.toInt := by have q := c_ladd 1 A; have r := rng64 (1 + A); rw [hf]; omega
  have m1 : m0.toInt = f.toInt + B.toInt := by have q := c_ladd f B; have r := rng64 (f + B); rw [hm]; omega
  have m2 : (m0 + 1).toInt = m0.toInt + 1 := by have q := c_ladd m0 1; have r := rng64 (m0 + 1); omega
  have l1 : l0.toInt = m0.toInt + 1 + D.toInt := by have q := c_ladd (m0 + 1) D; have r := rng64 (m0 + 1 + D); rw [hl]; omega
  have x1 : (m0 - m0).toInt = 0 := by have q := c_lsub m0 m0; have r := rng64 (m0 - m0); omega
  have x2 : (m0 - m0 + 1).toInt = 1 := by have q := c_ladd (m0 - m0) 1; have r := rng64 (m0 - m0 + 1); omega
  have y1 : (m0 - f).toInt = B.toInt := by have q := c_lsub m0 f; have r := rng64 (m0 - f); omega
  have y2 : (m0 - f + 1).toInt = B.toInt + 1 := by have q := c_ladd (m0 - f) 1; have r := rng64 (m0 - f + 1); omega
  have z1 : (l0 - (m0 + 1)).toInt = D.toInt := by have q := c_lsub l0 (m0 + 1); have r := rng64 (l0 - (m0 + 1)); omega
  have z2 : (l0 - (m0 + 1) + 1).toInt = D.toInt + 1 := by have q := c_ladd (l0 - (m0 + 1)) 1; have r := rng64 (l0 - (m0 + 1) + 1); omega
  have v1 : (l0 - f).toInt = B.toInt + D.toInt + 1 := by have q := c_lsub l0 f; have r := rng64 (l0 - f); omega
  have v2 : (l0 - f + 1).toInt = B.toInt + D.toInt + 2 := by have q := c_ladd (l0 - f) 1; have r := rng64 (l0 - f + 1); omega
  have s1 : ((m0 - f + 1) + (l0 - (m0 + 1) + 1)).toInt = B.toInt + D.toInt + 2 := by have q := c_ladd (m0 - f + 1) (l0 - (m0 + 1) + 1); have r := rng64 ((m0 - f + 1) + (l0 - (m0 + 1) + 1)); omega
  refine ⟨?_, ?_, ?_, ?_⟩
  · rw [← Int64.toInt_inj, x2, o1]
  · rw [Int64.lt_iff_toInt_lt]; omega
  · rw [Int64.lt_iff_toInt_lt]; omega
  · rw [← Int64.toInt_inj, s1, v2]
theorem own_c255 (u y : Int32) (h : y = (((u.toUInt32 >>> ((8 : Int32) &&& 31).toUInt32).toInt32) &&& (255 : Int32)).toUInt32.toUInt16.toUInt32.toInt32) : ¬ (255 : Int32) < y := by
  generalize ((u.toUInt32 >>> ((8 : Int32) &&& 31).toUInt32).toInt32) = z at h
  have e1 : (z &&& 255).toInt = z.toInt % (2 ^ 8 : Nat) := c_mask z _ 8 (by decide) (by decide)
  have q := c_i2c (z &&& 255)
  rw [← h] at q
  rw [Int32.lt_iff_toInt_lt]
  have : (255 : Int32).toInt = 255 := rfl
  omega
theorem d1_0 : decode method_2_code 0 = .ok (.iload_n 0, 1) := by decide +kernel
theorem d1_1 : decode method_2_code 1 = .ok (.ldc 7, 2) := by decide +kernel
theorem d1_3 : decode method_2_code 3 = .ok (.iand, 1) := by decide +kernel
theorem d1_4 : decode method_2_code 4 = .ok (.bipush 7, 2) := by decide +kernel
theorem d1_6 : decode method_2_code 6 = .ok (.irem, 1) := by decide +kernel
theorem d1_7 : decode method_2_code 7 = .ok (.istore_n 1, 1) := by decide +kernel
theorem d1_8 : decode method_2_code 8 = .ok (.iload_n 1, 1) := by decide +kernel
theorem d1_9 : decode method_2_code 9 = .ok (.ifCond .ne 7, 3) := by decide +kernel
theorem d1_12 : decode method_2_code 12 = .ok (.getstatic 8, 3) := by decide +kernel
theorem d1_15 : decode method_2_code 15 = .ok (.areturn, 1) := by decide +kernel
theorem d1_16 : decode method_2_code 16 = .ok (.iload_n 1, 1) := by decide +kernel
theorem d1_17 : decode method_2_code 17 = .ok (.iconst 1, 1) := by decide +kernel
theorem d1_18 : decode method_2_code 18 = .ok (.if_icmp .ne 7, 3) := by decide +kernel
theorem d1_21 : decode method_2_code 21 = .ok (.getstatic 14, 3) := by decide +kernel
theorem d1_24 : decode method_2_code 24 = .ok (.areturn, 1) := by decide +kernel
theorem d1_25 : decode method_2_code 25 = .ok (.iload_n 1, 1) := by decide +kernel
theorem d1_26 : decode method_2_code 26 = .ok (.iconst 2, 1) := by decide +kernel
theorem d1_27 : decode method_2_code 27 = .ok (.if_icmp .ne 7, 3) := by decide +kernel
theorem d1_30 : decode method_2_code 30 = .ok (.getstatic 17, 3) := by decide +kernel
theorem d1_33 : decode method_2_code 33 = .ok (.areturn, 1) := by decide +kernel
theorem d1_34 : decode method_2_code 34 = .ok (.iload_n 1, 1) := by decide +kernel
theorem d1_35 : decode method_2_code 35 = .ok (.iconst 3, 1) := by decide +kernel
theorem d1_36 : decode method_2_code 36 = .ok (.if_icmp .ne 7, 3) := by decide +kernel
theorem d1_39 : decode method_2_code 39 = .ok (.getstatic 20, 3) := by decide +kernel
theorem d1_42 : decode method_2_code 42 = .ok (.areturn, 1) := by decide +kernel
theorem d1_43 : decode method_2_code 43 = .ok (.iload_n 1, 1) := by decide +kernel
theorem d1_44 : decode method_2_code 44 = .ok (.iconst 4, 1) := by decide +kernel
theorem d1_45 : decode method_2_code 45 = .ok (.if_icmp .ne 7, 3) := by decide +kernel
theorem d1_48 : decode method_2_code 48 = .ok (.getstatic 23, 3) := by decide +kernel
theorem d1_51 : decode method_2_code 51 = .ok (.areturn, 1) := by decide +kernel
theorem d1_52 : decode method_2_code 52 = .ok (.iload_n 1, 1) := by decide +kernel
theorem d1_53 : decode method_2_code 53 = .ok (.iconst 5, 1) := by decide +kernel
theorem d1_54 : decode method_2_code 54 = .ok (.if_icmp .ne 7, 3) := by decide +kernel
theorem d1_57 : decode method_2_code 57 = .ok (.getstatic 26, 3) := by decide +kernel
theorem d1_60 : decode method_2_code 60 = .ok (.areturn, 1) := by decide +kernel
theorem d1_61 : decode method_2_code 61 = .ok (.getstatic 29, 3) := by decide +kernel
theorem d1_64 : decode method_2_code 64 = .ok (.areturn, 1) := by decide +kernel
theorem d2_0 : decode jdk_42_method_139_code 0 = .ok (.getstatic 38, 3) := by decide +kernel
theorem d2_3 : decode jdk_42_method_139_code 3 = .ok (.ifCond .eq 23, 3) := by decide +kernel
theorem d2_6 : decode jdk_42_method_139_code 6 = .ok (.iload_n 0, 1) := by decide +kernel
theorem d2_7 : decode jdk_42_method_139_code 7 = .ok (.invokestatic 1015, 3) := by decide +kernel
theorem d2_10 : decode jdk_42_method_139_code 10 = .ok (.ifCond .eq 16, 3) := by decide +kernel
theorem d2_13 : decode jdk_42_method_139_code 13 = .ok (.new 10, 3) := by decide +kernel
theorem d2_16 : decode jdk_42_method_139_code 16 = .ok (.dup, 1) := by decide +kernel
theorem d2_17 : decode jdk_42_method_139_code 17 = .ok (.iload_n 0, 1) := by decide +kernel
theorem d2_18 : decode jdk_42_method_139_code 18 = .ok (.invokestatic 1018, 3) := by decide +kernel
theorem d2_21 : decode jdk_42_method_139_code 21 = .ok (.iconst 0, 1) := by decide +kernel
theorem d2_22 : decode jdk_42_method_139_code 22 = .ok (.invokespecial 209, 3) := by decide +kernel
theorem d2_25 : decode jdk_42_method_139_code 25 = .ok (.areturn, 1) := by decide +kernel
theorem d3_0 : decode jdk_43_method_3_code 0 = .ok (.iload_n 0, 1) := by decide +kernel
theorem d3_1 : decode jdk_43_method_3_code 1 = .ok (.sipush 255, 3) := by decide +kernel
theorem d3_4 : decode jdk_43_method_3_code 4 = .ok (.if_icmp .gt 7, 3) := by decide +kernel
theorem d3_7 : decode jdk_43_method_3_code 7 = .ok (.iconst 1, 1) := by decide +kernel
theorem d3_8 : decode jdk_43_method_3_code 8 = .ok (.goto 4, 3) := by decide +kernel
theorem d3_12 : decode jdk_43_method_3_code 12 = .ok (.ireturn, 1) := by decide +kernel
theorem d4_0 : decode jdk_43_method_46_code 0 = .ok (.iconst 1, 1) := by decide +kernel
theorem d4_1 : decode jdk_43_method_46_code 1 = .ok (.newarray .byte, 2) := by decide +kernel
theorem d4_3 : decode jdk_43_method_46_code 3 = .ok (.dup, 1) := by decide +kernel
theorem d4_4 : decode jdk_43_method_46_code 4 = .ok (.iconst 0, 1) := by decide +kernel
theorem d4_5 : decode jdk_43_method_46_code 5 = .ok (.iload_n 0, 1) := by decide +kernel
theorem d4_6 : decode jdk_43_method_46_code 6 = .ok (.i2b, 1) := by decide +kernel
theorem d4_7 : decode jdk_43_method_46_code 7 = .ok (.bastore, 1) := by decide +kernel
theorem d4_8 : decode jdk_43_method_46_code 8 = .ok (.areturn, 1) := by decide +kernel
theorem d5_0 : decode jdk_42_method_151_code 0 = .ok (.aload_n 0, 1) := by decide +kernel
theorem d5_1 : decode jdk_42_method_151_code 1 = .ok (.invokespecial 1, 3) := by decide +kernel
theorem d5_4 : decode jdk_42_method_151_code 4 = .ok (.aload_n 0, 1) := by decide +kernel
theorem d5_5 : decode jdk_42_method_151_code 5 = .ok (.aload_n 1, 1) := by decide +kernel
theorem d5_6 : decode jdk_42_method_151_code 6 = .ok (.putfield 9, 3) := by decide +kernel
theorem d5_9 : decode jdk_42_method_151_code 9 = .ok (.aload_n 0, 1) := by decide +kernel
theorem d5_10 : decode jdk_42_method_151_code 10 = .ok (.iload_n 2, 1) := by decide +kernel
theorem d5_11 : decode jdk_42_method_151_code 11 = .ok (.putfield 15, 3) := by decide +kernel
theorem d5_14 : decode jdk_42_method_151_code 14 = .ok (.return_, 1) := by decide +kernel
theorem d7_0 : decode prog_106_method_1_code 0 = .ok (.aload_n 0, 1) := by decide +kernel
theorem d7_1 : decode prog_106_method_1_code 1 = .ok (.invokespecial 1, 3) := by decide +kernel
theorem d7_4 : decode prog_106_method_1_code 4 = .ok (.aload_n 0, 1) := by decide +kernel
theorem d7_5 : decode prog_106_method_1_code 5 = .ok (.aload_n 1, 1) := by decide +kernel
theorem d7_6 : decode prog_106_method_1_code 6 = .ok (.putfield 7, 3) := by decide +kernel
theorem d7_9 : decode prog_106_method_1_code 9 = .ok (.aload_n 0, 1) := by decide +kernel
theorem d7_10 : decode prog_106_method_1_code 10 = .ok (.lload_n 2, 1) := by decide +kernel
theorem d7_11 : decode prog_106_method_1_code 11 = .ok (.putfield 13, 3) := by decide +kernel
theorem d7_14 : decode prog_106_method_1_code 14 = .ok (.aload_n 0, 1) := by decide +kernel
theorem d7_15 : decode prog_106_method_1_code 15 = .ok (.aload 4, 2) := by decide +kernel
theorem d7_17 : decode prog_106_method_1_code 17 = .ok (.putfield 17, 3) := by decide +kernel
theorem d7_20 : decode prog_106_method_1_code 20 = .ok (.aload_n 0, 1) := by decide +kernel
theorem d7_21 : decode prog_106_method_1_code 21 = .ok (.iload 5, 2) := by decide +kernel
theorem d7_23 : decode prog_106_method_1_code 23 = .ok (.putfield 21, 3) := by decide +kernel
theorem d7_26 : decode prog_106_method_1_code 26 = .ok (.aload_n 0, 1) := by decide +kernel
theorem d7_27 : decode prog_106_method_1_code 27 = .ok (.lload 6, 2) := by decide +kernel
theorem d7_29 : decode prog_106_method_1_code 29 = .ok (.putfield 25, 3) := by decide +kernel
theorem d7_32 : decode prog_106_method_1_code 32 = .ok (.aload_n 0, 1) := by decide +kernel
theorem d7_33 : decode prog_106_method_1_code 33 = .ok (.lload 8, 2) := by decide +kernel
theorem d7_35 : decode prog_106_method_1_code 35 = .ok (.putfield 28, 3) := by decide +kernel
theorem d7_38 : decode prog_106_method_1_code 38 = .ok (.aload_n 0, 1) := by decide +kernel
theorem d7_39 : decode prog_106_method_1_code 39 = .ok (.lload 10, 2) := by decide +kernel
theorem d7_41 : decode prog_106_method_1_code 41 = .ok (.putfield 31, 3) := by decide +kernel
theorem d7_44 : decode prog_106_method_1_code 44 = .ok (.aload_n 0, 1) := by decide +kernel
theorem d7_45 : decode prog_106_method_1_code 45 = .ok (.iload 12, 2) := by decide +kernel
theorem d7_47 : decode prog_106_method_1_code 47 = .ok (.putfield 34, 3) := by decide +kernel
theorem d7_50 : decode prog_106_method_1_code 50 = .ok (.return_, 1) := by decide +kernel
theorem d8_0 : decode jdk_30_method_1_code 0 = .ok (.aload_n 0, 1) := by decide +kernel
theorem d8_1 : decode jdk_30_method_1_code 1 = .ok (.invokespecial 1, 3) := by decide +kernel
theorem d8_4 : decode jdk_30_method_1_code 4 = .ok (.return_, 1) := by decide +kernel
theorem d9_0 : decode prog_106_method_3_code 0 = .ok (.aload_n 0, 1) := by decide +kernel
theorem d9_1 : decode prog_106_method_3_code 1 = .ok (.getfield 21, 3) := by decide +kernel
theorem d9_4 : decode prog_106_method_3_code 4 = .ok (.ifCond .eq 17, 3) := by decide +kernel
theorem d9_7 : decode prog_106_method_3_code 7 = .ok (.aload_n 0, 1) := by decide +kernel
theorem d9_8 : decode prog_106_method_3_code 8 = .ok (.getfield 28, 3) := by decide +kernel
theorem d9_11 : decode prog_106_method_3_code 11 = .ok (.aload_n 0, 1) := by decide +kernel
theorem d9_12 : decode prog_106_method_3_code 12 = .ok (.getfield 25, 3) := by decide +kernel
theorem d9_15 : decode prog_106_method_3_code 15 = .ok (.lsub, 1) := by decide +kernel
theorem d9_16 : decode prog_106_method_3_code 16 = .ok (.lconst 1, 1) := by decide +kernel
theorem d9_17 : decode prog_106_method_3_code 17 = .ok (.ladd, 1) := by decide +kernel
theorem d9_18 : decode prog_106_method_3_code 18 = .ok (.goto 4, 3) := by decide +kernel
theorem d9_21 : decode prog_106_method_3_code 21 = .ok (.lconst 1, 1) := by decide +kernel
theorem d9_22 : decode prog_106_method_3_code 22 = .ok (.lreturn, 1) := by decide +kernel
theorem pd_0 : parseMethodDescriptor "(C)Z" = some ⟨[.char], some .boolean⟩ := by decide +kernel
theorem pd_1 : parseMethodDescriptor "(C)[B" = some ⟨[.char], some (.array .byte)⟩ := by decide +kernel
theorem pd_2 : parseMethodDescriptor "([BB)V" = some ⟨[(.array .byte), .byte], none⟩ := by decide +kernel
theorem pd_3 : parseMethodDescriptor "()V" = some ⟨[], none⟩ := by decide +kernel
theorem pd_4 : parseMethodDescriptor "(I)Lcom/example/lotwise/lotwise/plan/Pegging$Kind;" = some ⟨[.int], some (.object "com/example/lotwise/lotwise/plan/Pegging$Kind")⟩ := by decide +kernel
theorem pd_5 : parseMethodDescriptor "(C)Ljava/lang/String;" = some ⟨[.char], some (.object "java/lang/String")⟩ := by decide +kernel
theorem pd_6 : parseMethodDescriptor "(Lcom/example/lotwise/lotwise/plan/Pegging$Kind;JLjava/lang/String;ZJJJZ)V" = some ⟨[(.object "com/example/lotwise/lotwise/plan/Pegging$Kind"), .long, (.object "java/lang/String"), .boolean, .long, .long, .long, .boolean], none⟩ := by decide +kernel
theorem pd_7 : parseMethodDescriptor "()J" = some ⟨[], some .long⟩ := by decide +kernel
theorem pn_1 : plainName "com/example/lotwise/lotwise/plan/RunCountPinLaw" = true := by first | (simp [plainName, overriddenIn]; done) | decide +kernel
theorem ef_rm1 (m : MethodId) (x0 : Int32) : entryFrame m #[(.int x0)] 2 = mkF m 0 #[.val (.int x0), .unset] [] := by first | (simp [entryFrame, mkF, argsToLocals, Value.category]; done) | rfl
set_option maxRecDepth 65536 in
set_option maxHeartbeats 40000000 in
theorem rm1 (l : Launch) (Z : State) (a0 : Array Value) (hw : ∀ d ∈ tables_1, d.before a0 Z = true) (u0 : Int32) (r0 r1 r2 r3 r4 r5 r6 : Addr) (h0 : Heap) (n0 : Nat) (Z0 : n0 ≤ h0.size) (S0 : Sta Z h0 "com/example/lotwise/lotwise/plan/Pegging$Kind" "ON_HAND" "Lcom/example/lotwise/lotwise/plan/Pegging$Kind;" (.ref r0)) (S1 : Sta Z h0 "com/example/lotwise/lotwise/plan/Pegging$Kind" "RECEIPT" "Lcom/example/lotwise/lotwise/plan/Pegging$Kind;" (.ref r1)) (S2 : Sta Z h0 "com/example/lotwise/lotwise/plan/Pegging$Kind" "FIRM_ORDER" "Lcom/example/lotwise/lotwise/plan/Pegging$Kind;" (.ref r2)) (S3 : Sta Z h0 "com/example/lotwise/lotwise/plan/Pegging$Kind" "PLANNED_ORDER" "Lcom/example/lotwise/lotwise/plan/Pegging$Kind;" (.ref r3)) (S4 : Sta Z h0 "com/example/lotwise/lotwise/plan/Pegging$Kind" "SHORT" "Lcom/example/lotwise/lotwise/plan/Pegging$Kind;" (.ref r4)) (S5 : Sta Z h0 "com/example/lotwise/lotwise/plan/Pegging$Kind" "SAFETY_STOCK" "Lcom/example/lotwise/lotwise/plan/Pegging$Kind;" (.ref r5)) (S6 : Sta Z h0 "com/example/lotwise/lotwise/plan/Pegging$Kind" "DEMAND" "Lcom/example/lotwise/lotwise/plan/Pegging$Kind;" (.ref r6)) :
    Con l Z (⟨"com/example/lotwise/lotwise/plan/RunCountPinLaw", "kind", "(I)Lcom/example/lotwise/lotwise/plan/Pegging$Kind;"⟩ : MethodName) method_2_code 2 (some (.object "com/example/lotwise/lotwise/plan/Pegging$Kind")) ({ frames := 0, cells := 0, slots := 0, locals := 0 } : Room) #[(.int u0)] h0 (fun v h L => (∃ a : Addr, v = some (.ref a)) ∧ Fr n0 L ∧ h = h0) := by
  refine own_body pn_1 ?_
  intro p e s m below meth c s₁ hx hby hml hown hnm hret hZ e0 X0 G go rt
  have N0 := Fr.nil n0
  rw [ef_rm1 m u0]
  show G (s₁.setTop (mkF m 0 #[.val (.int u0), .unset] []))
  refine go _ _ (fun t' k' => XS.iloadN X0.here hx rfl (hb hby d1_0) rfl  k') ?_
  show G (s₁.setTop (mkF m 1 #[.val (.int u0), .unset] [(.int u0)]))
  refine go _ _ (fun t' k' => X0.ldcInt hx hown (mvT hZ (hw _ (List.mem_of_getElem? (i := 4) rfl))) (g := (mkF m 1 #[.val (.int u0), .unset] [(.int u0)])) rfl (hb hby d1_1) _ k') ?_
  show G (s₁.setTop (mkF m 3 #[.val (.int u0), .unset] [(.int (2147483647 : Int32)), (.int u0)]))
  refine go _ _ (fun t' k' => XS.iand X0.here hx rfl (hb hby d1_3) rfl k') ?_
  show G (s₁.setTop (mkF m 4 #[.val (.int u0), .unset] [(.int (u0 &&& (2147483647 : Int32)))]))
  refine go _ _ (fun t' k' => XS.bipush X0.here hx rfl (hb hby d1_4) k') ?_
  show G (s₁.setTop (mkF m 6 #[.val (.int u0), .unset] [(.int (7 : Int32)), (.int (u0 &&& (2147483647 : Int32)))]))
  refine go _ _ (fun t' k' => iremM X0 hx rfl (hb hby d1_6) rfl (by decide) k') ?_
  show G (s₁.setTop (mkF m 7 #[.val (.int u0), .unset] [(.int ((u0 &&& (2147483647 : Int32)) % (7 : Int32)))]))
  refine go _ _ (fun t' k' => XS.istoreN X0.here hx rfl (hb hby d1_7) rfl (l' := #[.val (.int u0), .val (.int ((u0 &&& (2147483647 : Int32)) % (7 : Int32)))]) rfl k') ?_
  show G (s₁.setTop (mkF m 8 #[.val (.int u0), .val (.int ((u0 &&& (2147483647 : Int32)) % (7 : Int32)))] []))
  obtain ⟨y1, hy1⟩ : ∃ z, z = ((u0 &&& (2147483647 : Int32)) % (7 : Int32)) := ⟨_, rfl⟩
  rw [← hy1]
  show G (s₁.setTop (mkF m 8 #[.val (.int u0), .val (.int y1)] []))
  refine go _ _ (fun t' k' => XS.iloadN X0.here hx rfl (hb hby d1_8) rfl  k') ?_
  show G (s₁.setTop (mkF m 9 #[.val (.int u0), .val (.int y1)] [(.int y1)]))
  by_cases c101 : y1 = (0 : Int32)
  · refine go _ _ (fun t' k' => XS.ifNo X0.here hx rfl (hb hby d1_9) rfl (Free.XT.i0_ne_f c101) k') ?_
    show G (s₁.setTop (mkF m 12 #[.val (.int u0), .val (.int y1)] []))
    obtain ⟨T102, X102, e102, st102⟩ := getS X0 hx hZ hown (host := "") (hw _ (List.mem_of_getElem? (i := 5) rfl)) Via.refl e0 S0 (g := (mkF m 12 #[.val (.int u0), .val (.int y1)] [])) rfl (hb hby d1_12)
    refine go _ _ st102 ?_
    show G (T102.setTop (mkF m 15 #[.val (.int u0), .val (.int y1)] [(.ref r0)]))
    refine own_retA rt X102 hx hret rfl rfl (hb hby d1_15) (by decide) (by decide) ?_
    exact ⟨⟨_, rfl⟩, N0, e102⟩
  · refine go _ _ (fun t' k' => XS.ifYes X0.here hx rfl (pc0 := 9) (pc' := 16) rfl (hb hby d1_9) rfl (Free.XT.i0_ne_t c101) (by decide) (by decide) k') ?_
    show G (s₁.setTop (mkF m 16 #[.val (.int u0), .val (.int y1)] []))
    refine go _ _ (fun t' k' => XS.iloadN X0.here hx rfl (hb hby d1_16) rfl  k') ?_
    show G (s₁.setTop (mkF m 17 #[.val (.int u0), .val (.int y1)] [(.int y1)]))
    refine go _ _ (fun t' k' => XS.iconst X0.here hx rfl (hb hby d1_17) k') ?_
    show G (s₁.setTop (mkF m 18 #[.val (.int u0), .val (.int y1)] [(.int (1 : Int32)), (.int y1)]))
    by_cases c103 : y1 = (1 : Int32)
    · refine go _ _ (fun t' k' => XS.icmpNo X0.here hx rfl (hb hby d1_18) rfl (Free.XT.ii_ne_f c103) k') ?_
      show G (s₁.setTop (mkF m 21 #[.val (.int u0), .val (.int y1)] []))
      obtain ⟨T104, X104, e104, st104⟩ := getS X0 hx hZ hown (host := "") (hw _ (List.mem_of_getElem? (i := 72) rfl)) Via.refl e0 S1 (g := (mkF m 21 #[.val (.int u0), .val (.int y1)] [])) rfl (hb hby d1_21)
      refine go _ _ st104 ?_
      show G (T104.setTop (mkF m 24 #[.val (.int u0), .val (.int y1)] [(.ref r1)]))
      refine own_retA rt X104 hx hret rfl rfl (hb hby d1_24) (by decide) (by decide) ?_
      exact ⟨⟨_, rfl⟩, N0, e104⟩
    · refine go _ _ (fun t' k' => XS.icmpYes X0.here hx rfl (pc0 := 18) (pc' := 25) rfl (hb hby d1_18) rfl (Free.XT.ii_ne_t c103) (by decide) (by decide) k') ?_
      show G (s₁.setTop (mkF m 25 #[.val (.int u0), .val (.int y1)] []))
      refine go _ _ (fun t' k' => XS.iloadN X0.here hx rfl (hb hby d1_25) rfl  k') ?_
      show G (s₁.setTop (mkF m 26 #[.val (.int u0), .val (.int y1)] [(.int y1)]))
      refine go _ _ (fun t' k' => XS.iconst X0.here hx rfl (hb hby d1_26) k') ?_
      show G (s₁.setTop (mkF m 27 #[.val (.int u0), .val (.int y1)] [(.int (2 : Int32)), (.int y1)]))
      by_cases c105 : y1 = (2 : Int32)
      · refine go _ _ (fun t' k' => XS.icmpNo X0.here hx rfl (hb hby d1_27) rfl (Free.XT.ii_ne_f c105) k') ?_
        show G (s₁.setTop (mkF m 30 #[.val (.int u0), .val (.int y1)] []))
        obtain ⟨T106, X106, e106, st106⟩ := getS X0 hx hZ hown (host := "") (hw _ (List.mem_of_getElem? (i := 67) rfl)) Via.refl e0 S2 (g := (mkF m 30 #[.val (.int u0), .val (.int y1)] [])) rfl (hb hby d1_30)
        refine go _ _ st106 ?_
        show G (T106.setTop (mkF m 33 #[.val (.int u0), .val (.int y1)] [(.ref r2)]))
        refine own_retA rt X106 hx hret rfl rfl (hb hby d1_33) (by decide) (by decide) ?_
        exact ⟨⟨_, rfl⟩, N0, e106⟩
      · refine go _ _ (fun t' k' => XS.icmpYes X0.here hx rfl (pc0 := 27) (pc' := 34) rfl (hb hby d1_27) rfl (Free.XT.ii_ne_t c105) (by decide) (by decide) k') ?_
        show G (s₁.setTop (mkF m 34 #[.val (.int u0), .val (.int y1)] []))
        refine go _ _ (fun t' k' => XS.iloadN X0.here hx rfl (hb hby d1_34) rfl  k') ?_
        show G (s₁.setTop (mkF m 35 #[.val (.int u0), .val (.int y1)] [(.int y1)]))
        refine go _ _ (fun t' k' => XS.iconst X0.here hx rfl (hb hby d1_35) k') ?_
        show G (s₁.setTop (mkF m 36 #[.val (.int u0), .val (.int y1)] [(.int (3 : Int32)), (.int y1)]))
        by_cases c107 : y1 = (3 : Int32)
        · refine go _ _ (fun t' k' => XS.icmpNo X0.here hx rfl (hb hby d1_36) rfl (Free.XT.ii_ne_f c107) k') ?_
          show G (s₁.setTop (mkF m 39 #[.val (.int u0), .val (.int y1)] []))
          obtain ⟨T108, X108, e108, st108⟩ := getS X0 hx hZ hown (host := "") (hw _ (List.mem_of_getElem? (i := 74) rfl)) Via.refl e0 S3 (g := (mkF m 39 #[.val (.int u0), .val (.int y1)] [])) rfl (hb hby d1_39)
          refine go _ _ st108 ?_
          show G (T108.setTop (mkF m 42 #[.val (.int u0), .val (.int y1)] [(.ref r3)]))
          refine own_retA rt X108 hx hret rfl rfl (hb hby d1_42) (by decide) (by decide) ?_
          exact ⟨⟨_, rfl⟩, N0, e108⟩
        · refine go _ _ (fun t' k' => XS.icmpYes X0.here hx rfl (pc0 := 36) (pc' := 43) rfl (hb hby d1_36) rfl (Free.XT.ii_ne_t c107) (by decide) (by decide) k') ?_
          show G (s₁.setTop (mkF m 43 #[.val (.int u0), .val (.int y1)] []))
          refine go _ _ (fun t' k' => XS.iloadN X0.here hx rfl (hb hby d1_43) rfl  k') ?_
          show G (s₁.setTop (mkF m 44 #[.val (.int u0), .val (.int y1)] [(.int y1)]))
          refine go _ _ (fun t' k' => XS.iconst X0.here hx rfl (hb hby d1_44) k') ?_
          show G (s₁.setTop (mkF m 45 #[.val (.int u0), .val (.int y1)] [(.int (4 : Int32)), (.int y1)]))
          by_cases c109 : y1 = (4 : Int32)
          · refine go _ _ (fun t' k' => XS.icmpNo X0.here hx rfl (hb hby d1_45) rfl (Free.XT.ii_ne_f c109) k') ?_
            show G (s₁.setTop (mkF m 48 #[.val (.int u0), .val (.int y1)] []))
            obtain ⟨T110, X110, e110, st110⟩ := getS X0 hx hZ hown (host := "") (hw _ (List.mem_of_getElem? (i := 76) rfl)) Via.refl e0 S4 (g := (mkF m 48 #[.val (.int u0), .val (.int y1)] [])) rfl (hb hby d1_48)
            refine go _ _ st110 ?_
            show G (T110.setTop (mkF m 51 #[.val (.int u0), .val (.int y1)] [(.ref r4)]))
            refine own_retA rt X110 hx hret rfl rfl (hb hby d1_51) (by decide) (by decide) ?_
            exact ⟨⟨_, rfl⟩, N0, e110⟩
          · refine go _ _ (fun t' k' => XS.icmpYes X0.here hx rfl (pc0 := 45) (pc' := 52) rfl (hb hby d1_45) rfl (Free.XT.ii_ne_t c109) (by decide) (by decide) k') ?_
            show G (s₁.setTop (mkF m 52 #[.val (.int u0), .val (.int y1)] []))
            refine go _ _ (fun t' k' => XS.iloadN X0.here hx rfl (hb hby d1_52) rfl  k') ?_
            show G (s₁.setTop (mkF m 53 #[.val (.int u0), .val (.int y1)] [(.int y1)]))
            refine go _ _ (fun t' k' => XS.iconst X0.here hx rfl (hb hby d1_53) k') ?_
            show G (s₁.setTop (mkF m 54 #[.val (.int u0), .val (.int y1)] [(.int (5 : Int32)), (.int y1)]))
            by_cases c111 : y1 = (5 : Int32)
            · refine go _ _ (fun t' k' => XS.icmpNo X0.here hx rfl (hb hby d1_54) rfl (Free.XT.ii_ne_f c111) k') ?_
              show G (s₁.setTop (mkF m 57 #[.val (.int u0), .val (.int y1)] []))
              obtain ⟨T112, X112, e112, st112⟩ := getS X0 hx hZ hown (host := "") (hw _ (List.mem_of_getElem? (i := 78) rfl)) Via.refl e0 S5 (g := (mkF m 57 #[.val (.int u0), .val (.int y1)] [])) rfl (hb hby d1_57)
              refine go _ _ st112 ?_
              show G (T112.setTop (mkF m 60 #[.val (.int u0), .val (.int y1)] [(.ref r5)]))
              refine own_retA rt X112 hx hret rfl rfl (hb hby d1_60) (by decide) (by decide) ?_
              exact ⟨⟨_, rfl⟩, N0, e112⟩
            · refine go _ _ (fun t' k' => XS.icmpYes X0.here hx rfl (pc0 := 54) (pc' := 61) rfl (hb hby d1_54) rfl (Free.XT.ii_ne_t c111) (by decide) (by decide) k') ?_
              show G (s₁.setTop (mkF m 61 #[.val (.int u0), .val (.int y1)] []))
              obtain ⟨T113, X113, e113, st113⟩ := getS X0 hx hZ hown (host := "") (hw _ (List.mem_of_getElem? (i := 70) rfl)) Via.refl e0 S6 (g := (mkF m 61 #[.val (.int u0), .val (.int y1)] [])) rfl (hb hby d1_61)
              refine go _ _ st113 ?_
              show G (T113.setTop (mkF m 64 #[.val (.int u0), .val (.int y1)] [(.ref r6)]))
              refine own_retA rt X113 hx hret rfl rfl (hb hby d1_64) (by decide) (by decide) ?_
              exact ⟨⟨_, rfl⟩, N0, e113⟩
theorem pn_3 : plainName "java/lang/StringLatin1" = true := by first | (simp [plainName, overriddenIn]; done) | decide +kernel
theorem ef_rm2 (m : MethodId) (x0 : Int32) : entryFrame m #[(.int x0)] 1 = mkF m 0 #[.val (.int x0)] [] := by first | (simp [entryFrame, mkF, argsToLocals, Value.category]; done) | rfl
set_option maxRecDepth 65536 in
set_option maxHeartbeats 40000000 in
theorem rm2 (l : Launch) (Z : State) (a0 : Array Value) (hw : ∀ d ∈ tables_1, d.before a0 Z = true) (u0 : Int32) (h0 : Heap) (n0 : Nat) (Z0 : n0 ≤ h0.size) (hle : ¬ (255 : Int32) < u0) :
    Con l Z (⟨"java/lang/StringLatin1", "canEncode", "(C)Z"⟩ : MethodName) jdk_43_method_3_code 1 (some .boolean) ({ frames := 0, cells := 0, slots := 0, locals := 0 } : Room) #[(.int u0)] h0 (fun v h L => v = some (.int 1) ∧ Fr n0 L ∧ h = h0) := by
  refine own_body pn_3 ?_
  intro p e s m below meth c s₁ hx hby hml hown hnm hret hZ e0 X0 G go rt
  have N0 := Fr.nil n0
  rw [ef_rm2 m u0]
  show G (s₁.setTop (mkF m 0 #[.val (.int u0)] []))
  refine go _ _ (fun t' k' => XS.iloadN X0.here hx rfl (hb hby d3_0) rfl  k') ?_
  show G (s₁.setTop (mkF m 1 #[.val (.int u0)] [(.int u0)]))
  refine go _ _ (fun t' k' => XS.sipush X0.here hx rfl (hb hby d3_1) k') ?_
  show G (s₁.setTop (mkF m 4 #[.val (.int u0)] [(.int (255 : Int32)), (.int u0)]))
  refine go _ _ (fun t' k' => XS.icmpNo X0.here hx rfl (hb hby d3_4) rfl (Free.XT.ii_gt_f hle) k') ?_
  show G (s₁.setTop (mkF m 7 #[.val (.int u0)] []))
  refine go _ _ (fun t' k' => XS.iconst X0.here hx rfl (hb hby d3_7) k') ?_
  show G (s₁.setTop (mkF m 8 #[.val (.int u0)] [(.int (1 : Int32))]))
  refine go _ _ (fun t' k' => XS.goto X0.here hx rfl (pc0 := 8) (pc' := 12) rfl (hb hby d3_8) (by decide) (by decide) k') ?_
  show G (s₁.setTop (mkF m 12 #[.val (.int u0)] [(.int (1 : Int32))]))
  refine own_retZ rt X0 hx (t := .boolean) hret (by simp) (hb hby d3_12) (by decide) (by decide) ?_
  exact ⟨rfl, N0, e0⟩
theorem pn_4 : plainName "java/lang/StringLatin1" = true := by first | (simp [plainName, overriddenIn]; done) | decide +kernel
theorem ef_rm3 (m : MethodId) (x0 : Int32) : entryFrame m #[(.int x0)] 1 = mkF m 0 #[.val (.int x0)] [] := by first | (simp [entryFrame, mkF, argsToLocals, Value.category]; done) | rfl
set_option maxRecDepth 65536 in
set_option maxHeartbeats 40000000 in
theorem rm3 (l : Launch) (Z : State) (a0 : Array Value) (hw : ∀ d ∈ tables_1, d.before a0 Z = true) (u0 : Int32) (h0 : Heap) (n0 : Nat) (Z0 : n0 ≤ h0.size)  :
    Con l Z (⟨"java/lang/StringLatin1", "toBytes", "(C)[B"⟩ : MethodName) jdk_43_method_46_code 1 (some (.array .byte)) ({ frames := 0, cells := 1, slots := 1, locals := 0 } : Room) #[(.int u0)] h0 (fun v h L => (∃ a : Addr, v = some (.ref a)) ∧ Fr n0 L ∧ Keep h0 h []) := by
  refine own_body pn_4 ?_
  intro p e s m below meth c s₁ hx hby hml hown hnm hret hZ e0 X0 G go rt
  have N0 := Fr.nil n0
  rw [ef_rm3 m u0]
  show G (s₁.setTop (mkF m 0 #[.val (.int u0)] []))
  refine go _ _ (fun t' k' => XS.iconst X0.here hx rfl (hb hby d4_0) k') ?_
  show G (s₁.setTop (mkF m 1 #[.val (.int u0)] [(.int (1 : Int32))]))
  refine own_newarr go X0 hx hZ e0 (g := (mkF m 1 #[.val (.int u0)] [(.int (1 : Int32))])) rfl (hw _ (List.mem_of_getElem? (i := 22) rfl)) 1 rfl (hb hby d4_1) rfl 1 (by decide) (by decide) (by decide) (by decide) ?_
  intro T114 h114 b114 X114 e114 E114 g114 A114
  have g_b114 : n0 ≤ b114 := Nat.le_trans Z0 (Nat.le_of_eq g114.symm)
  have sz_b114 : h0.size ≤ b114 := Nat.le_of_eq g114.symm
  have Z115 : n0 ≤ h114.size := Nat.le_trans Z0 E114.1
  have K116 : Keep h0 h114 [] := (Keep.refl h0 []).ext E114
  show G (T114.setTop (mkF m 3 #[.val (.int u0)] [(.ref b114)]))
  refine go _ _ (fun t' k' => XS.dup X114.here hx rfl (hb hby d4_3) rfl rfl k') ?_
  show G (T114.setTop (mkF m 4 #[.val (.int u0)] [(.ref b114), (.ref b114)]))
  refine go _ _ (fun t' k' => XS.iconst X114.here hx rfl (hb hby d4_4) k') ?_
  show G (T114.setTop (mkF m 5 #[.val (.int u0)] [(.int (0 : Int32)), (.ref b114), (.ref b114)]))
  refine go _ _ (fun t' k' => XS.iloadN X114.here hx rfl (hb hby d4_5) rfl  k') ?_
  show G (T114.setTop (mkF m 6 #[.val (.int u0)] [(.int u0), (.int (0 : Int32)), (.ref b114), (.ref b114)]))
  refine go _ _ (fun t' k' => XS.i2b X114.here hx rfl (hb hby d4_6) rfl k') ?_
  show G (T114.setTop (mkF m 7 #[.val (.int u0)] [(.int (u0.toInt8.toInt32)), (.int (0 : Int32)), (.ref b114), (.ref b114)]))
  refine own_bastore go X114 hx hZ e114 0 rfl (by decide) (g := (mkF m 7 #[.val (.int u0)] [(.int (u0.toInt8.toInt32)), (.int (0 : Int32)), (.ref b114), (.ref b114)])) rfl A114 rfl (hb hby d4_7) ?_
  intro T117 h117 X117 e117 W117 A117
  have K118 : Keep h0 h117 [] := K116.wr W117 (Or.inr sz_b114)
  obtain ⟨lc117, X117h, N117h⟩ := own_hide X117 (Fr.snoc X117 N0 g_b114)
  have Z119 : n0 ≤ h117.size := Nat.le_trans Z115 (Nat.le_of_eq W117.size.symm)
  show G (T117.setTop (mkF m 8 #[.val (.int u0)] [(.ref b114)]))
  refine own_retA rt X117h hx hret rfl rfl (hb hby d4_8) (by decide) (by decide) ?_
  rw [e117]
  exact ⟨⟨_, rfl⟩, N117h, K118⟩
theorem pn_5 : plainName "java/lang/String" = true := by first | (simp [plainName, overriddenIn]; done) | decide +kernel
theorem ef_rm4 (m : MethodId) (x0 : Addr) (x1 : Addr) (x2 : Int32) : entryFrame m #[(.ref x0), (.ref x1), (.int x2)] 3 = mkF m 0 #[.val (.ref x0), .val (.ref x1), .val (.int x2)] [] := by first | (simp [entryFrame, mkF, argsToLocals, Value.category]; done) | rfl
set_option maxRecDepth 65536 in
set_option maxHeartbeats 40000000 in
theorem rm4 (l : Launch) (Z : State) (a0 : Array Value) (hw : ∀ d ∈ tables_1, d.before a0 Z = true) (r0 r1 : Addr) (u2 : Int32) (h0 : Heap) (n0 : Nat) (Z0 : n0 ≤ h0.size) (g_r0 : n0 ≤ r0) (E0 : Exa Z h0 r0 "java/lang/String") (F0 : Fld Z h0 r0 "java/lang/String" "value" "[B" .null) (F1 : Fld Z h0 r0 "java/lang/String" "coder" "B" (.int (0 : Int32))) :
    Con l Z (⟨"java/lang/String", "<init>", "([BB)V"⟩ : MethodName) jdk_42_method_151_code 3 none ({ frames := 1, cells := 0, slots := 0, locals := 12 } : Room) #[(.ref r0), (.ref r1), (.int u2)] h0 (fun v h L => v = none ∧ Fr n0 L ∧ Keep h0 h [r0]) := by
  refine own_body pn_5 ?_
  intro p e s m below meth c s₁ hx hby hml hown hnm hret hZ e0 X0 G go rt
  have N0 := Fr.nil n0
  rw [ef_rm4 m r0 r1 u2]
  show G (s₁.setTop (mkF m 0 #[.val (.ref r0), .val (.ref r1), .val (.int u2)] []))
  refine go _ _ (fun t' k' => XS.aloadN X0.here hx rfl (hb hby d5_0) rfl rfl  k') ?_
  show G (s₁.setTop (mkF m 1 #[.val (.ref r0), .val (.ref r1), .val (.int u2)] [(.ref r0)]))
  obtain ⟨T120, X120, e120, st120⟩ := initO X0 hx hZ hown (hw _ (List.mem_of_getElem? (i := 27) rfl)) (hw _ (List.mem_of_getElem? (i := 28) rfl)) (hw _ (List.mem_of_getElem? (i := 29) rfl)) e0 (g := (mkF m 1 #[.val (.ref r0), .val (.ref r1), .val (.int u2)] [(.ref r0)])) rfl (by rw [hml]; rfl) rfl (hb hby d5_1) (by decide) (W := 0) (by show 2 * 0 + _ ≤ _; exact Nat.le_of_eq rfl) (by decide)
  refine go _ _ st120 ?_
  show G (T120.setTop (mkF m 4 #[.val (.ref r0), .val (.ref r1), .val (.int u2)] []))
  refine go _ _ (fun t' k' => XS.aloadN X120.here hx rfl (hb hby d5_4) rfl rfl  k') ?_
  show G (T120.setTop (mkF m 5 #[.val (.ref r0), .val (.ref r1), .val (.int u2)] [(.ref r0)]))
  refine go _ _ (fun t' k' => XS.aloadN X120.here hx rfl (hb hby d5_5) rfl rfl  k') ?_
  show G (T120.setTop (mkF m 6 #[.val (.ref r0), .val (.ref r1), .val (.int u2)] [(.ref r1), (.ref r0)]))
  obtain ⟨T121, h121, X121, e121, W121, st121⟩ := putF X120 hx hZ hown (host := "") (Or.inl (hw _ (List.mem_of_getElem? (i := 30) rfl))) Via.refl e120 F0 E0 (Or.inr ⟨(hw _ (List.mem_of_getElem? (i := 31) rfl)), rfl, hnm⟩) (hw _ (List.mem_of_getElem? (i := 18) rfl)) (ty := (.array .byte)) (by decide) rfl rfl (g := (mkF m 6 #[.val (.ref r0), .val (.ref r1), .val (.int u2)] [(.ref r1), (.ref r0)])) rfl rfl (hb hby d5_6)
  have F121 := F0.same W121
  have K122 : Keep h0 h121 [r0] := (Keep.refl h0 [r0]).wr W121 (Or.inl (List.mem_of_getElem? (i := 0) rfl))
  obtain ⟨lc121, X121h, N121h⟩ := own_hide X121 (Fr.snoc X121 N0 g_r0)
  have Z123 : n0 ≤ h121.size := Nat.le_trans Z0 (Nat.le_of_eq W121.size.symm)
  refine go _ _ st121 ?_
  show G (T121.setTop (mkF m 9 #[.val (.ref r0), .val (.ref r1), .val (.int u2)] []))
  refine go _ _ (fun t' k' => XS.aloadN X121h.here hx rfl (hb hby d5_9) rfl rfl  k') ?_
  show G (T121.setTop (mkF m 10 #[.val (.ref r0), .val (.ref r1), .val (.int u2)] [(.ref r0)]))
  refine go _ _ (fun t' k' => XS.iloadN X121h.here hx rfl (hb hby d5_10) rfl  k') ?_
  show G (T121.setTop (mkF m 11 #[.val (.ref r0), .val (.ref r1), .val (.int u2)] [(.int u2), (.ref r0)]))
  have f124 := (F1.other W121 (Or.inr (slot_ne (Or.inr (hw _ (List.mem_of_getElem? (i := 33) rfl))) (Or.inr (hw _ (List.mem_of_getElem? (i := 31) rfl))) (by decide) (t := .byte) (t' := (.array .byte)) (by decide) (by decide))))
  have f125 := (E0.wr W121)
  obtain ⟨T126, h126, X126, e126, W126, st126⟩ := putFN X121h hx hZ hown (hw _ (List.mem_of_getElem? (i := 32) rfl)) Via.refl e121 f124 f125 (Or.inr ⟨(hw _ (List.mem_of_getElem? (i := 33) rfl)), rfl, hnm⟩) (hw _ (List.mem_of_getElem? (i := 18) rfl)) (ty := .byte) (v' := (.int (nar .byte u2))) (by decide) rfl (fits_nar_byte _) (g := (mkF m 11 #[.val (.ref r0), .val (.ref r1), .val (.int u2)] [(.int u2), (.ref r0)])) rfl rfl (hb hby d5_11)
  have F126 := f124.same W126
  have K127 : Keep h0 h126 [r0] := K122.wr W126 (Or.inl (List.mem_of_getElem? (i := 0) rfl))
  obtain ⟨lc126, X126h, N126h⟩ := own_hide X126 (Fr.snoc X126 N121h g_r0)
  have Z128 : n0 ≤ h126.size := Nat.le_trans Z123 (Nat.le_of_eq W126.size.symm)
  refine go _ _ st126 ?_
  show G (T126.setTop (mkF m 14 #[.val (.ref r0), .val (.ref r1), .val (.int u2)] []))
  refine own_retV rt X126h hx hret (hb hby d5_14) (by decide) (by decide) ?_
  rw [e126]
  exact ⟨rfl, N126h, K127⟩
theorem pn_2 : plainName "java/lang/String" = true := by first | (simp [plainName, overriddenIn]; done) | decide +kernel
theorem ef_rm5 (m : MethodId) (x0 : Int32) : entryFrame m #[(.int x0)] 1 = mkF m 0 #[.val (.int x0)] [] := by first | (simp [entryFrame, mkF, argsToLocals, Value.category]; done) | rfl
set_option maxRecDepth 65536 in
set_option maxHeartbeats 40000000 in
theorem rm5 (l : Launch) (Z : State) (a0 : Array Value) (hw : ∀ d ∈ tables_1, d.before a0 Z = true) (u0 cs : Int32) (h0 : Heap) (n0 : Nat) (Z0 : n0 ≤ h0.size) (hle : ¬ (255 : Int32) < u0) (Sc : Sta Z h0 "java/lang/String" "COMPACT_STRINGS" "Z" (.int cs)) (hcs : ¬ cs = (0 : Int32)) :
    Con l Z (⟨"java/lang/String", "valueOf", "(C)Ljava/lang/String;"⟩ : MethodName) jdk_42_method_139_code 1 (some (.object "java/lang/String")) ({ frames := 2, cells := 2, slots := 5, locals := 27 } : Room) #[(.int u0)] h0 (fun v h L => (∃ a : Addr, v = some (.ref a)) ∧ Fr n0 L ∧ Keep h0 h []) := by
  refine own_body pn_2 ?_
  intro p e s m below meth c s₁ hx hby hml hown hnm hret hZ e0 X0 G go rt
  have N0 := Fr.nil n0
  rw [ef_rm5 m u0]
  show G (s₁.setTop (mkF m 0 #[.val (.int u0)] []))
  obtain ⟨T129, X129, e129, st129⟩ := getS X0 hx hZ hown (host := "") (hw _ (List.mem_of_getElem? (i := 12) rfl)) Via.refl e0 Sc (g := (mkF m 0 #[.val (.int u0)] [])) rfl (hb hby d2_0)
  refine go _ _ st129 ?_
  show G (T129.setTop (mkF m 3 #[.val (.int u0)] [(.int cs)]))
  refine go _ _ (fun t' k' => XS.ifNo X129.here hx rfl (hb hby d2_3) rfl (Free.XT.i0_eq_f hcs) k') ?_
  show G (T129.setTop (mkF m 6 #[.val (.int u0)] []))
  refine go _ _ (fun t' k' => XS.iloadN X129.here hx rfl (hb hby d2_6) rfl  k') ?_
  show G (T129.setTop (mkF m 7 #[.val (.int u0)] [(.int u0)]))
  refine own_static go X129 hx hZ e129 hown (hw _ (List.mem_of_getElem? (i := 13) rfl)) (hw _ (List.mem_of_getElem? (i := 14) rfl)) (hw _ (List.mem_of_getElem? (i := 15) rfl)) (hw _ (List.mem_of_getElem? (i := 16) rfl)) (by decide) (rm2 l Z a0 hw u0 h0 n0 Z0 hle) 0 (by decide) (by decide) (by decide) (by decide) (g := (mkF m 7 #[.val (.int u0)] [(.int u0)])) rfl (by rw [hml]; rfl) [(.int u0)] [] rfl (lenOf pd_0 rfl) rfl (by show 2 * 0 + _ ≤ _; exact Nat.le_of_eq rfl) (hb hby d2_7) ?_
  intro T130 L130 v130 X130 q130
  obtain ⟨rfl, N130, hh130⟩ := q130
  obtain ⟨lc130, X130h, N130h⟩ := own_hide X130 (Fr.app N0 N130)
  show G (T130.setTop (mkF m 10 #[.val (.int u0)] [(.int (1 : Int32))]))
  refine go _ _ (fun t' k' => XS.ifNo X130h.here hx rfl (hb hby d2_10) rfl (Free.XT.i0_eq_f (by decide)) k') ?_
  show G (T130.setTop (mkF m 13 #[.val (.int u0)] []))
  obtain ⟨T131, h131, X131, e131, E131, A131, D131, -, st131⟩ := newO X130h hx hZ hown (hw _ (List.mem_of_getElem? (i := 17) rfl)) (hw _ (List.mem_of_getElem? (i := 18) rfl)) (hw _ (List.mem_of_getElem? (i := 10) rfl)) hh130 (g := (mkF m 13 #[.val (.int u0)] [])) rfl (hb hby d2_13) (by decide) (by decide)
  obtain ⟨b131, g131⟩ : ∃ z, z = h0.size := ⟨_, rfl⟩
  rw [← g131] at A131 D131 st131
  have g_b131 : n0 ≤ b131 := Nat.le_trans Z0 (Nat.le_of_eq g131.symm)
  have sz_b131 : h0.size ≤ b131 := Nat.le_of_eq g131.symm
  have Z132 : n0 ≤ h131.size := Nat.le_trans Z0 E131.1
  have K133 : Keep h0 h131 [] := (Keep.refl h0 []).ext E131
  have F134 : Fld Z h131 b131 "java/lang/String" "value" "[B" .null := D131 (Or.inr (hw _ (List.mem_of_getElem? (i := 31) rfl))) (ty := (.array .byte)) (by decide)
  have F135 : Fld Z h131 b131 "java/lang/String" "coder" "B" (.int (0 : Int32)) := D131 (Or.inr (hw _ (List.mem_of_getElem? (i := 33) rfl))) (ty := .byte) (by decide)
  refine go _ _ st131 ?_
  show G (T131.setTop (mkF m 16 #[.val (.int u0)] [(.ref b131)]))
  refine go _ _ (fun t' k' => XS.dup X131.here hx rfl (hb hby d2_16) rfl rfl k') ?_
  show G (T131.setTop (mkF m 17 #[.val (.int u0)] [(.ref b131), (.ref b131)]))
  refine go _ _ (fun t' k' => XS.iloadN X131.here hx rfl (hb hby d2_17) rfl  k') ?_
  show G (T131.setTop (mkF m 18 #[.val (.int u0)] [(.int u0), (.ref b131), (.ref b131)]))
  refine own_static go X131 hx hZ e131 hown (hw _ (List.mem_of_getElem? (i := 19) rfl)) (hw _ (List.mem_of_getElem? (i := 20) rfl)) (hw _ (List.mem_of_getElem? (i := 15) rfl)) (hw _ (List.mem_of_getElem? (i := 21) rfl)) (by decide) (rm3 l Z a0 hw u0 h131 n0 Z132) 2 (by decide) (by decide) (by decide) (by decide) (g := (mkF m 18 #[.val (.int u0)] [(.int u0), (.ref b131), (.ref b131)])) rfl (by rw [hml]; rfl) [(.int u0)] [(.ref b131), (.ref b131)] rfl (lenOf pd_1 rfl) rfl (by show 2 * 0 + _ ≤ _; exact Nat.le_of_eq rfl) (hb hby d2_18) ?_
  intro T136 L136 v136 X136 q136
  obtain ⟨⟨a136, rfl⟩, N136, K136⟩ := q136
  have ns137 : ∀ w ∈ [], ∃ c : Cell, h131[w]? = some c ∧ c.vm.isStatics = false := all0
  obtain ⟨lc136, X136h, N136h⟩ := own_hide X136 (Fr.app N130h N136)
  have K138 : Keep h0 T136.heap [] := K133.trans K136 all0
  have Z139 : n0 ≤ T136.heap.size := Nat.le_trans Z132 K136.1
  show G (T136.setTop (mkF m 21 #[.val (.int u0)] [(.ref a136), (.ref b131), (.ref b131)]))
  refine go _ _ (fun t' k' => XS.iconst X136h.here hx rfl (hb hby d2_21) k') ?_
  show G (T136.setTop (mkF m 22 #[.val (.int u0)] [(.int (0 : Int32)), (.ref a136), (.ref b131), (.ref b131)]))
  have f140 := (A131.keep K136)
  have f141 := (F134.keep K136 nin0)
  have f142 := (F135.keep K136 nin0)
  refine own_init go X136h hx hZ rfl rfl hown (hw _ (List.mem_of_getElem? (i := 23) rfl)) (hw _ (List.mem_of_getElem? (i := 24) rfl)) (hw _ (List.mem_of_getElem? (i := 10) rfl)) (hw _ (List.mem_of_getElem? (i := 26) rfl)) (by decide) (rm4 l Z a0 hw b131 a136 (0 : Int32) T136.heap n0 Z139 g_b131 f140 f141 f142) 1 (by decide) (by decide) (by decide) (by decide) (g := (mkF m 22 #[.val (.int u0)] [(.int (0 : Int32)), (.ref a136), (.ref b131), (.ref b131)])) rfl (by rw [hml]; rfl) b131 [(.ref a136), (.int (0 : Int32))] [(.ref b131)] rfl (lenOf pd_2 rfl) rfl (by show 2 * 0 + _ ≤ _; exact Nat.le_of_eq rfl) (hb hby d2_22) ?_
  intro T143 L143 v143 X143 q143
  obtain ⟨rfl, N143, K143⟩ := q143
  have ns144 : ∀ w ∈ [b131], ∃ c : Cell, T136.heap[w]? = some c ∧ c.vm.isStatics = false := (allS (own_exa_ns f140) all0)
  obtain ⟨lc143, X143h, N143h⟩ := own_hide X143 (Fr.app N136h N143)
  have K145 : Keep h0 T143.heap [] := K138.trans K143 (allS (Or.inr sz_b131) all0)
  have Z146 : n0 ≤ T143.heap.size := Nat.le_trans Z139 K143.1
  show G (T143.setTop (mkF m 25 #[.val (.int u0)] [(.ref b131)]))
  refine own_retA rt X143h hx hret rfl rfl (hb hby d2_25) (by decide) (by decide) ?_
  exact ⟨⟨_, rfl⟩, N143h, K145⟩
theorem pn_8 : plainName "java/lang/Record" = true := by first | (simp [plainName, overriddenIn]; done) | decide +kernel
theorem ef_rm6 (m : MethodId) (x0 : Addr) : entryFrame m #[(.ref x0)] 1 = mkF m 0 #[.val (.ref x0)] [] := by first | (simp [entryFrame, mkF, argsToLocals, Value.category]; done) | rfl
set_option maxRecDepth 65536 in
set_option maxHeartbeats 40000000 in
theorem rm6 (l : Launch) (Z : State) (a0 : Array Value) (hw : ∀ d ∈ tables_1, d.before a0 Z = true) (r0 : Addr) (h0 : Heap) (n0 : Nat) (Z0 : n0 ≤ h0.size)  :
    Con l Z (⟨"java/lang/Record", "<init>", "()V"⟩ : MethodName) jdk_30_method_1_code 1 none ({ frames := 1, cells := 0, slots := 0, locals := 12 } : Room) #[(.ref r0)] h0 (fun v h L => v = none ∧ Fr n0 L ∧ h = h0) := by
  refine own_body pn_8 ?_
  intro p e s m below meth c s₁ hx hby hml hown hnm hret hZ e0 X0 G go rt
  have N0 := Fr.nil n0
  rw [ef_rm6 m r0]
  show G (s₁.setTop (mkF m 0 #[.val (.ref r0)] []))
  refine go _ _ (fun t' k' => XS.aloadN X0.here hx rfl (hb hby d8_0) rfl rfl  k') ?_
  show G (s₁.setTop (mkF m 1 #[.val (.ref r0)] [(.ref r0)]))
  obtain ⟨T147, X147, e147, st147⟩ := initO X0 hx hZ hown (hw _ (List.mem_of_getElem? (i := 45) rfl)) (hw _ (List.mem_of_getElem? (i := 28) rfl)) (hw _ (List.mem_of_getElem? (i := 29) rfl)) e0 (g := (mkF m 1 #[.val (.ref r0)] [(.ref r0)])) rfl (by rw [hml]; rfl) rfl (hb hby d8_1) (by decide) (W := 0) (by show 2 * 0 + _ ≤ _; exact Nat.le_of_eq rfl) (by decide)
  refine go _ _ st147 ?_
  show G (T147.setTop (mkF m 4 #[.val (.ref r0)] []))
  refine own_retV rt X147 hx hret (hb hby d8_4) (by decide) (by decide) ?_
  exact ⟨rfl, N0, e147⟩
theorem pn_7 : plainName "com/example/lotwise/lotwise/plan/Pegging$Run" = true := by first | (simp [plainName, overriddenIn]; done) | decide +kernel
theorem ef_rm7 (m : MethodId) (x0 : Addr) (x1 : Addr) (x2 : Int64) (x3 : Addr) (x4 : Int32) (x5 : Int64) (x6 : Int64) (x7 : Int64) (x8 : Int32) : entryFrame m #[(.ref x0), (.ref x1), (.long x2), (.ref x3), (.int x4), (.long x5), (.long x6), (.long x7), (.int x8)] 13 = mkF m 0 #[.val (.ref x0), .val (.ref x1), .val (.long x2), .second, .val (.ref x3), .val (.int x4), .val (.long x5), .second, .val (.long x6), .second, .val (.long x7), .second, .val (.int x8)] [] := by first | (simp [entryFrame, mkF, argsToLocals, Value.category]; done) | rfl
set_option maxRecDepth 65536 in
set_option maxHeartbeats 40000000 in
theorem rm7 (l : Launch) (Z : State) (a0 : Array Value) (hw : ∀ d ∈ tables_1, d.before a0 Z = true) (r0 r1 : Addr) (q2 : Int64) (r3 : Addr) (u4 : Int32) (q5 q6 q7 : Int64) (u8 : Int32) (h0 : Heap) (n0 : Nat) (Z0 : n0 ≤ h0.size) (g_r0 : n0 ≤ r0) (E0 : Exa Z h0 r0 "com/example/lotwise/lotwise/plan/Pegging$Run") (F0 : Fld Z h0 r0 "com/example/lotwise/lotwise/plan/Pegging$Run" "kind" "Lcom/example/lotwise/lotwise/plan/Pegging$Kind;" .null) (F1 : Fld Z h0 r0 "com/example/lotwise/lotwise/plan/Pegging$Run" "day" "J" (.long (0 : Int64))) (F2 : Fld Z h0 r0 "com/example/lotwise/lotwise/plan/Pegging$Run" "text" "Ljava/lang/String;" .null) (F3 : Fld Z h0 r0 "com/example/lotwise/lotwise/plan/Pegging$Run" "numbered" "Z" (.int (0 : Int32))) (F4 : Fld Z h0 r0 "com/example/lotwise/lotwise/plan/Pegging$Run" "first" "J" (.long (0 : Int64))) (F5 : Fld Z h0 r0 "com/example/lotwise/lotwise/plan/Pegging$Run" "last" "J" (.long (0 : Int64))) (F6 : Fld Z h0 r0 "com/example/lotwise/lotwise/plan/Pegging$Run" "qty" "J" (.long (0 : Int64))) (F7 : Fld Z h0 r0 "com/example/lotwise/lotwise/plan/Pegging$Run" "parentOrders" "Z" (.int (0 : Int32))) :
    Con l Z (⟨"com/example/lotwise/lotwise/plan/Pegging$Run", "<init>", "(Lcom/example/lotwise/lotwise/plan/Pegging$Kind;JLjava/lang/String;ZJJJZ)V"⟩ : MethodName) prog_106_method_1_code 13 none ({ frames := 2, cells := 0, slots := 0, locals := 24 } : Room) #[(.ref r0), (.ref r1), (.long q2), (.ref r3), (.int u4), (.long q5), (.long q6), (.long q7), (.int u8)] h0 (fun v h L => v = none ∧ Fr n0 L ∧ Keep h0 h [r0] ∧ Fld Z h r0 "com/example/lotwise/lotwise/plan/Pegging$Run" "numbered" "Z" (.int (nar .boolean u4)) ∧ Fld Z h r0 "com/example/lotwise/lotwise/plan/Pegging$Run" "first" "J" (.long q5) ∧ Fld Z h r0 "com/example/lotwise/lotwise/plan/Pegging$Run" "last" "J" (.long q6)) := by
  refine own_body pn_7 ?_
  intro p e s m below meth c s₁ hx hby hml hown hnm hret hZ e0 X0 G go rt
  have N0 := Fr.nil n0
  rw [ef_rm7 m r0 r1 q2 r3 u4 q5 q6 q7 u8]
  show G (s₁.setTop (mkF m 0 #[.val (.ref r0), .val (.ref r1), .val (.long q2), .second, .val (.ref r3), .val (.int u4), .val (.long q5), .second, .val (.long q6), .second, .val (.long q7), .second, .val (.int u8)] []))
  refine go _ _ (fun t' k' => XS.aloadN X0.here hx rfl (hb hby d7_0) rfl rfl  k') ?_
  show G (s₁.setTop (mkF m 1 #[.val (.ref r0), .val (.ref r1), .val (.long q2), .second, .val (.ref r3), .val (.int u4), .val (.long q5), .second, .val (.long q6), .second, .val (.long q7), .second, .val (.int u8)] [(.ref r0)]))
  refine own_init go X0 hx hZ e0 rfl hown (hw _ (List.mem_of_getElem? (i := 40) rfl)) (hw _ (List.mem_of_getElem? (i := 41) rfl)) (hw _ (List.mem_of_getElem? (i := 43) rfl)) (hw _ (List.mem_of_getElem? (i := 44) rfl)) (by decide) (rm6 l Z a0 hw r0 h0 n0 Z0) 0 (by decide) (by decide) (by decide) (by decide) (g := (mkF m 1 #[.val (.ref r0), .val (.ref r1), .val (.long q2), .second, .val (.ref r3), .val (.int u4), .val (.long q5), .second, .val (.long q6), .second, .val (.long q7), .second, .val (.int u8)] [(.ref r0)])) rfl (by rw [hml]; rfl) r0 [] [] rfl (lenOf pd_3 rfl) rfl (by show 2 * 0 + _ ≤ _; exact Nat.le_of_eq rfl) (hb hby d7_1) ?_
  intro T148 L148 v148 X148 q148
  obtain ⟨rfl, N148, hh148⟩ := q148
  obtain ⟨lc148, X148h, N148h⟩ := own_hide X148 (Fr.app N0 N148)
  show G (T148.setTop (mkF m 4 #[.val (.ref r0), .val (.ref r1), .val (.long q2), .second, .val (.ref r3), .val (.int u4), .val (.long q5), .second, .val (.long q6), .second, .val (.long q7), .second, .val (.int u8)] []))
  refine go _ _ (fun t' k' => XS.aloadN X148h.here hx rfl (hb hby d7_4) rfl rfl  k') ?_
  show G (T148.setTop (mkF m 5 #[.val (.ref r0), .val (.ref r1), .val (.long q2), .second, .val (.ref r3), .val (.int u4), .val (.long q5), .second, .val (.long q6), .second, .val (.long q7), .second, .val (.int u8)] [(.ref r0)]))
  refine go _ _ (fun t' k' => XS.aloadN X148h.here hx rfl (hb hby d7_5) rfl rfl  k') ?_
  show G (T148.setTop (mkF m 6 #[.val (.ref r0), .val (.ref r1), .val (.long q2), .second, .val (.ref r3), .val (.int u4), .val (.long q5), .second, .val (.long q6), .second, .val (.long q7), .second, .val (.int u8)] [(.ref r1), (.ref r0)]))
  obtain ⟨T149, h149, X149, e149, W149, st149⟩ := putF X148h hx hZ hown (host := "") (Or.inl (hw _ (List.mem_of_getElem? (i := 46) rfl))) Via.refl hh148 F0 E0 (Or.inr ⟨(hw _ (List.mem_of_getElem? (i := 47) rfl)), rfl, hnm⟩) (hw _ (List.mem_of_getElem? (i := 35) rfl)) (ty := (.object "com/example/lotwise/lotwise/plan/Pegging$Kind")) (by decide) rfl rfl (g := (mkF m 6 #[.val (.ref r0), .val (.ref r1), .val (.long q2), .second, .val (.ref r3), .val (.int u4), .val (.long q5), .second, .val (.long q6), .second, .val (.long q7), .second, .val (.int u8)] [(.ref r1), (.ref r0)])) rfl rfl (hb hby d7_6)
  have F149 := F0.same W149
  have K150 : Keep h0 h149 [r0] := (Keep.refl h0 [r0]).wr W149 (Or.inl (List.mem_of_getElem? (i := 0) rfl))
  obtain ⟨lc149, X149h, N149h⟩ := own_hide X149 (Fr.snoc X149 N148h g_r0)
  have Z151 : n0 ≤ h149.size := Nat.le_trans Z0 (Nat.le_of_eq W149.size.symm)
  refine go _ _ st149 ?_
  show G (T149.setTop (mkF m 9 #[.val (.ref r0), .val (.ref r1), .val (.long q2), .second, .val (.ref r3), .val (.int u4), .val (.long q5), .second, .val (.long q6), .second, .val (.long q7), .second, .val (.int u8)] []))
  refine go _ _ (fun t' k' => XS.aloadN X149h.here hx rfl (hb hby d7_9) rfl rfl  k') ?_
  show G (T149.setTop (mkF m 10 #[.val (.ref r0), .val (.ref r1), .val (.long q2), .second, .val (.ref r3), .val (.int u4), .val (.long q5), .second, .val (.long q6), .second, .val (.long q7), .second, .val (.int u8)] [(.ref r0)]))
  refine go _ _ (fun t' k' => XS.lloadN X149h.here hx rfl (hb hby d7_10) rfl  k') ?_
  show G (T149.setTop (mkF m 11 #[.val (.ref r0), .val (.ref r1), .val (.long q2), .second, .val (.ref r3), .val (.int u4), .val (.long q5), .second, .val (.long q6), .second, .val (.long q7), .second, .val (.int u8)] [(.long q2), (.ref r0)]))
  have f152 := (F1.other W149 (Or.inr (slot_ne (Or.inr (hw _ (List.mem_of_getElem? (i := 49) rfl))) (Or.inr (hw _ (List.mem_of_getElem? (i := 47) rfl))) (by decide) (t := .long) (t' := (.object "com/example/lotwise/lotwise/plan/Pegging$Kind")) (by decide) (by decide))))
  have f153 := (E0.wr W149)
  obtain ⟨T154, h154, X154, e154, W154, st154⟩ := putF X149h hx hZ hown (host := "") (Or.inl (hw _ (List.mem_of_getElem? (i := 48) rfl))) Via.refl e149 f152 f153 (Or.inr ⟨(hw _ (List.mem_of_getElem? (i := 49) rfl)), rfl, hnm⟩) (hw _ (List.mem_of_getElem? (i := 35) rfl)) (ty := .long) (by decide) rfl rfl (g := (mkF m 11 #[.val (.ref r0), .val (.ref r1), .val (.long q2), .second, .val (.ref r3), .val (.int u4), .val (.long q5), .second, .val (.long q6), .second, .val (.long q7), .second, .val (.int u8)] [(.long q2), (.ref r0)])) rfl rfl (hb hby d7_11)
  have F154 := f152.same W154
  have K155 : Keep h0 h154 [r0] := K150.wr W154 (Or.inl (List.mem_of_getElem? (i := 0) rfl))
  obtain ⟨lc154, X154h, N154h⟩ := own_hide X154 (Fr.snoc X154 N149h g_r0)
  have Z156 : n0 ≤ h154.size := Nat.le_trans Z151 (Nat.le_of_eq W154.size.symm)
  refine go _ _ st154 ?_
  show G (T154.setTop (mkF m 14 #[.val (.ref r0), .val (.ref r1), .val (.long q2), .second, .val (.ref r3), .val (.int u4), .val (.long q5), .second, .val (.long q6), .second, .val (.long q7), .second, .val (.int u8)] []))
  refine go _ _ (fun t' k' => XS.aloadN X154h.here hx rfl (hb hby d7_14) rfl rfl  k') ?_
  show G (T154.setTop (mkF m 15 #[.val (.ref r0), .val (.ref r1), .val (.long q2), .second, .val (.ref r3), .val (.int u4), .val (.long q5), .second, .val (.long q6), .second, .val (.long q7), .second, .val (.int u8)] [(.ref r0)]))
  refine go _ _ (fun t' k' => XS.aload X154h.here hx rfl (hb hby d7_15) rfl rfl  k') ?_
  show G (T154.setTop (mkF m 17 #[.val (.ref r0), .val (.ref r1), .val (.long q2), .second, .val (.ref r3), .val (.int u4), .val (.long q5), .second, .val (.long q6), .second, .val (.long q7), .second, .val (.int u8)] [(.ref r3), (.ref r0)]))
  have f157 := ((F2.other W149 (Or.inr (slot_ne (Or.inr (hw _ (List.mem_of_getElem? (i := 51) rfl))) (Or.inr (hw _ (List.mem_of_getElem? (i := 47) rfl))) (by decide) (t := (.object "java/lang/String")) (t' := (.object "com/example/lotwise/lotwise/plan/Pegging$Kind")) (by decide) (by decide)))).other W154 (Or.inr (slot_ne (Or.inr (hw _ (List.mem_of_getElem? (i := 51) rfl))) (Or.inr (hw _ (List.mem_of_getElem? (i := 49) rfl))) (by decide) (t := (.object "java/lang/String")) (t' := .long) (by decide) (by decide))))
  have f158 := (f153.wr W154)
  obtain ⟨T159, h159, X159, e159, W159, st159⟩ := putF X154h hx hZ hown (host := "") (Or.inl (hw _ (List.mem_of_getElem? (i := 50) rfl))) Via.refl e154 f157 f158 (Or.inr ⟨(hw _ (List.mem_of_getElem? (i := 51) rfl)), rfl, hnm⟩) (hw _ (List.mem_of_getElem? (i := 35) rfl)) (ty := (.object "java/lang/String")) (by decide) rfl rfl (g := (mkF m 17 #[.val (.ref r0), .val (.ref r1), .val (.long q2), .second, .val (.ref r3), .val (.int u4), .val (.long q5), .second, .val (.long q6), .second, .val (.long q7), .second, .val (.int u8)] [(.ref r3), (.ref r0)])) rfl rfl (hb hby d7_17)
  have F159 := f157.same W159
  have K160 : Keep h0 h159 [r0] := K155.wr W159 (Or.inl (List.mem_of_getElem? (i := 0) rfl))
  obtain ⟨lc159, X159h, N159h⟩ := own_hide X159 (Fr.snoc X159 N154h g_r0)
  have Z161 : n0 ≤ h159.size := Nat.le_trans Z156 (Nat.le_of_eq W159.size.symm)
  refine go _ _ st159 ?_
  show G (T159.setTop (mkF m 20 #[.val (.ref r0), .val (.ref r1), .val (.long q2), .second, .val (.ref r3), .val (.int u4), .val (.long q5), .second, .val (.long q6), .second, .val (.long q7), .second, .val (.int u8)] []))
  refine go _ _ (fun t' k' => XS.aloadN X159h.here hx rfl (hb hby d7_20) rfl rfl  k') ?_
  show G (T159.setTop (mkF m 21 #[.val (.ref r0), .val (.ref r1), .val (.long q2), .second, .val (.ref r3), .val (.int u4), .val (.long q5), .second, .val (.long q6), .second, .val (.long q7), .second, .val (.int u8)] [(.ref r0)]))
  refine go _ _ (fun t' k' => XS.iload X159h.here hx rfl (hb hby d7_21) rfl  k') ?_
  show G (T159.setTop (mkF m 23 #[.val (.ref r0), .val (.ref r1), .val (.long q2), .second, .val (.ref r3), .val (.int u4), .val (.long q5), .second, .val (.long q6), .second, .val (.long q7), .second, .val (.int u8)] [(.int u4), (.ref r0)]))
  have f162 := (((F3.other W149 (Or.inr (slot_ne (Or.inr (hw _ (List.mem_of_getElem? (i := 53) rfl))) (Or.inr (hw _ (List.mem_of_getElem? (i := 47) rfl))) (by decide) (t := .boolean) (t' := (.object "com/example/lotwise/lotwise/plan/Pegging$Kind")) (by decide) (by decide)))).other W154 (Or.inr (slot_ne (Or.inr (hw _ (List.mem_of_getElem? (i := 53) rfl))) (Or.inr (hw _ (List.mem_of_getElem? (i := 49) rfl))) (by decide) (t := .boolean) (t' := .long) (by decide) (by decide)))).other W159 (Or.inr (slot_ne (Or.inr (hw _ (List.mem_of_getElem? (i := 53) rfl))) (Or.inr (hw _ (List.mem_of_getElem? (i := 51) rfl))) (by decide) (t := .boolean) (t' := (.object "java/lang/String")) (by decide) (by decide))))
  have f163 := (f158.wr W159)
  obtain ⟨T164, h164, X164, e164, W164, st164⟩ := putFN X159h hx hZ hown (hw _ (List.mem_of_getElem? (i := 52) rfl)) Via.refl e159 f162 f163 (Or.inr ⟨(hw _ (List.mem_of_getElem? (i := 53) rfl)), rfl, hnm⟩) (hw _ (List.mem_of_getElem? (i := 35) rfl)) (ty := .boolean) (v' := (.int (nar .boolean u4))) (by decide) rfl (fits_nar_bool _) (g := (mkF m 23 #[.val (.ref r0), .val (.ref r1), .val (.long q2), .second, .val (.ref r3), .val (.int u4), .val (.long q5), .second, .val (.long q6), .second, .val (.long q7), .second, .val (.int u8)] [(.int u4), (.ref r0)])) rfl rfl (hb hby d7_23)
  have F164 := f162.same W164
  have K165 : Keep h0 h164 [r0] := K160.wr W164 (Or.inl (List.mem_of_getElem? (i := 0) rfl))
  obtain ⟨lc164, X164h, N164h⟩ := own_hide X164 (Fr.snoc X164 N159h g_r0)
  have Z166 : n0 ≤ h164.size := Nat.le_trans Z161 (Nat.le_of_eq W164.size.symm)
  refine go _ _ st164 ?_
  show G (T164.setTop (mkF m 26 #[.val (.ref r0), .val (.ref r1), .val (.long q2), .second, .val (.ref r3), .val (.int u4), .val (.long q5), .second, .val (.long q6), .second, .val (.long q7), .second, .val (.int u8)] []))
  refine go _ _ (fun t' k' => XS.aloadN X164h.here hx rfl (hb hby d7_26) rfl rfl  k') ?_
  show G (T164.setTop (mkF m 27 #[.val (.ref r0), .val (.ref r1), .val (.long q2), .second, .val (.ref r3), .val (.int u4), .val (.long q5), .second, .val (.long q6), .second, .val (.long q7), .second, .val (.int u8)] [(.ref r0)]))
  refine go _ _ (fun t' k' => XS.lload X164h.here hx rfl (hb hby d7_27) rfl  k') ?_
  show G (T164.setTop (mkF m 29 #[.val (.ref r0), .val (.ref r1), .val (.long q2), .second, .val (.ref r3), .val (.int u4), .val (.long q5), .second, .val (.long q6), .second, .val (.long q7), .second, .val (.int u8)] [(.long q5), (.ref r0)]))
  have f167 := ((((F4.other W149 (Or.inr (slot_ne (Or.inr (hw _ (List.mem_of_getElem? (i := 55) rfl))) (Or.inr (hw _ (List.mem_of_getElem? (i := 47) rfl))) (by decide) (t := .long) (t' := (.object "com/example/lotwise/lotwise/plan/Pegging$Kind")) (by decide) (by decide)))).other W154 (Or.inr (slot_ne (Or.inr (hw _ (List.mem_of_getElem? (i := 55) rfl))) (Or.inr (hw _ (List.mem_of_getElem? (i := 49) rfl))) (by decide) (t := .long) (t' := .long) (by decide) (by decide)))).other W159 (Or.inr (slot_ne (Or.inr (hw _ (List.mem_of_getElem? (i := 55) rfl))) (Or.inr (hw _ (List.mem_of_getElem? (i := 51) rfl))) (by decide) (t := .long) (t' := (.object "java/lang/String")) (by decide) (by decide)))).other W164 (Or.inr (slot_ne (Or.inr (hw _ (List.mem_of_getElem? (i := 55) rfl))) (Or.inr (hw _ (List.mem_of_getElem? (i := 53) rfl))) (by decide) (t := .long) (t' := .boolean) (by decide) (by decide))))
  have f168 := (f163.wr W164)
  obtain ⟨T169, h169, X169, e169, W169, st169⟩ := putF X164h hx hZ hown (host := "") (Or.inl (hw _ (List.mem_of_getElem? (i := 54) rfl))) Via.refl e164 f167 f168 (Or.inr ⟨(hw _ (List.mem_of_getElem? (i := 55) rfl)), rfl, hnm⟩) (hw _ (List.mem_of_getElem? (i := 35) rfl)) (ty := .long) (by decide) rfl rfl (g := (mkF m 29 #[.val (.ref r0), .val (.ref r1), .val (.long q2), .second, .val (.ref r3), .val (.int u4), .val (.long q5), .second, .val (.long q6), .second, .val (.long q7), .second, .val (.int u8)] [(.long q5), (.ref r0)])) rfl rfl (hb hby d7_29)
  have F169 := f167.same W169
  have K170 : Keep h0 h169 [r0] := K165.wr W169 (Or.inl (List.mem_of_getElem? (i := 0) rfl))
  obtain ⟨lc169, X169h, N169h⟩ := own_hide X169 (Fr.snoc X169 N164h g_r0)
  have Z171 : n0 ≤ h169.size := Nat.le_trans Z166 (Nat.le_of_eq W169.size.symm)
  refine go _ _ st169 ?_
  show G (T169.setTop (mkF m 32 #[.val (.ref r0), .val (.ref r1), .val (.long q2), .second, .val (.ref r3), .val (.int u4), .val (.long q5), .second, .val (.long q6), .second, .val (.long q7), .second, .val (.int u8)] []))
  refine go _ _ (fun t' k' => XS.aloadN X169h.here hx rfl (hb hby d7_32) rfl rfl  k') ?_
  show G (T169.setTop (mkF m 33 #[.val (.ref r0), .val (.ref r1), .val (.long q2), .second, .val (.ref r3), .val (.int u4), .val (.long q5), .second, .val (.long q6), .second, .val (.long q7), .second, .val (.int u8)] [(.ref r0)]))
  refine go _ _ (fun t' k' => XS.lload X169h.here hx rfl (hb hby d7_33) rfl  k') ?_
  show G (T169.setTop (mkF m 35 #[.val (.ref r0), .val (.ref r1), .val (.long q2), .second, .val (.ref r3), .val (.int u4), .val (.long q5), .second, .val (.long q6), .second, .val (.long q7), .second, .val (.int u8)] [(.long q6), (.ref r0)]))
  have f172 := (((((F5.other W149 (Or.inr (slot_ne (Or.inr (hw _ (List.mem_of_getElem? (i := 57) rfl))) (Or.inr (hw _ (List.mem_of_getElem? (i := 47) rfl))) (by decide) (t := .long) (t' := (.object "com/example/lotwise/lotwise/plan/Pegging$Kind")) (by decide) (by decide)))).other W154 (Or.inr (slot_ne (Or.inr (hw _ (List.mem_of_getElem? (i := 57) rfl))) (Or.inr (hw _ (List.mem_of_getElem? (i := 49) rfl))) (by decide) (t := .long) (t' := .long) (by decide) (by decide)))).other W159 (Or.inr (slot_ne (Or.inr (hw _ (List.mem_of_getElem? (i := 57) rfl))) (Or.inr (hw _ (List.mem_of_getElem? (i := 51) rfl))) (by decide) (t := .long) (t' := (.object "java/lang/String")) (by decide) (by decide)))).other W164 (Or.inr (slot_ne (Or.inr (hw _ (List.mem_of_getElem? (i := 57) rfl))) (Or.inr (hw _ (List.mem_of_getElem? (i := 53) rfl))) (by decide) (t := .long) (t' := .boolean) (by decide) (by decide)))).other W169 (Or.inr (slot_ne (Or.inr (hw _ (List.mem_of_getElem? (i := 57) rfl))) (Or.inr (hw _ (List.mem_of_getElem? (i := 55) rfl))) (by decide) (t := .long) (t' := .long) (by decide) (by decide))))
  have f173 := (f168.wr W169)
  obtain ⟨T174, h174, X174, e174, W174, st174⟩ := putF X169h hx hZ hown (host := "") (Or.inl (hw _ (List.mem_of_getElem? (i := 56) rfl))) Via.refl e169 f172 f173 (Or.inr ⟨(hw _ (List.mem_of_getElem? (i := 57) rfl)), rfl, hnm⟩) (hw _ (List.mem_of_getElem? (i := 35) rfl)) (ty := .long) (by decide) rfl rfl (g := (mkF m 35 #[.val (.ref r0), .val (.ref r1), .val (.long q2), .second, .val (.ref r3), .val (.int u4), .val (.long q5), .second, .val (.long q6), .second, .val (.long q7), .second, .val (.int u8)] [(.long q6), (.ref r0)])) rfl rfl (hb hby d7_35)
  have F174 := f172.same W174
  have K175 : Keep h0 h174 [r0] := K170.wr W174 (Or.inl (List.mem_of_getElem? (i := 0) rfl))
  obtain ⟨lc174, X174h, N174h⟩ := own_hide X174 (Fr.snoc X174 N169h g_r0)
  have Z176 : n0 ≤ h174.size := Nat.le_trans Z171 (Nat.le_of_eq W174.size.symm)
  refine go _ _ st174 ?_
  show G (T174.setTop (mkF m 38 #[.val (.ref r0), .val (.ref r1), .val (.long q2), .second, .val (.ref r3), .val (.int u4), .val (.long q5), .second, .val (.long q6), .second, .val (.long q7), .second, .val (.int u8)] []))
  refine go _ _ (fun t' k' => XS.aloadN X174h.here hx rfl (hb hby d7_38) rfl rfl  k') ?_
  show G (T174.setTop (mkF m 39 #[.val (.ref r0), .val (.ref r1), .val (.long q2), .second, .val (.ref r3), .val (.int u4), .val (.long q5), .second, .val (.long q6), .second, .val (.long q7), .second, .val (.int u8)] [(.ref r0)]))
  refine go _ _ (fun t' k' => XS.lload X174h.here hx rfl (hb hby d7_39) rfl  k') ?_
  show G (T174.setTop (mkF m 41 #[.val (.ref r0), .val (.ref r1), .val (.long q2), .second, .val (.ref r3), .val (.int u4), .val (.long q5), .second, .val (.long q6), .second, .val (.long q7), .second, .val (.int u8)] [(.long q7), (.ref r0)]))
  have f177 := ((((((F6.other W149 (Or.inr (slot_ne (Or.inr (hw _ (List.mem_of_getElem? (i := 59) rfl))) (Or.inr (hw _ (List.mem_of_getElem? (i := 47) rfl))) (by decide) (t := .long) (t' := (.object "com/example/lotwise/lotwise/plan/Pegging$Kind")) (by decide) (by decide)))).other W154 (Or.inr (slot_ne (Or.inr (hw _ (List.mem_of_getElem? (i := 59) rfl))) (Or.inr (hw _ (List.mem_of_getElem? (i := 49) rfl))) (by decide) (t := .long) (t' := .long) (by decide) (by decide)))).other W159 (Or.inr (slot_ne (Or.inr (hw _ (List.mem_of_getElem? (i := 59) rfl))) (Or.inr (hw _ (List.mem_of_getElem? (i := 51) rfl))) (by decide) (t := .long) (t' := (.object "java/lang/String")) (by decide) (by decide)))).other W164 (Or.inr (slot_ne (Or.inr (hw _ (List.mem_of_getElem? (i := 59) rfl))) (Or.inr (hw _ (List.mem_of_getElem? (i := 53) rfl))) (by decide) (t := .long) (t' := .boolean) (by decide) (by decide)))).other W169 (Or.inr (slot_ne (Or.inr (hw _ (List.mem_of_getElem? (i := 59) rfl))) (Or.inr (hw _ (List.mem_of_getElem? (i := 55) rfl))) (by decide) (t := .long) (t' := .long) (by decide) (by decide)))).other W174 (Or.inr (slot_ne (Or.inr (hw _ (List.mem_of_getElem? (i := 59) rfl))) (Or.inr (hw _ (List.mem_of_getElem? (i := 57) rfl))) (by decide) (t := .long) (t' := .long) (by decide) (by decide))))
  have f178 := (f173.wr W174)
  obtain ⟨T179, h179, X179, e179, W179, st179⟩ := putF X174h hx hZ hown (host := "") (Or.inl (hw _ (List.mem_of_getElem? (i := 58) rfl))) Via.refl e174 f177 f178 (Or.inr ⟨(hw _ (List.mem_of_getElem? (i := 59) rfl)), rfl, hnm⟩) (hw _ (List.mem_of_getElem? (i := 35) rfl)) (ty := .long) (by decide) rfl rfl (g := (mkF m 41 #[.val (.ref r0), .val (.ref r1), .val (.long q2), .second, .val (.ref r3), .val (.int u4), .val (.long q5), .second, .val (.long q6), .second, .val (.long q7), .second, .val (.int u8)] [(.long q7), (.ref r0)])) rfl rfl (hb hby d7_41)
  have F179 := f177.same W179
  have K180 : Keep h0 h179 [r0] := K175.wr W179 (Or.inl (List.mem_of_getElem? (i := 0) rfl))
  obtain ⟨lc179, X179h, N179h⟩ := own_hide X179 (Fr.snoc X179 N174h g_r0)
  have Z181 : n0 ≤ h179.size := Nat.le_trans Z176 (Nat.le_of_eq W179.size.symm)
  refine go _ _ st179 ?_
  show G (T179.setTop (mkF m 44 #[.val (.ref r0), .val (.ref r1), .val (.long q2), .second, .val (.ref r3), .val (.int u4), .val (.long q5), .second, .val (.long q6), .second, .val (.long q7), .second, .val (.int u8)] []))
  refine go _ _ (fun t' k' => XS.aloadN X179h.here hx rfl (hb hby d7_44) rfl rfl  k') ?_
  show G (T179.setTop (mkF m 45 #[.val (.ref r0), .val (.ref r1), .val (.long q2), .second, .val (.ref r3), .val (.int u4), .val (.long q5), .second, .val (.long q6), .second, .val (.long q7), .second, .val (.int u8)] [(.ref r0)]))
  refine go _ _ (fun t' k' => XS.iload X179h.here hx rfl (hb hby d7_45) rfl  k') ?_
  show G (T179.setTop (mkF m 47 #[.val (.ref r0), .val (.ref r1), .val (.long q2), .second, .val (.ref r3), .val (.int u4), .val (.long q5), .second, .val (.long q6), .second, .val (.long q7), .second, .val (.int u8)] [(.int u8), (.ref r0)]))
  have f182 := (((((((F7.other W149 (Or.inr (slot_ne (Or.inr (hw _ (List.mem_of_getElem? (i := 61) rfl))) (Or.inr (hw _ (List.mem_of_getElem? (i := 47) rfl))) (by decide) (t := .boolean) (t' := (.object "com/example/lotwise/lotwise/plan/Pegging$Kind")) (by decide) (by decide)))).other W154 (Or.inr (slot_ne (Or.inr (hw _ (List.mem_of_getElem? (i := 61) rfl))) (Or.inr (hw _ (List.mem_of_getElem? (i := 49) rfl))) (by decide) (t := .boolean) (t' := .long) (by decide) (by decide)))).other W159 (Or.inr (slot_ne (Or.inr (hw _ (List.mem_of_getElem? (i := 61) rfl))) (Or.inr (hw _ (List.mem_of_getElem? (i := 51) rfl))) (by decide) (t := .boolean) (t' := (.object "java/lang/String")) (by decide) (by decide)))).other W164 (Or.inr (slot_ne (Or.inr (hw _ (List.mem_of_getElem? (i := 61) rfl))) (Or.inr (hw _ (List.mem_of_getElem? (i := 53) rfl))) (by decide) (t := .boolean) (t' := .boolean) (by decide) (by decide)))).other W169 (Or.inr (slot_ne (Or.inr (hw _ (List.mem_of_getElem? (i := 61) rfl))) (Or.inr (hw _ (List.mem_of_getElem? (i := 55) rfl))) (by decide) (t := .boolean) (t' := .long) (by decide) (by decide)))).other W174 (Or.inr (slot_ne (Or.inr (hw _ (List.mem_of_getElem? (i := 61) rfl))) (Or.inr (hw _ (List.mem_of_getElem? (i := 57) rfl))) (by decide) (t := .boolean) (t' := .long) (by decide) (by decide)))).other W179 (Or.inr (slot_ne (Or.inr (hw _ (List.mem_of_getElem? (i := 61) rfl))) (Or.inr (hw _ (List.mem_of_getElem? (i := 59) rfl))) (by decide) (t := .boolean) (t' := .long) (by decide) (by decide))))
  have f183 := (f178.wr W179)
  obtain ⟨T184, h184, X184, e184, W184, st184⟩ := putFN X179h hx hZ hown (hw _ (List.mem_of_getElem? (i := 60) rfl)) Via.refl e179 f182 f183 (Or.inr ⟨(hw _ (List.mem_of_getElem? (i := 61) rfl)), rfl, hnm⟩) (hw _ (List.mem_of_getElem? (i := 35) rfl)) (ty := .boolean) (v' := (.int (nar .boolean u8))) (by decide) rfl (fits_nar_bool _) (g := (mkF m 47 #[.val (.ref r0), .val (.ref r1), .val (.long q2), .second, .val (.ref r3), .val (.int u4), .val (.long q5), .second, .val (.long q6), .second, .val (.long q7), .second, .val (.int u8)] [(.int u8), (.ref r0)])) rfl rfl (hb hby d7_47)
  have F184 := f182.same W184
  have K185 : Keep h0 h184 [r0] := K180.wr W184 (Or.inl (List.mem_of_getElem? (i := 0) rfl))
  obtain ⟨lc184, X184h, N184h⟩ := own_hide X184 (Fr.snoc X184 N179h g_r0)
  have Z186 : n0 ≤ h184.size := Nat.le_trans Z181 (Nat.le_of_eq W184.size.symm)
  refine go _ _ st184 ?_
  show G (T184.setTop (mkF m 50 #[.val (.ref r0), .val (.ref r1), .val (.long q2), .second, .val (.ref r3), .val (.int u4), .val (.long q5), .second, .val (.long q6), .second, .val (.long q7), .second, .val (.int u8)] []))
  refine own_retV rt X184h hx hret (hb hby d7_50) (by decide) (by decide) ?_
  have f187 := ((((F164.other W169 (Or.inr (slot_ne (Or.inr (hw _ (List.mem_of_getElem? (i := 53) rfl))) (Or.inr (hw _ (List.mem_of_getElem? (i := 55) rfl))) (by decide) (t := .boolean) (t' := .long) (by decide) (by decide)))).other W174 (Or.inr (slot_ne (Or.inr (hw _ (List.mem_of_getElem? (i := 53) rfl))) (Or.inr (hw _ (List.mem_of_getElem? (i := 57) rfl))) (by decide) (t := .boolean) (t' := .long) (by decide) (by decide)))).other W179 (Or.inr (slot_ne (Or.inr (hw _ (List.mem_of_getElem? (i := 53) rfl))) (Or.inr (hw _ (List.mem_of_getElem? (i := 59) rfl))) (by decide) (t := .boolean) (t' := .long) (by decide) (by decide)))).other W184 (Or.inr (slot_ne (Or.inr (hw _ (List.mem_of_getElem? (i := 53) rfl))) (Or.inr (hw _ (List.mem_of_getElem? (i := 61) rfl))) (by decide) (t := .boolean) (t' := .boolean) (by decide) (by decide))))
  have f188 := (((F169.other W174 (Or.inr (slot_ne (Or.inr (hw _ (List.mem_of_getElem? (i := 55) rfl))) (Or.inr (hw _ (List.mem_of_getElem? (i := 57) rfl))) (by decide) (t := .long) (t' := .long) (by decide) (by decide)))).other W179 (Or.inr (slot_ne (Or.inr (hw _ (List.mem_of_getElem? (i := 55) rfl))) (Or.inr (hw _ (List.mem_of_getElem? (i := 59) rfl))) (by decide) (t := .long) (t' := .long) (by decide) (by decide)))).other W184 (Or.inr (slot_ne (Or.inr (hw _ (List.mem_of_getElem? (i := 55) rfl))) (Or.inr (hw _ (List.mem_of_getElem? (i := 61) rfl))) (by decide) (t := .long) (t' := .boolean) (by decide) (by decide))))
  have f189 := ((F174.other W179 (Or.inr (slot_ne (Or.inr (hw _ (List.mem_of_getElem? (i := 57) rfl))) (Or.inr (hw _ (List.mem_of_getElem? (i := 59) rfl))) (by decide) (t := .long) (t' := .long) (by decide) (by decide)))).other W184 (Or.inr (slot_ne (Or.inr (hw _ (List.mem_of_getElem? (i := 57) rfl))) (Or.inr (hw _ (List.mem_of_getElem? (i := 61) rfl))) (by decide) (t := .long) (t' := .boolean) (by decide) (by decide))))
  rw [e184]
  exact ⟨rfl, N184h, K185, f187, f188, f189⟩
theorem pn_9 : plainName "com/example/lotwise/lotwise/plan/Pegging$Run" = true := by first | (simp [plainName, overriddenIn]; done) | decide +kernel
theorem ef_rm8 (m : MethodId) (x0 : Addr) : entryFrame m #[(.ref x0)] 1 = mkF m 0 #[.val (.ref x0)] [] := by first | (simp [entryFrame, mkF, argsToLocals, Value.category]; done) | rfl
set_option maxRecDepth 65536 in
set_option maxHeartbeats 40000000 in
theorem rm8 (l : Launch) (Z : State) (a0 : Array Value) (hw : ∀ d ∈ tables_1, d.before a0 Z = true) (r0 : Addr) (u4 : Int32) (q5 q6 : Int64) (h0 : Heap) (n0 : Nat) (Z0 : n0 ≤ h0.size) (F0 : Fld Z h0 r0 "com/example/lotwise/lotwise/plan/Pegging$Run" "numbered" "Z" (.int u4)) (F1 : Fld Z h0 r0 "com/example/lotwise/lotwise/plan/Pegging$Run" "first" "J" (.long q5)) (F2 : Fld Z h0 r0 "com/example/lotwise/lotwise/plan/Pegging$Run" "last" "J" (.long q6)) :
    Con l Z (⟨"com/example/lotwise/lotwise/plan/Pegging$Run", "count", "()J"⟩ : MethodName) prog_106_method_3_code 1 (some .long) ({ frames := 0, cells := 0, slots := 0, locals := 0 } : Room) #[(.ref r0)] h0 (fun v h L => v = some (.long (if u4 = 0 then 1 else q6 - q5 + 1)) ∧ Fr n0 L ∧ h = h0) := by
  refine own_body pn_9 ?_
  intro p e s m below meth c s₁ hx hby hml hown hnm hret hZ e0 X0 G go rt
  have N0 := Fr.nil n0
  rw [ef_rm8 m r0]
  show G (s₁.setTop (mkF m 0 #[.val (.ref r0)] []))
  refine go _ _ (fun t' k' => XS.aloadN X0.here hx rfl (hb hby d9_0) rfl rfl  k') ?_
  show G (s₁.setTop (mkF m 1 #[.val (.ref r0)] [(.ref r0)]))
  obtain ⟨T190, X190, e190, st190⟩ := getF X0 hx hZ hown (host := "") (Or.inl (hw _ (List.mem_of_getElem? (i := 52) rfl))) Via.refl e0 F0 (g := (mkF m 1 #[.val (.ref r0)] [(.ref r0)])) rfl rfl (hb hby d9_1)
  refine go _ _ st190 ?_
  show G (T190.setTop (mkF m 4 #[.val (.ref r0)] [(.int u4)]))
  by_cases c191 : u4 = (0 : Int32)
  · refine go _ _ (fun t' k' => XS.ifYes X190.here hx rfl (pc0 := 4) (pc' := 21) rfl (hb hby d9_4) rfl (Free.XT.i0_eq_t c191) (by decide) (by decide) k') ?_
    show G (T190.setTop (mkF m 21 #[.val (.ref r0)] []))
    refine go _ _ (fun t' k' => XS.lconst X190.here hx rfl (hb hby d9_21) k') ?_
    show G (T190.setTop (mkF m 22 #[.val (.ref r0)] [(.long (1 : Int64))]))
    refine own_retJ rt X190 hx hret (hb hby d9_22) (by decide) (by decide) ?_
    exact ⟨by simp [c191], N0, e190⟩
  · refine go _ _ (fun t' k' => XS.ifNo X190.here hx rfl (hb hby d9_4) rfl (Free.XT.i0_eq_f c191) k') ?_
    show G (T190.setTop (mkF m 7 #[.val (.ref r0)] []))
    refine go _ _ (fun t' k' => XS.aloadN X190.here hx rfl (hb hby d9_7) rfl rfl  k') ?_
    show G (T190.setTop (mkF m 8 #[.val (.ref r0)] [(.ref r0)]))
    obtain ⟨T192, X192, e192, st192⟩ := getF X190 hx hZ hown (host := "") (Or.inl (hw _ (List.mem_of_getElem? (i := 56) rfl))) Via.refl e190 F2 (g := (mkF m 8 #[.val (.ref r0)] [(.ref r0)])) rfl rfl (hb hby d9_8)
    refine go _ _ st192 ?_
    show G (T192.setTop (mkF m 11 #[.val (.ref r0)] [(.long q6)]))
    refine go _ _ (fun t' k' => XS.aloadN X192.here hx rfl (hb hby d9_11) rfl rfl  k') ?_
    show G (T192.setTop (mkF m 12 #[.val (.ref r0)] [(.ref r0), (.long q6)]))
    obtain ⟨T193, X193, e193, st193⟩ := getF X192 hx hZ hown (host := "") (Or.inl (hw _ (List.mem_of_getElem? (i := 54) rfl))) Via.refl e192 F1 (g := (mkF m 12 #[.val (.ref r0)] [(.ref r0), (.long q6)])) rfl rfl (hb hby d9_12)
    refine go _ _ st193 ?_
    show G (T193.setTop (mkF m 15 #[.val (.ref r0)] [(.long q5), (.long q6)]))
    refine go _ _ (fun t' k' => XS.lsub X193.here hx rfl (hb hby d9_15) rfl k') ?_
    show G (T193.setTop (mkF m 16 #[.val (.ref r0)] [(.long (q6 - q5))]))
    refine go _ _ (fun t' k' => XS.lconst X193.here hx rfl (hb hby d9_16) k') ?_
    show G (T193.setTop (mkF m 17 #[.val (.ref r0)] [(.long (1 : Int64)), (.long (q6 - q5))]))
    refine go _ _ (fun t' k' => XS.ladd X193.here hx rfl (hb hby d9_17) rfl k') ?_
    show G (T193.setTop (mkF m 18 #[.val (.ref r0)] [(.long ((q6 - q5) + (1 : Int64)))]))
    refine go _ _ (fun t' k' => XS.goto X193.here hx rfl (pc0 := 18) (pc' := 22) rfl (hb hby d9_18) (by decide) (by decide) k') ?_
    show G (T193.setTop (mkF m 22 #[.val (.ref r0)] [(.long ((q6 - q5) + (1 : Int64)))]))
    refine own_retJ rt X193 hx hret (hb hby d9_22) (by decide) (by decide) ?_
    exact ⟨by simp [c191], N0, e193⟩
theorem pn_0 : plainName "com/example/lotwise/lotwise/plan/RunCountPinLaw" = true := by first | (simp [plainName, overriddenIn]; done) | decide +kernel
theorem ef_rm0 (m : MethodId) (x0 : Int32) (x1 : Int64) (x2 : Int64) (x3 : Int64) (x4 : Int64) (x5 : Int32) : entryFrame m #[(.int x0), (.long x1), (.long x2), (.long x3), (.long x4), (.int x5)] maxLocals = mkF m 0 #[.val (.int x0), .val (.long x1), .second, .val (.long x2), .second, .val (.long x3), .second, .val (.long x4), .second, .val (.int x5), .unset, .unset, .unset, .unset, .unset, .unset, .unset, .unset, .unset, .unset, .unset, .unset, .unset, .unset, .unset, .unset, .unset, .unset, .unset, .unset, .unset, .unset, .unset, .unset] [] := by first | (simp [entryFrame, mkF, argsToLocals, Value.category, maxLocals]; done) | rfl
set_option maxRecDepth 65536 in
set_option maxHeartbeats 40000000 in
theorem rm0 (l : Launch) (Z : State) (a0 : Array Value) (hw : ∀ d ∈ tables_1, d.before a0 Z = true) (u0 : Int32) (q1 q2 q3 q4 : Int64) (u5 : Int32) (h0 : Heap) (n0 : Nat) (Z0 : n0 ≤ h0.size) (r0 r1 r2 r3 r4 r5 r6 : Addr) (cs : Int32) (S0 : Sta Z h0 "com/example/lotwise/lotwise/plan/Pegging$Kind" "ON_HAND" "Lcom/example/lotwise/lotwise/plan/Pegging$Kind;" (.ref r0)) (S1 : Sta Z h0 "com/example/lotwise/lotwise/plan/Pegging$Kind" "RECEIPT" "Lcom/example/lotwise/lotwise/plan/Pegging$Kind;" (.ref r1)) (S2 : Sta Z h0 "com/example/lotwise/lotwise/plan/Pegging$Kind" "FIRM_ORDER" "Lcom/example/lotwise/lotwise/plan/Pegging$Kind;" (.ref r2)) (S3 : Sta Z h0 "com/example/lotwise/lotwise/plan/Pegging$Kind" "PLANNED_ORDER" "Lcom/example/lotwise/lotwise/plan/Pegging$Kind;" (.ref r3)) (S4 : Sta Z h0 "com/example/lotwise/lotwise/plan/Pegging$Kind" "SHORT" "Lcom/example/lotwise/lotwise/plan/Pegging$Kind;" (.ref r4)) (S5 : Sta Z h0 "com/example/lotwise/lotwise/plan/Pegging$Kind" "SAFETY_STOCK" "Lcom/example/lotwise/lotwise/plan/Pegging$Kind;" (.ref r5)) (S6 : Sta Z h0 "com/example/lotwise/lotwise/plan/Pegging$Kind" "DEMAND" "Lcom/example/lotwise/lotwise/plan/Pegging$Kind;" (.ref r6)) (Sc : Sta Z h0 "java/lang/String" "COMPACT_STRINGS" "Z" (.int cs)) (hcs : ¬ cs = (0 : Int32)) :
    Con l Z x code maxLocals ret room_1 #[(.int u0), (.long q1), (.long q2), (.long q3), (.long q4), (.int u5)] h0 (fun v h L => v = some (.int 1) ∧ Fr n0 L) := by
  refine own_body pn_0 ?_
  intro p e s m below meth c s₁ hx hby hml hown hnm hret hZ e0 X0 G go rt
  have N0 := Fr.nil n0
  rw [ef_rm0 m u0 q1 q2 q3 q4 u5]
  show G (s₁.setTop (mkF m 0 #[.val (.int u0), .val (.long q1), .second, .val (.long q2), .second, .val (.long q3), .second, .val (.long q4), .second, .val (.int u5), .unset, .unset, .unset, .unset, .unset, .unset, .unset, .unset, .unset, .unset, .unset, .unset, .unset, .unset, .unset, .unset, .unset, .unset, .unset, .unset, .unset, .unset, .unset, .unset] []))
  refine go _ _ (fun t' k' => XS.iloadN X0.here hx rfl (hb hby at_0) rfl  k') ?_
  show G (s₁.setTop (mkF m 1 #[.val (.int u0), .val (.long q1), .second, .val (.long q2), .second, .val (.long q3), .second, .val (.long q4), .second, .val (.int u5), .unset, .unset, .unset, .unset, .unset, .unset, .unset, .unset, .unset, .unset, .unset, .unset, .unset, .unset, .unset, .unset, .unset, .unset, .unset, .unset, .unset, .unset, .unset, .unset] [(.int u0)]))
  refine own_static go X0 hx hZ e0 hown (hw _ (List.mem_of_getElem? (i := 0) rfl)) (hw _ (List.mem_of_getElem? (i := 1) rfl)) (hw _ (List.mem_of_getElem? (i := 2) rfl)) (hw _ (List.mem_of_getElem? (i := 3) rfl)) (by decide) (rm1 l Z a0 hw u0 r0 r1 r2 r3 r4 r5 r6 h0 n0 Z0 S0 S1 S2 S3 S4 S5 S6) 0 (by decide) (by decide) (by decide) (by decide) (g := (mkF m 1 #[.val (.int u0), .val (.long q1), .second, .val (.long q2), .second, .val (.long q3), .second, .val (.long q4), .second, .val (.int u5), .unset, .unset, .unset, .unset, .unset, .unset, .unset, .unset, .unset, .unset, .unset, .unset, .unset, .unset, .unset, .unset, .unset, .unset, .unset, .unset, .unset, .unset, .unset, .unset] [(.int u0)])) rfl (by rw [hml]; rfl) [(.int u0)] [] rfl (lenOf pd_4 rfl) rfl (by show 2 * 0 + _ ≤ _; exact Nat.le_of_eq rfl) (hb hby at_1) ?_
  intro T194 L194 v194 X194 q194
  obtain ⟨⟨a194, rfl⟩, N194, hh194⟩ := q194
  obtain ⟨lc194, X194h, N194h⟩ := own_hide X194 (Fr.app N0 N194)
  show G (T194.setTop (mkF m 4 #[.val (.int u0), .val (.long q1), .second, .val (.long q2), .second, .val (.long q3), .second, .val (.long q4), .second, .val (.int u5), .unset, .unset, .unset, .unset, .unset, .unset, .unset, .unset, .unset, .unset, .unset, .unset, .unset, .unset, .unset, .unset, .unset, .unset, .unset, .unset, .unset, .unset, .unset, .unset] [(.ref a194)]))
  refine go _ _ (fun t' k' => XS.astore X194h.here hx rfl (hb hby at_4) rfl rfl (l' := #[.val (.int u0), .val (.long q1), .second, .val (.long q2), .second, .val (.long q3), .second, .val (.long q4), .second, .val (.int u5), .val (.ref a194), .unset, .unset, .unset, .unset, .unset, .unset, .unset, .unset, .unset, .unset, .unset, .unset, .unset, .unset, .unset, .unset, .unset, .unset, .unset, .unset, .unset, .unset, .unset]) rfl k') ?_
  show G (T194.setTop (mkF m 6 #[.val (.int u0), .val (.long q1), .second, .val (.long q2), .second, .val (.long q3), .second, .val (.long q4), .second, .val (.int u5), .val (.ref a194), .unset, .unset, .unset, .unset, .unset, .unset, .unset, .unset, .unset, .unset, .unset, .unset, .unset, .unset, .unset, .unset, .unset, .unset, .unset, .unset, .unset, .unset, .unset] []))
  refine go _ _ (fun t' k' => XS.iload X194h.here hx rfl (hb hby at_6) rfl  k') ?_
  show G (T194.setTop (mkF m 8 #[.val (.int u0), .val (.long q1), .second, .val (.long q2), .second, .val (.long q3), .second, .val (.long q4), .second, .val (.int u5), .val (.ref a194), .unset, .unset, .unset, .unset, .unset, .unset, .unset, .unset, .unset, .unset, .unset, .unset, .unset, .unset, .unset, .unset, .unset, .unset, .unset, .unset, .unset, .unset, .unset] [(.int u5)]))
  refine go _ _ (fun t' k' => XS.bipush X194h.here hx rfl (hb hby at_8) k') ?_
  show G (T194.setTop (mkF m 10 #[.val (.int u0), .val (.long q1), .second, .val (.long q2), .second, .val (.long q3), .second, .val (.long q4), .second, .val (.int u5), .val (.ref a194), .unset, .unset, .unset, .unset, .unset, .unset, .unset, .unset, .unset, .unset, .unset, .unset, .unset, .unset, .unset, .unset, .unset, .unset, .unset, .unset, .unset, .unset, .unset] [(.int (8 : Int32)), (.int u5)]))
  refine go _ _ (fun t' k' => XS.iushr X194h.here hx rfl (hb hby at_10) rfl k') ?_
  show G (T194.setTop (mkF m 11 #[.val (.int u0), .val (.long q1), .second, .val (.long q2), .second, .val (.long q3), .second, .val (.long q4), .second, .val (.int u5), .val (.ref a194), .unset, .unset, .unset, .unset, .unset, .unset, .unset, .unset, .unset, .unset, .unset, .unset, .unset, .unset, .unset, .unset, .unset, .unset, .unset, .unset, .unset, .unset, .unset] [(.int ((u5.toUInt32 >>> ((8 : Int32) &&& 31).toUInt32).toInt32))]))
  refine go _ _ (fun t' k' => XS.sipush X194h.here hx rfl (hb hby at_11) k') ?_
  show G (T194.setTop (mkF m 14 #[.val (.int u0), .val (.long q1), .second, .val (.long q2), .second, .val (.long q3), .second, .val (.long q4), .second, .val (.int u5), .val (.ref a194), .unset, .unset, .unset, .unset, .unset, .unset, .unset, .unset, .unset, .unset, .unset, .unset, .unset, .unset, .unset, .unset, .unset, .unset, .unset, .unset, .unset, .unset, .unset] [(.int (255 : Int32)), (.int ((u5.toUInt32 >>> ((8 : Int32) &&& 31).toUInt32).toInt32))]))
  refine go _ _ (fun t' k' => XS.iand X194h.here hx rfl (hb hby at_14) rfl k') ?_
  show G (T194.setTop (mkF m 15 #[.val (.int u0), .val (.long q1), .second, .val (.long q2), .second, .val (.long q3), .second, .val (.long q4), .second, .val (.int u5), .val (.ref a194), .unset, .unset, .unset, .unset, .unset, .unset, .unset, .unset, .unset, .unset, .unset, .unset, .unset, .unset, .unset, .unset, .unset, .unset, .unset, .unset, .unset, .unset, .unset] [(.int (((u5.toUInt32 >>> ((8 : Int32) &&& 31).toUInt32).toInt32) &&& (255 : Int32)))]))
  refine go _ _ (fun t' k' => XS.i2c X194h.here hx rfl (hb hby at_15) rfl k') ?_
  show G (T194.setTop (mkF m 16 #[.val (.int u0), .val (.long q1), .second, .val (.long q2), .second, .val (.long q3), .second, .val (.long q4), .second, .val (.int u5), .val (.ref a194), .unset, .unset, .unset, .unset, .unset, .unset, .unset, .unset, .unset, .unset, .unset, .unset, .unset, .unset, .unset, .unset, .unset, .unset, .unset, .unset, .unset, .unset, .unset] [(.int ((((u5.toUInt32 >>> ((8 : Int32) &&& 31).toUInt32).toInt32) &&& (255 : Int32)).toUInt32.toUInt16.toUInt32.toInt32))]))
  obtain ⟨yc, hyc⟩ : ∃ z, z = ((((u5.toUInt32 >>> ((8 : Int32) &&& 31).toUInt32).toInt32) &&& (255 : Int32)).toUInt32.toUInt16.toUInt32.toInt32) := ⟨_, rfl⟩
  rw [← hyc]
  show G (T194.setTop (mkF m 16 #[.val (.int u0), .val (.long q1), .second, .val (.long q2), .second, .val (.long q3), .second, .val (.long q4), .second, .val (.int u5), .val (.ref a194), .unset, .unset, .unset, .unset, .unset, .unset, .unset, .unset, .unset, .unset, .unset, .unset, .unset, .unset, .unset, .unset, .unset, .unset, .unset, .unset, .unset, .unset, .unset] [(.int yc)]))
  refine own_static go X194h hx hZ hh194 hown (hw _ (List.mem_of_getElem? (i := 8) rfl)) (hw _ (List.mem_of_getElem? (i := 9) rfl)) (hw _ (List.mem_of_getElem? (i := 10) rfl)) (hw _ (List.mem_of_getElem? (i := 11) rfl)) (by decide) (rm5 l Z a0 hw yc cs h0 n0 Z0 (own_c255 u5 _ hyc) Sc hcs) 0 (by decide) (by decide) (by decide) (by decide) (g := (mkF m 16 #[.val (.int u0), .val (.long q1), .second, .val (.long q2), .second, .val (.long q3), .second, .val (.long q4), .second, .val (.int u5), .val (.ref a194), .unset, .unset, .unset, .unset, .unset, .unset, .unset, .unset, .unset, .unset, .unset, .unset, .unset, .unset, .unset, .unset, .unset, .unset, .unset, .unset, .unset, .unset, .unset] [(.int yc)])) rfl (by rw [hml]; rfl) [(.int yc)] [] rfl (lenOf pd_5 rfl) rfl (by show 2 * 0 + _ ≤ _; exact Nat.le_of_eq rfl) (hb hby at_16) ?_
  intro T195 L195 v195 X195 q195
  obtain ⟨⟨a195, rfl⟩, N195, K195⟩ := q195
  have ns196 : ∀ w ∈ [], ∃ c : Cell, h0[w]? = some c ∧ c.vm.isStatics = false := all0
  obtain ⟨lc195, X195h, N195h⟩ := own_hide X195 (Fr.app N194h N195)
  have K197 : Keep h0 T195.heap [] := (Keep.refl h0 []).trans K195 all0
  have Z198 : n0 ≤ T195.heap.size := Nat.le_trans Z0 K195.1
  show G (T195.setTop (mkF m 19 #[.val (.int u0), .val (.long q1), .second, .val (.long q2), .second, .val (.long q3), .second, .val (.long q4), .second, .val (.int u5), .val (.ref a194), .unset, .unset, .unset, .unset, .unset, .unset, .unset, .unset, .unset, .unset, .unset, .unset, .unset, .unset, .unset, .unset, .unset, .unset, .unset, .unset, .unset, .unset, .unset] [(.ref a195)]))
  refine go _ _ (fun t' k' => XS.astore X195h.here hx rfl (hb hby at_19) rfl rfl (l' := #[.val (.int u0), .val (.long q1), .second, .val (.long q2), .second, .val (.long q3), .second, .val (.long q4), .second, .val (.int u5), .val (.ref a194), .val (.ref a195), .unset, .unset, .unset, .unset, .unset, .unset, .unset, .unset, .unset, .unset, .unset, .unset, .unset, .unset, .unset, .unset, .unset, .unset, .unset, .unset, .unset, .unset]) rfl k') ?_
  show G (T195.setTop (mkF m 21 #[.val (.int u0), .val (.long q1), .second, .val (.long q2), .second, .val (.long q3), .second, .val (.long q4), .second, .val (.int u5), .val (.ref a194), .val (.ref a195), .unset, .unset, .unset, .unset, .unset, .unset, .unset, .unset, .unset, .unset, .unset, .unset, .unset, .unset, .unset, .unset, .unset, .unset, .unset, .unset, .unset, .unset] []))
  refine go _ _ (fun t' k' => XS.iload X195h.here hx rfl (hb hby at_21) rfl  k') ?_
  show G (T195.setTop (mkF m 23 #[.val (.int u0), .val (.long q1), .second, .val (.long q2), .second, .val (.long q3), .second, .val (.long q4), .second, .val (.int u5), .val (.ref a194), .val (.ref a195), .unset, .unset, .unset, .unset, .unset, .unset, .unset, .unset, .unset, .unset, .unset, .unset, .unset, .unset, .unset, .unset, .unset, .unset, .unset, .unset, .unset, .unset] [(.int u5)]))
  refine go _ _ (fun t' k' => XS.iconst X195h.here hx rfl (hb hby at_23) k') ?_
  show G (T195.setTop (mkF m 24 #[.val (.int u0), .val (.long q1), .second, .val (.long q2), .second, .val (.long q3), .second, .val (.long q4), .second, .val (.int u5), .val (.ref a194), .val (.ref a195), .unset, .unset, .unset, .unset, .unset, .unset, .unset, .unset, .unset, .unset, .unset, .unset, .unset, .unset, .unset, .unset, .unset, .unset, .unset, .unset, .unset, .unset] [(.int (1 : Int32)), (.int u5)]))
  refine go _ _ (fun t' k' => XS.iand X195h.here hx rfl (hb hby at_24) rfl k') ?_
  show G (T195.setTop (mkF m 25 #[.val (.int u0), .val (.long q1), .second, .val (.long q2), .second, .val (.long q3), .second, .val (.long q4), .second, .val (.int u5), .val (.ref a194), .val (.ref a195), .unset, .unset, .unset, .unset, .unset, .unset, .unset, .unset, .unset, .unset, .unset, .unset, .unset, .unset, .unset, .unset, .unset, .unset, .unset, .unset, .unset, .unset] [(.int (u5 &&& (1 : Int32)))]))
  by_cases c199 : (u5 &&& (1 : Int32)) = (0 : Int32)
  · refine go _ _ (fun t' k' => XS.ifYes X195h.here hx rfl (pc0 := 25) (pc' := 32) rfl (hb hby at_25) rfl (Free.XT.i0_eq_t c199) (by decide) (by decide) k') ?_
    show G (T195.setTop (mkF m 32 #[.val (.int u0), .val (.long q1), .second, .val (.long q2), .second, .val (.long q3), .second, .val (.long q4), .second, .val (.int u5), .val (.ref a194), .val (.ref a195), .unset, .unset, .unset, .unset, .unset, .unset, .unset, .unset, .unset, .unset, .unset, .unset, .unset, .unset, .unset, .unset, .unset, .unset, .unset, .unset, .unset, .unset] []))
    refine go _ _ (fun t' k' => XS.iconst X195h.here hx rfl (hb hby at_32) k') ?_
    show G (T195.setTop (mkF m 33 #[.val (.int u0), .val (.long q1), .second, .val (.long q2), .second, .val (.long q3), .second, .val (.long q4), .second, .val (.int u5), .val (.ref a194), .val (.ref a195), .unset, .unset, .unset, .unset, .unset, .unset, .unset, .unset, .unset, .unset, .unset, .unset, .unset, .unset, .unset, .unset, .unset, .unset, .unset, .unset, .unset, .unset] [(.int (0 : Int32))]))
    refine go _ _ (fun t' k' => XS.istore X195h.here hx rfl (hb hby at_33) rfl (l' := #[.val (.int u0), .val (.long q1), .second, .val (.long q2), .second, .val (.long q3), .second, .val (.long q4), .second, .val (.int u5), .val (.ref a194), .val (.ref a195), .val (.int (0 : Int32)), .unset, .unset, .unset, .unset, .unset, .unset, .unset, .unset, .unset, .unset, .unset, .unset, .unset, .unset, .unset, .unset, .unset, .unset, .unset, .unset, .unset]) rfl k') ?_
    show G (T195.setTop (mkF m 35 #[.val (.int u0), .val (.long q1), .second, .val (.long q2), .second, .val (.long q3), .second, .val (.long q4), .second, .val (.int u5), .val (.ref a194), .val (.ref a195), .val (.int (0 : Int32)), .unset, .unset, .unset, .unset, .unset, .unset, .unset, .unset, .unset, .unset, .unset, .unset, .unset, .unset, .unset, .unset, .unset, .unset, .unset, .unset, .unset] []))
    refine go _ _ (fun t' k' => XS.iload X195h.here hx rfl (hb hby at_35) rfl  k') ?_
    show G (T195.setTop (mkF m 37 #[.val (.int u0), .val (.long q1), .second, .val (.long q2), .second, .val (.long q3), .second, .val (.long q4), .second, .val (.int u5), .val (.ref a194), .val (.ref a195), .val (.int (0 : Int32)), .unset, .unset, .unset, .unset, .unset, .unset, .unset, .unset, .unset, .unset, .unset, .unset, .unset, .unset, .unset, .unset, .unset, .unset, .unset, .unset, .unset] [(.int u5)]))
    refine go _ _ (fun t' k' => XS.iconst X195h.here hx rfl (hb hby at_37) k') ?_
    show G (T195.setTop (mkF m 38 #[.val (.int u0), .val (.long q1), .second, .val (.long q2), .second, .val (.long q3), .second, .val (.long q4), .second, .val (.int u5), .val (.ref a194), .val (.ref a195), .val (.int (0 : Int32)), .unset, .unset, .unset, .unset, .unset, .unset, .unset, .unset, .unset, .unset, .unset, .unset, .unset, .unset, .unset, .unset, .unset, .unset, .unset, .unset, .unset] [(.int (2 : Int32)), (.int u5)]))
    refine go _ _ (fun t' k' => XS.iand X195h.here hx rfl (hb hby at_38) rfl k') ?_
    show G (T195.setTop (mkF m 39 #[.val (.int u0), .val (.long q1), .second, .val (.long q2), .second, .val (.long q3), .second, .val (.long q4), .second, .val (.int u5), .val (.ref a194), .val (.ref a195), .val (.int (0 : Int32)), .unset, .unset, .unset, .unset, .unset, .unset, .unset, .unset, .unset, .unset, .unset, .unset, .unset, .unset, .unset, .unset, .unset, .unset, .unset, .unset, .unset] [(.int (u5 &&& (2 : Int32)))]))
    have J47 : ∀ (T : State) (locs : List Loc), Stand p l e room_1 s m #[(.int u0), (.long q1), (.long q2), (.long q3), (.long q4), (.int u5)] below meth c T locs 2 5 → T.heap = T195.heap → Fr n0 locs → ∀ (p13 : Int32), G (T.setTop (mkF m 47 #[.val (.int u0), .val (.long q1), .second, .val (.long q2), .second, .val (.long q3), .second, .val (.long q4), .second, .val (.int u5), .val (.ref a194), .val (.ref a195), .val (.int (0 : Int32)), .unset, .unset, .unset, .unset, .unset, .unset, .unset, .unset, .unset, .unset, .unset, .unset, .unset, .unset, .unset, .unset, .unset, .unset, .unset, .unset, .unset] [(.int p13)])) := by
      intro T200 locs200 X200 e200 N200j p13 
      show G (T200.setTop (mkF m 47 #[.val (.int u0), .val (.long q1), .second, .val (.long q2), .second, .val (.long q3), .second, .val (.long q4), .second, .val (.int u5), .val (.ref a194), .val (.ref a195), .val (.int (0 : Int32)), .unset, .unset, .unset, .unset, .unset, .unset, .unset, .unset, .unset, .unset, .unset, .unset, .unset, .unset, .unset, .unset, .unset, .unset, .unset, .unset, .unset] [(.int p13)]))
      refine go _ _ (fun t' k' => XS.istore X200.here hx rfl (hb hby at_47) rfl (l' := #[.val (.int u0), .val (.long q1), .second, .val (.long q2), .second, .val (.long q3), .second, .val (.long q4), .second, .val (.int u5), .val (.ref a194), .val (.ref a195), .val (.int (0 : Int32)), .val (.int p13), .unset, .unset, .unset, .unset, .unset, .unset, .unset, .unset, .unset, .unset, .unset, .unset, .unset, .unset, .unset, .unset, .unset, .unset, .unset, .unset]) rfl k') ?_
      show G (T200.setTop (mkF m 49 #[.val (.int u0), .val (.long q1), .second, .val (.long q2), .second, .val (.long q3), .second, .val (.long q4), .second, .val (.int u5), .val (.ref a194), .val (.ref a195), .val (.int (0 : Int32)), .val (.int p13), .unset, .unset, .unset, .unset, .unset, .unset, .unset, .unset, .unset, .unset, .unset, .unset, .unset, .unset, .unset, .unset, .unset, .unset, .unset, .unset] []))
      refine go _ _ (fun t' k' => XS.lloadN X200.here hx rfl (hb hby at_49) rfl  k') ?_
      show G (T200.setTop (mkF m 50 #[.val (.int u0), .val (.long q1), .second, .val (.long q2), .second, .val (.long q3), .second, .val (.long q4), .second, .val (.int u5), .val (.ref a194), .val (.ref a195), .val (.int (0 : Int32)), .val (.int p13), .unset, .unset, .unset, .unset, .unset, .unset, .unset, .unset, .unset, .unset, .unset, .unset, .unset, .unset, .unset, .unset, .unset, .unset, .unset, .unset] [(.long q2)]))
      refine go _ _ (fun t' k' => XS.lload X200.here hx rfl (hb hby at_50) rfl  k') ?_
      show G (T200.setTop (mkF m 52 #[.val (.int u0), .val (.long q1), .second, .val (.long q2), .second, .val (.long q3), .second, .val (.long q4), .second, .val (.int u5), .val (.ref a194), .val (.ref a195), .val (.int (0 : Int32)), .val (.int p13), .unset, .unset, .unset, .unset, .unset, .unset, .unset, .unset, .unset, .unset, .unset, .unset, .unset, .unset, .unset, .unset, .unset, .unset, .unset, .unset] [(.long q4), (.long q2)]))
      refine go _ _ (fun t' k' => XS.lxor X200.here hx rfl (hb hby at_52) rfl k') ?_
      show G (T200.setTop (mkF m 53 #[.val (.int u0), .val (.long q1), .second, .val (.long q2), .second, .val (.long q3), .second, .val (.long q4), .second, .val (.int u5), .val (.ref a194), .val (.ref a195), .val (.int (0 : Int32)), .val (.int p13), .unset, .unset, .unset, .unset, .unset, .unset, .unset, .unset, .unset, .unset, .unset, .unset, .unset, .unset, .unset, .unset, .unset, .unset, .unset, .unset] [(.long (q2 ^^^ q4))]))
      refine go _ _ (fun t' k' => XS.lstore X200.here hx rfl (hb hby at_53) rfl (l' := #[.val (.int u0), .val (.long q1), .second, .val (.long q2), .second, .val (.long q3), .second, .val (.long q4), .second, .val (.int u5), .val (.ref a194), .val (.ref a195), .val (.int (0 : Int32)), .val (.int p13), .val (.long (q2 ^^^ q4)), .second, .unset, .unset, .unset, .unset, .unset, .unset, .unset, .unset, .unset, .unset, .unset, .unset, .unset, .unset, .unset, .unset, .unset, .unset]) rfl k') ?_
      show G (T200.setTop (mkF m 55 #[.val (.int u0), .val (.long q1), .second, .val (.long q2), .second, .val (.long q3), .second, .val (.long q4), .second, .val (.int u5), .val (.ref a194), .val (.ref a195), .val (.int (0 : Int32)), .val (.int p13), .val (.long (q2 ^^^ q4)), .second, .unset, .unset, .unset, .unset, .unset, .unset, .unset, .unset, .unset, .unset, .unset, .unset, .unset, .unset, .unset, .unset, .unset, .unset] []))
      refine go _ _ (fun t' k' => XS.iload X200.here hx rfl (hb hby at_55) rfl  k') ?_
      show G (T200.setTop (mkF m 57 #[.val (.int u0), .val (.long q1), .second, .val (.long q2), .second, .val (.long q3), .second, .val (.long q4), .second, .val (.int u5), .val (.ref a194), .val (.ref a195), .val (.int (0 : Int32)), .val (.int p13), .val (.long (q2 ^^^ q4)), .second, .unset, .unset, .unset, .unset, .unset, .unset, .unset, .unset, .unset, .unset, .unset, .unset, .unset, .unset, .unset, .unset, .unset, .unset] [(.int (0 : Int32))]))
      refine go _ _ (fun t' k' => XS.ifNo X200.here hx rfl (hb hby at_57) rfl (Free.XT.i0_ne_f (by decide)) k') ?_
      show G (T200.setTop (mkF m 60 #[.val (.int u0), .val (.long q1), .second, .val (.long q2), .second, .val (.long q3), .second, .val (.long q4), .second, .val (.int u5), .val (.ref a194), .val (.ref a195), .val (.int (0 : Int32)), .val (.int p13), .val (.long (q2 ^^^ q4)), .second, .unset, .unset, .unset, .unset, .unset, .unset, .unset, .unset, .unset, .unset, .unset, .unset, .unset, .unset, .unset, .unset, .unset, .unset] []))
      obtain ⟨T201, h201, X201, e201, E201, A201, D201, -, st201⟩ := newO X200 hx hZ hown (hw _ (List.mem_of_getElem? (i := 34) rfl)) (hw _ (List.mem_of_getElem? (i := 35) rfl)) (hw _ (List.mem_of_getElem? (i := 36) rfl)) e200 (g := (mkF m 60 #[.val (.int u0), .val (.long q1), .second, .val (.long q2), .second, .val (.long q3), .second, .val (.long q4), .second, .val (.int u5), .val (.ref a194), .val (.ref a195), .val (.int (0 : Int32)), .val (.int p13), .val (.long (q2 ^^^ q4)), .second, .unset, .unset, .unset, .unset, .unset, .unset, .unset, .unset, .unset, .unset, .unset, .unset, .unset, .unset, .unset, .unset, .unset, .unset] [])) rfl (hb hby at_60) (by decide) (by decide)
      obtain ⟨b201, g201⟩ : ∃ z, z = T195.heap.size := ⟨_, rfl⟩
      rw [← g201] at A201 D201 st201
      have g_b201 : n0 ≤ b201 := Nat.le_trans Z198 (Nat.le_of_eq g201.symm)
      have sz_b201 : h0.size ≤ b201 := Nat.le_trans K197.1 (Nat.le_of_eq g201.symm)
      have Z202 : n0 ≤ h201.size := Nat.le_trans Z198 E201.1
      have K203 : Keep h0 h201 [] := K197.ext E201
      have F204 : Fld Z h201 b201 "com/example/lotwise/lotwise/plan/Pegging$Run" "kind" "Lcom/example/lotwise/lotwise/plan/Pegging$Kind;" .null := D201 (Or.inr (hw _ (List.mem_of_getElem? (i := 47) rfl))) (ty := (.object "com/example/lotwise/lotwise/plan/Pegging$Kind")) (by decide)
      have F205 : Fld Z h201 b201 "com/example/lotwise/lotwise/plan/Pegging$Run" "day" "J" (.long (0 : Int64)) := D201 (Or.inr (hw _ (List.mem_of_getElem? (i := 49) rfl))) (ty := .long) (by decide)
      have F206 : Fld Z h201 b201 "com/example/lotwise/lotwise/plan/Pegging$Run" "text" "Ljava/lang/String;" .null := D201 (Or.inr (hw _ (List.mem_of_getElem? (i := 51) rfl))) (ty := (.object "java/lang/String")) (by decide)
      have F207 : Fld Z h201 b201 "com/example/lotwise/lotwise/plan/Pegging$Run" "numbered" "Z" (.int (0 : Int32)) := D201 (Or.inr (hw _ (List.mem_of_getElem? (i := 53) rfl))) (ty := .boolean) (by decide)
      have F208 : Fld Z h201 b201 "com/example/lotwise/lotwise/plan/Pegging$Run" "first" "J" (.long (0 : Int64)) := D201 (Or.inr (hw _ (List.mem_of_getElem? (i := 55) rfl))) (ty := .long) (by decide)
      have F209 : Fld Z h201 b201 "com/example/lotwise/lotwise/plan/Pegging$Run" "last" "J" (.long (0 : Int64)) := D201 (Or.inr (hw _ (List.mem_of_getElem? (i := 57) rfl))) (ty := .long) (by decide)
      have F210 : Fld Z h201 b201 "com/example/lotwise/lotwise/plan/Pegging$Run" "qty" "J" (.long (0 : Int64)) := D201 (Or.inr (hw _ (List.mem_of_getElem? (i := 59) rfl))) (ty := .long) (by decide)
      have F211 : Fld Z h201 b201 "com/example/lotwise/lotwise/plan/Pegging$Run" "parentOrders" "Z" (.int (0 : Int32)) := D201 (Or.inr (hw _ (List.mem_of_getElem? (i := 61) rfl))) (ty := .boolean) (by decide)
      refine go _ _ st201 ?_
      show G (T201.setTop (mkF m 63 #[.val (.int u0), .val (.long q1), .second, .val (.long q2), .second, .val (.long q3), .second, .val (.long q4), .second, .val (.int u5), .val (.ref a194), .val (.ref a195), .val (.int (0 : Int32)), .val (.int p13), .val (.long (q2 ^^^ q4)), .second, .unset, .unset, .unset, .unset, .unset, .unset, .unset, .unset, .unset, .unset, .unset, .unset, .unset, .unset, .unset, .unset, .unset, .unset] [(.ref b201)]))
      refine go _ _ (fun t' k' => XS.dup X201.here hx rfl (hb hby at_63) rfl rfl k') ?_
      show G (T201.setTop (mkF m 64 #[.val (.int u0), .val (.long q1), .second, .val (.long q2), .second, .val (.long q3), .second, .val (.long q4), .second, .val (.int u5), .val (.ref a194), .val (.ref a195), .val (.int (0 : Int32)), .val (.int p13), .val (.long (q2 ^^^ q4)), .second, .unset, .unset, .unset, .unset, .unset, .unset, .unset, .unset, .unset, .unset, .unset, .unset, .unset, .unset, .unset, .unset, .unset, .unset] [(.ref b201), (.ref b201)]))
      refine go _ _ (fun t' k' => XS.aload X201.here hx rfl (hb hby at_64) rfl rfl  k') ?_
      show G (T201.setTop (mkF m 66 #[.val (.int u0), .val (.long q1), .second, .val (.long q2), .second, .val (.long q3), .second, .val (.long q4), .second, .val (.int u5), .val (.ref a194), .val (.ref a195), .val (.int (0 : Int32)), .val (.int p13), .val (.long (q2 ^^^ q4)), .second, .unset, .unset, .unset, .unset, .unset, .unset, .unset, .unset, .unset, .unset, .unset, .unset, .unset, .unset, .unset, .unset, .unset, .unset] [(.ref a194), (.ref b201), (.ref b201)]))
      refine go _ _ (fun t' k' => XS.lloadN X201.here hx rfl (hb hby at_66) rfl  k') ?_
      show G (T201.setTop (mkF m 67 #[.val (.int u0), .val (.long q1), .second, .val (.long q2), .second, .val (.long q3), .second, .val (.long q4), .second, .val (.int u5), .val (.ref a194), .val (.ref a195), .val (.int (0 : Int32)), .val (.int p13), .val (.long (q2 ^^^ q4)), .second, .unset, .unset, .unset, .unset, .unset, .unset, .unset, .unset, .unset, .unset, .unset, .unset, .unset, .unset, .unset, .unset, .unset, .unset] [(.long q1), (.ref a194), (.ref b201), (.ref b201)]))
      refine go _ _ (fun t' k' => XS.aload X201.here hx rfl (hb hby at_67) rfl rfl  k') ?_
      show G (T201.setTop (mkF m 69 #[.val (.int u0), .val (.long q1), .second, .val (.long q2), .second, .val (.long q3), .second, .val (.long q4), .second, .val (.int u5), .val (.ref a194), .val (.ref a195), .val (.int (0 : Int32)), .val (.int p13), .val (.long (q2 ^^^ q4)), .second, .unset, .unset, .unset, .unset, .unset, .unset, .unset, .unset, .unset, .unset, .unset, .unset, .unset, .unset, .unset, .unset, .unset, .unset] [(.ref a195), (.long q1), (.ref a194), (.ref b201), (.ref b201)]))
      refine go _ _ (fun t' k' => XS.iconst X201.here hx rfl (hb hby at_69) k') ?_
      show G (T201.setTop (mkF m 70 #[.val (.int u0), .val (.long q1), .second, .val (.long q2), .second, .val (.long q3), .second, .val (.long q4), .second, .val (.int u5), .val (.ref a194), .val (.ref a195), .val (.int (0 : Int32)), .val (.int p13), .val (.long (q2 ^^^ q4)), .second, .unset, .unset, .unset, .unset, .unset, .unset, .unset, .unset, .unset, .unset, .unset, .unset, .unset, .unset, .unset, .unset, .unset, .unset] [(.int (0 : Int32)), (.ref a195), (.long q1), (.ref a194), (.ref b201), (.ref b201)]))
      refine go _ _ (fun t' k' => XS.lloadN X201.here hx rfl (hb hby at_70) rfl  k') ?_
      show G (T201.setTop (mkF m 71 #[.val (.int u0), .val (.long q1), .second, .val (.long q2), .second, .val (.long q3), .second, .val (.long q4), .second, .val (.int u5), .val (.ref a194), .val (.ref a195), .val (.int (0 : Int32)), .val (.int p13), .val (.long (q2 ^^^ q4)), .second, .unset, .unset, .unset, .unset, .unset, .unset, .unset, .unset, .unset, .unset, .unset, .unset, .unset, .unset, .unset, .unset, .unset, .unset] [(.long q2), (.int (0 : Int32)), (.ref a195), (.long q1), (.ref a194), (.ref b201), (.ref b201)]))
      refine go _ _ (fun t' k' => XS.lload X201.here hx rfl (hb hby at_71) rfl  k') ?_
      show G (T201.setTop (mkF m 73 #[.val (.int u0), .val (.long q1), .second, .val (.long q2), .second, .val (.long q3), .second, .val (.long q4), .second, .val (.int u5), .val (.ref a194), .val (.ref a195), .val (.int (0 : Int32)), .val (.int p13), .val (.long (q2 ^^^ q4)), .second, .unset, .unset, .unset, .unset, .unset, .unset, .unset, .unset, .unset, .unset, .unset, .unset, .unset, .unset, .unset, .unset, .unset, .unset] [(.long q4), (.long q2), (.int (0 : Int32)), (.ref a195), (.long q1), (.ref a194), (.ref b201), (.ref b201)]))
      refine go _ _ (fun t' k' => XS.lload X201.here hx rfl (hb hby at_73) rfl  k') ?_
      show G (T201.setTop (mkF m 75 #[.val (.int u0), .val (.long q1), .second, .val (.long q2), .second, .val (.long q3), .second, .val (.long q4), .second, .val (.int u5), .val (.ref a194), .val (.ref a195), .val (.int (0 : Int32)), .val (.int p13), .val (.long (q2 ^^^ q4)), .second, .unset, .unset, .unset, .unset, .unset, .unset, .unset, .unset, .unset, .unset, .unset, .unset, .unset, .unset, .unset, .unset, .unset, .unset] [(.long (q2 ^^^ q4)), (.long q4), (.long q2), (.int (0 : Int32)), (.ref a195), (.long q1), (.ref a194), (.ref b201), (.ref b201)]))
      refine go _ _ (fun t' k' => XS.iload X201.here hx rfl (hb hby at_75) rfl  k') ?_
      show G (T201.setTop (mkF m 77 #[.val (.int u0), .val (.long q1), .second, .val (.long q2), .second, .val (.long q3), .second, .val (.long q4), .second, .val (.int u5), .val (.ref a194), .val (.ref a195), .val (.int (0 : Int32)), .val (.int p13), .val (.long (q2 ^^^ q4)), .second, .unset, .unset, .unset, .unset, .unset, .unset, .unset, .unset, .unset, .unset, .unset, .unset, .unset, .unset, .unset, .unset, .unset, .unset] [(.int p13), (.long (q2 ^^^ q4)), (.long q4), (.long q2), (.int (0 : Int32)), (.ref a195), (.long q1), (.ref a194), (.ref b201), (.ref b201)]))
      refine own_init go X201 hx hZ e201 rfl hown (hw _ (List.mem_of_getElem? (i := 37) rfl)) (hw _ (List.mem_of_getElem? (i := 38) rfl)) (hw _ (List.mem_of_getElem? (i := 36) rfl)) (hw _ (List.mem_of_getElem? (i := 39) rfl)) (by decide) (rm7 l Z a0 hw b201 a194 q1 a195 (0 : Int32) q2 q4 (q2 ^^^ q4) p13 h201 n0 Z202 g_b201 A201 F204 F205 F206 F207 F208 F209 F210 F211) 1 (by decide) (by decide) (by decide) (by decide) (g := (mkF m 77 #[.val (.int u0), .val (.long q1), .second, .val (.long q2), .second, .val (.long q3), .second, .val (.long q4), .second, .val (.int u5), .val (.ref a194), .val (.ref a195), .val (.int (0 : Int32)), .val (.int p13), .val (.long (q2 ^^^ q4)), .second, .unset, .unset, .unset, .unset, .unset, .unset, .unset, .unset, .unset, .unset, .unset, .unset, .unset, .unset, .unset, .unset, .unset, .unset] [(.int p13), (.long (q2 ^^^ q4)), (.long q4), (.long q2), (.int (0 : Int32)), (.ref a195), (.long q1), (.ref a194), (.ref b201), (.ref b201)])) rfl (by rw [hml]; rfl) b201 [(.ref a194), (.long q1), (.ref a195), (.int (0 : Int32)), (.long q2), (.long q4), (.long (q2 ^^^ q4)), (.int p13)] [(.ref b201)] rfl (lenOf pd_6 rfl) rfl (by show 2 * 0 + _ ≤ _; exact Nat.le_of_eq rfl) (hb hby at_77) ?_
      intro T212 L212 v212 X212 q212
      obtain ⟨rfl, N212, K212, Fa212, Fb212, Fc212⟩ := q212
      have ns213 : ∀ w ∈ [b201], ∃ c : Cell, h201[w]? = some c ∧ c.vm.isStatics = false := (allS (own_exa_ns A201) all0)
      obtain ⟨lc212, X212h, N212h⟩ := own_hide X212 (Fr.app N200j N212)
      have K214 : Keep h0 T212.heap [] := K203.trans K212 (allS (Or.inr sz_b201) all0)
      have Z215 : n0 ≤ T212.heap.size := Nat.le_trans Z202 K212.1
      show G (T212.setTop (mkF m 80 #[.val (.int u0), .val (.long q1), .second, .val (.long q2), .second, .val (.long q3), .second, .val (.long q4), .second, .val (.int u5), .val (.ref a194), .val (.ref a195), .val (.int (0 : Int32)), .val (.int p13), .val (.long (q2 ^^^ q4)), .second, .unset, .unset, .unset, .unset, .unset, .unset, .unset, .unset, .unset, .unset, .unset, .unset, .unset, .unset, .unset, .unset, .unset, .unset] [(.ref b201)]))
      refine go _ _ (fun t' k' => XS.astore X212h.here hx rfl (hb hby at_80) rfl rfl (l' := #[.val (.int u0), .val (.long q1), .second, .val (.long q2), .second, .val (.long q3), .second, .val (.long q4), .second, .val (.int u5), .val (.ref a194), .val (.ref a195), .val (.int (0 : Int32)), .val (.int p13), .val (.long (q2 ^^^ q4)), .second, .val (.ref b201), .unset, .unset, .unset, .unset, .unset, .unset, .unset, .unset, .unset, .unset, .unset, .unset, .unset, .unset, .unset, .unset, .unset]) rfl k') ?_
      show G (T212.setTop (mkF m 82 #[.val (.int u0), .val (.long q1), .second, .val (.long q2), .second, .val (.long q3), .second, .val (.long q4), .second, .val (.int u5), .val (.ref a194), .val (.ref a195), .val (.int (0 : Int32)), .val (.int p13), .val (.long (q2 ^^^ q4)), .second, .val (.ref b201), .unset, .unset, .unset, .unset, .unset, .unset, .unset, .unset, .unset, .unset, .unset, .unset, .unset, .unset, .unset, .unset, .unset] []))
      refine go _ _ (fun t' k' => XS.aload X212h.here hx rfl (hb hby at_82) rfl rfl  k') ?_
      show G (T212.setTop (mkF m 84 #[.val (.int u0), .val (.long q1), .second, .val (.long q2), .second, .val (.long q3), .second, .val (.long q4), .second, .val (.int u5), .val (.ref a194), .val (.ref a195), .val (.int (0 : Int32)), .val (.int p13), .val (.long (q2 ^^^ q4)), .second, .val (.ref b201), .unset, .unset, .unset, .unset, .unset, .unset, .unset, .unset, .unset, .unset, .unset, .unset, .unset, .unset, .unset, .unset, .unset] [(.ref b201)]))
      have f217 := (A201.keep K212)
      refine own_virtual go X212h hx hZ rfl hown (hw _ (List.mem_of_getElem? (i := 62) rfl)) (hw _ (List.mem_of_getElem? (i := 63) rfl)) (notFace_of_selects (args := #[]) (mvT hZ (hw _ (List.mem_of_getElem? (i := 65) rfl)))) (hw _ (List.mem_of_getElem? (i := 65) rfl)) (hw _ (List.mem_of_getElem? (i := 64) rfl)) (hw _ (List.mem_of_getElem? (i := 36) rfl)) (hw _ (List.mem_of_getElem? (i := 66) rfl)) (by decide) (rm8 l Z a0 hw b201 (0 : Int32) q2 q4 T212.heap n0 Z215 Fa212 Fb212 Fc212) 0 (by decide) (by decide) (by decide) (by decide) f217 (g := (mkF m 84 #[.val (.int u0), .val (.long q1), .second, .val (.long q2), .second, .val (.long q3), .second, .val (.long q4), .second, .val (.int u5), .val (.ref a194), .val (.ref a195), .val (.int (0 : Int32)), .val (.int p13), .val (.long (q2 ^^^ q4)), .second, .val (.ref b201), .unset, .unset, .unset, .unset, .unset, .unset, .unset, .unset, .unset, .unset, .unset, .unset, .unset, .unset, .unset, .unset, .unset] [(.ref b201)])) rfl (by rw [hml]; rfl) [] [] rfl (lenOf pd_7 rfl) rfl (by show 2 * 0 + _ ≤ _; exact Nat.le_of_eq rfl) (hb hby at_84) ?_
      intro T216 L216 v216 X216 q216
      obtain ⟨rfl, N216, hh216⟩ := q216
      obtain ⟨lc216, X216h, N216h⟩ := own_hide X216 (Fr.app N212h N216)
      show G (T216.setTop (mkF m 87 #[.val (.int u0), .val (.long q1), .second, .val (.long q2), .second, .val (.long q3), .second, .val (.long q4), .second, .val (.int u5), .val (.ref a194), .val (.ref a195), .val (.int (0 : Int32)), .val (.int p13), .val (.long (q2 ^^^ q4)), .second, .val (.ref b201), .unset, .unset, .unset, .unset, .unset, .unset, .unset, .unset, .unset, .unset, .unset, .unset, .unset, .unset, .unset, .unset, .unset] [(.long (1 : Int64))]))
      refine go _ _ (fun t' k' => XS.lconst X216h.here hx rfl (hb hby at_87) k') ?_
      show G (T216.setTop (mkF m 88 #[.val (.int u0), .val (.long q1), .second, .val (.long q2), .second, .val (.long q3), .second, .val (.long q4), .second, .val (.int u5), .val (.ref a194), .val (.ref a195), .val (.int (0 : Int32)), .val (.int p13), .val (.long (q2 ^^^ q4)), .second, .val (.ref b201), .unset, .unset, .unset, .unset, .unset, .unset, .unset, .unset, .unset, .unset, .unset, .unset, .unset, .unset, .unset, .unset, .unset] [(.long (1 : Int64)), (.long (1 : Int64))]))
      refine go _ _ (fun t' k' => Free.XT.lcmp X216h.here hx rfl (hb hby at_88) rfl k') ?_
      show G (T216.setTop (mkF m 89 #[.val (.int u0), .val (.long q1), .second, .val (.long q2), .second, .val (.long q3), .second, .val (.long q4), .second, .val (.int u5), .val (.ref a194), .val (.ref a195), .val (.int (0 : Int32)), .val (.int p13), .val (.long (q2 ^^^ q4)), .second, .val (.ref b201), .unset, .unset, .unset, .unset, .unset, .unset, .unset, .unset, .unset, .unset, .unset, .unset, .unset, .unset, .unset, .unset, .unset] [(.int (Free.XT.cmpL (1 : Int64) (1 : Int64)))]))
      refine go _ _ (fun t' k' => XS.ifNo X216h.here hx rfl (hb hby at_89) rfl (Free.XT.ll_ne_f rfl) k') ?_
      show G (T216.setTop (mkF m 92 #[.val (.int u0), .val (.long q1), .second, .val (.long q2), .second, .val (.long q3), .second, .val (.long q4), .second, .val (.int u5), .val (.ref a194), .val (.ref a195), .val (.int (0 : Int32)), .val (.int p13), .val (.long (q2 ^^^ q4)), .second, .val (.ref b201), .unset, .unset, .unset, .unset, .unset, .unset, .unset, .unset, .unset, .unset, .unset, .unset, .unset, .unset, .unset, .unset, .unset] []))
      refine go _ _ (fun t' k' => XS.iconst X216h.here hx rfl (hb hby at_92) k') ?_
      show G (T216.setTop (mkF m 93 #[.val (.int u0), .val (.long q1), .second, .val (.long q2), .second, .val (.long q3), .second, .val (.long q4), .second, .val (.int u5), .val (.ref a194), .val (.ref a195), .val (.int (0 : Int32)), .val (.int p13), .val (.long (q2 ^^^ q4)), .second, .val (.ref b201), .unset, .unset, .unset, .unset, .unset, .unset, .unset, .unset, .unset, .unset, .unset, .unset, .unset, .unset, .unset, .unset, .unset] [(.int (1 : Int32))]))
      refine go _ _ (fun t' k' => XS.goto X216h.here hx rfl (pc0 := 93) (pc' := 97) rfl (hb hby at_93) (by decide) (by decide) k') ?_
      show G (T216.setTop (mkF m 97 #[.val (.int u0), .val (.long q1), .second, .val (.long q2), .second, .val (.long q3), .second, .val (.long q4), .second, .val (.int u5), .val (.ref a194), .val (.ref a195), .val (.int (0 : Int32)), .val (.int p13), .val (.long (q2 ^^^ q4)), .second, .val (.ref b201), .unset, .unset, .unset, .unset, .unset, .unset, .unset, .unset, .unset, .unset, .unset, .unset, .unset, .unset, .unset, .unset, .unset] [(.int (1 : Int32))]))
      refine own_retZ rt X216h hx (t := .boolean) hret (by simp) (hb hby at_97) (by decide) (by decide) ?_
      exact ⟨rfl, N216h⟩
    by_cases c218 : (u5 &&& (2 : Int32)) = (0 : Int32)
    · refine go _ _ (fun t' k' => XS.ifYes X195h.here hx rfl (pc0 := 39) (pc' := 46) rfl (hb hby at_39) rfl (Free.XT.i0_eq_t c218) (by decide) (by decide) k') ?_
      show G (T195.setTop (mkF m 46 #[.val (.int u0), .val (.long q1), .second, .val (.long q2), .second, .val (.long q3), .second, .val (.long q4), .second, .val (.int u5), .val (.ref a194), .val (.ref a195), .val (.int (0 : Int32)), .unset, .unset, .unset, .unset, .unset, .unset, .unset, .unset, .unset, .unset, .unset, .unset, .unset, .unset, .unset, .unset, .unset, .unset, .unset, .unset, .unset] []))
      refine go _ _ (fun t' k' => XS.iconst X195h.here hx rfl (hb hby at_46) k') ?_
      show G (T195.setTop (mkF m 47 #[.val (.int u0), .val (.long q1), .second, .val (.long q2), .second, .val (.long q3), .second, .val (.long q4), .second, .val (.int u5), .val (.ref a194), .val (.ref a195), .val (.int (0 : Int32)), .unset, .unset, .unset, .unset, .unset, .unset, .unset, .unset, .unset, .unset, .unset, .unset, .unset, .unset, .unset, .unset, .unset, .unset, .unset, .unset, .unset] [(.int (0 : Int32))]))
      exact J47 T195 _ X195h rfl N195h _ 
    · refine go _ _ (fun t' k' => XS.ifNo X195h.here hx rfl (hb hby at_39) rfl (Free.XT.i0_eq_f c218) k') ?_
      show G (T195.setTop (mkF m 42 #[.val (.int u0), .val (.long q1), .second, .val (.long q2), .second, .val (.long q3), .second, .val (.long q4), .second, .val (.int u5), .val (.ref a194), .val (.ref a195), .val (.int (0 : Int32)), .unset, .unset, .unset, .unset, .unset, .unset, .unset, .unset, .unset, .unset, .unset, .unset, .unset, .unset, .unset, .unset, .unset, .unset, .unset, .unset, .unset] []))
      refine go _ _ (fun t' k' => XS.iconst X195h.here hx rfl (hb hby at_42) k') ?_
      show G (T195.setTop (mkF m 43 #[.val (.int u0), .val (.long q1), .second, .val (.long q2), .second, .val (.long q3), .second, .val (.long q4), .second, .val (.int u5), .val (.ref a194), .val (.ref a195), .val (.int (0 : Int32)), .unset, .unset, .unset, .unset, .unset, .unset, .unset, .unset, .unset, .unset, .unset, .unset, .unset, .unset, .unset, .unset, .unset, .unset, .unset, .unset, .unset] [(.int (1 : Int32))]))
      refine go _ _ (fun t' k' => XS.goto X195h.here hx rfl (pc0 := 43) (pc' := 47) rfl (hb hby at_43) (by decide) (by decide) k') ?_
      show G (T195.setTop (mkF m 47 #[.val (.int u0), .val (.long q1), .second, .val (.long q2), .second, .val (.long q3), .second, .val (.long q4), .second, .val (.int u5), .val (.ref a194), .val (.ref a195), .val (.int (0 : Int32)), .unset, .unset, .unset, .unset, .unset, .unset, .unset, .unset, .unset, .unset, .unset, .unset, .unset, .unset, .unset, .unset, .unset, .unset, .unset, .unset, .unset] [(.int (1 : Int32))]))
      exact J47 T195 _ X195h rfl N195h _ 
  · refine go _ _ (fun t' k' => XS.ifNo X195h.here hx rfl (hb hby at_25) rfl (Free.XT.i0_eq_f c199) k') ?_
    show G (T195.setTop (mkF m 28 #[.val (.int u0), .val (.long q1), .second, .val (.long q2), .second, .val (.long q3), .second, .val (.long q4), .second, .val (.int u5), .val (.ref a194), .val (.ref a195), .unset, .unset, .unset, .unset, .unset, .unset, .unset, .unset, .unset, .unset, .unset, .unset, .unset, .unset, .unset, .unset, .unset, .unset, .unset, .unset, .unset, .unset] []))
    refine go _ _ (fun t' k' => XS.iconst X195h.here hx rfl (hb hby at_28) k') ?_
    show G (T195.setTop (mkF m 29 #[.val (.int u0), .val (.long q1), .second, .val (.long q2), .second, .val (.long q3), .second, .val (.long q4), .second, .val (.int u5), .val (.ref a194), .val (.ref a195), .unset, .unset, .unset, .unset, .unset, .unset, .unset, .unset, .unset, .unset, .unset, .unset, .unset, .unset, .unset, .unset, .unset, .unset, .unset, .unset, .unset, .unset] [(.int (1 : Int32))]))
    refine go _ _ (fun t' k' => XS.goto X195h.here hx rfl (pc0 := 29) (pc' := 33) rfl (hb hby at_29) (by decide) (by decide) k') ?_
    show G (T195.setTop (mkF m 33 #[.val (.int u0), .val (.long q1), .second, .val (.long q2), .second, .val (.long q3), .second, .val (.long q4), .second, .val (.int u5), .val (.ref a194), .val (.ref a195), .unset, .unset, .unset, .unset, .unset, .unset, .unset, .unset, .unset, .unset, .unset, .unset, .unset, .unset, .unset, .unset, .unset, .unset, .unset, .unset, .unset, .unset] [(.int (1 : Int32))]))
    refine go _ _ (fun t' k' => XS.istore X195h.here hx rfl (hb hby at_33) rfl (l' := #[.val (.int u0), .val (.long q1), .second, .val (.long q2), .second, .val (.long q3), .second, .val (.long q4), .second, .val (.int u5), .val (.ref a194), .val (.ref a195), .val (.int (1 : Int32)), .unset, .unset, .unset, .unset, .unset, .unset, .unset, .unset, .unset, .unset, .unset, .unset, .unset, .unset, .unset, .unset, .unset, .unset, .unset, .unset, .unset]) rfl k') ?_
    show G (T195.setTop (mkF m 35 #[.val (.int u0), .val (.long q1), .second, .val (.long q2), .second, .val (.long q3), .second, .val (.long q4), .second, .val (.int u5), .val (.ref a194), .val (.ref a195), .val (.int (1 : Int32)), .unset, .unset, .unset, .unset, .unset, .unset, .unset, .unset, .unset, .unset, .unset, .unset, .unset, .unset, .unset, .unset, .unset, .unset, .unset, .unset, .unset] []))
    refine go _ _ (fun t' k' => XS.iload X195h.here hx rfl (hb hby at_35) rfl  k') ?_
    show G (T195.setTop (mkF m 37 #[.val (.int u0), .val (.long q1), .second, .val (.long q2), .second, .val (.long q3), .second, .val (.long q4), .second, .val (.int u5), .val (.ref a194), .val (.ref a195), .val (.int (1 : Int32)), .unset, .unset, .unset, .unset, .unset, .unset, .unset, .unset, .unset, .unset, .unset, .unset, .unset, .unset, .unset, .unset, .unset, .unset, .unset, .unset, .unset] [(.int u5)]))
    refine go _ _ (fun t' k' => XS.iconst X195h.here hx rfl (hb hby at_37) k') ?_
    show G (T195.setTop (mkF m 38 #[.val (.int u0), .val (.long q1), .second, .val (.long q2), .second, .val (.long q3), .second, .val (.long q4), .second, .val (.int u5), .val (.ref a194), .val (.ref a195), .val (.int (1 : Int32)), .unset, .unset, .unset, .unset, .unset, .unset, .unset, .unset, .unset, .unset, .unset, .unset, .unset, .unset, .unset, .unset, .unset, .unset, .unset, .unset, .unset] [(.int (2 : Int32)), (.int u5)]))
    refine go _ _ (fun t' k' => XS.iand X195h.here hx rfl (hb hby at_38) rfl k') ?_
    show G (T195.setTop (mkF m 39 #[.val (.int u0), .val (.long q1), .second, .val (.long q2), .second, .val (.long q3), .second, .val (.long q4), .second, .val (.int u5), .val (.ref a194), .val (.ref a195), .val (.int (1 : Int32)), .unset, .unset, .unset, .unset, .unset, .unset, .unset, .unset, .unset, .unset, .unset, .unset, .unset, .unset, .unset, .unset, .unset, .unset, .unset, .unset, .unset] [(.int (u5 &&& (2 : Int32)))]))
    have J47 : ∀ (T : State) (locs : List Loc), Stand p l e room_1 s m #[(.int u0), (.long q1), (.long q2), (.long q3), (.long q4), (.int u5)] below meth c T locs 2 5 → T.heap = T195.heap → Fr n0 locs → ∀ (p13 : Int32), G (T.setTop (mkF m 47 #[.val (.int u0), .val (.long q1), .second, .val (.long q2), .second, .val (.long q3), .second, .val (.long q4), .second, .val (.int u5), .val (.ref a194), .val (.ref a195), .val (.int (1 : Int32)), .unset, .unset, .unset, .unset, .unset, .unset, .unset, .unset, .unset, .unset, .unset, .unset, .unset, .unset, .unset, .unset, .unset, .unset, .unset, .unset, .unset] [(.int p13)])) := by
      intro T219 locs219 X219 e219 N219j p13 
      show G (T219.setTop (mkF m 47 #[.val (.int u0), .val (.long q1), .second, .val (.long q2), .second, .val (.long q3), .second, .val (.long q4), .second, .val (.int u5), .val (.ref a194), .val (.ref a195), .val (.int (1 : Int32)), .unset, .unset, .unset, .unset, .unset, .unset, .unset, .unset, .unset, .unset, .unset, .unset, .unset, .unset, .unset, .unset, .unset, .unset, .unset, .unset, .unset] [(.int p13)]))
      refine go _ _ (fun t' k' => XS.istore X219.here hx rfl (hb hby at_47) rfl (l' := #[.val (.int u0), .val (.long q1), .second, .val (.long q2), .second, .val (.long q3), .second, .val (.long q4), .second, .val (.int u5), .val (.ref a194), .val (.ref a195), .val (.int (1 : Int32)), .val (.int p13), .unset, .unset, .unset, .unset, .unset, .unset, .unset, .unset, .unset, .unset, .unset, .unset, .unset, .unset, .unset, .unset, .unset, .unset, .unset, .unset]) rfl k') ?_
      show G (T219.setTop (mkF m 49 #[.val (.int u0), .val (.long q1), .second, .val (.long q2), .second, .val (.long q3), .second, .val (.long q4), .second, .val (.int u5), .val (.ref a194), .val (.ref a195), .val (.int (1 : Int32)), .val (.int p13), .unset, .unset, .unset, .unset, .unset, .unset, .unset, .unset, .unset, .unset, .unset, .unset, .unset, .unset, .unset, .unset, .unset, .unset, .unset, .unset] []))
      refine go _ _ (fun t' k' => XS.lloadN X219.here hx rfl (hb hby at_49) rfl  k') ?_
      show G (T219.setTop (mkF m 50 #[.val (.int u0), .val (.long q1), .second, .val (.long q2), .second, .val (.long q3), .second, .val (.long q4), .second, .val (.int u5), .val (.ref a194), .val (.ref a195), .val (.int (1 : Int32)), .val (.int p13), .unset, .unset, .unset, .unset, .unset, .unset, .unset, .unset, .unset, .unset, .unset, .unset, .unset, .unset, .unset, .unset, .unset, .unset, .unset, .unset] [(.long q2)]))
      refine go _ _ (fun t' k' => XS.lload X219.here hx rfl (hb hby at_50) rfl  k') ?_
      show G (T219.setTop (mkF m 52 #[.val (.int u0), .val (.long q1), .second, .val (.long q2), .second, .val (.long q3), .second, .val (.long q4), .second, .val (.int u5), .val (.ref a194), .val (.ref a195), .val (.int (1 : Int32)), .val (.int p13), .unset, .unset, .unset, .unset, .unset, .unset, .unset, .unset, .unset, .unset, .unset, .unset, .unset, .unset, .unset, .unset, .unset, .unset, .unset, .unset] [(.long q4), (.long q2)]))
      refine go _ _ (fun t' k' => XS.lxor X219.here hx rfl (hb hby at_52) rfl k') ?_
      show G (T219.setTop (mkF m 53 #[.val (.int u0), .val (.long q1), .second, .val (.long q2), .second, .val (.long q3), .second, .val (.long q4), .second, .val (.int u5), .val (.ref a194), .val (.ref a195), .val (.int (1 : Int32)), .val (.int p13), .unset, .unset, .unset, .unset, .unset, .unset, .unset, .unset, .unset, .unset, .unset, .unset, .unset, .unset, .unset, .unset, .unset, .unset, .unset, .unset] [(.long (q2 ^^^ q4))]))
      refine go _ _ (fun t' k' => XS.lstore X219.here hx rfl (hb hby at_53) rfl (l' := #[.val (.int u0), .val (.long q1), .second, .val (.long q2), .second, .val (.long q3), .second, .val (.long q4), .second, .val (.int u5), .val (.ref a194), .val (.ref a195), .val (.int (1 : Int32)), .val (.int p13), .val (.long (q2 ^^^ q4)), .second, .unset, .unset, .unset, .unset, .unset, .unset, .unset, .unset, .unset, .unset, .unset, .unset, .unset, .unset, .unset, .unset, .unset, .unset]) rfl k') ?_
      show G (T219.setTop (mkF m 55 #[.val (.int u0), .val (.long q1), .second, .val (.long q2), .second, .val (.long q3), .second, .val (.long q4), .second, .val (.int u5), .val (.ref a194), .val (.ref a195), .val (.int (1 : Int32)), .val (.int p13), .val (.long (q2 ^^^ q4)), .second, .unset, .unset, .unset, .unset, .unset, .unset, .unset, .unset, .unset, .unset, .unset, .unset, .unset, .unset, .unset, .unset, .unset, .unset] []))
      refine go _ _ (fun t' k' => XS.iload X219.here hx rfl (hb hby at_55) rfl  k') ?_
      show G (T219.setTop (mkF m 57 #[.val (.int u0), .val (.long q1), .second, .val (.long q2), .second, .val (.long q3), .second, .val (.long q4), .second, .val (.int u5), .val (.ref a194), .val (.ref a195), .val (.int (1 : Int32)), .val (.int p13), .val (.long (q2 ^^^ q4)), .second, .unset, .unset, .unset, .unset, .unset, .unset, .unset, .unset, .unset, .unset, .unset, .unset, .unset, .unset, .unset, .unset, .unset, .unset] [(.int (1 : Int32))]))
      refine go _ _ (fun t' k' => XS.ifYes X219.here hx rfl (pc0 := 57) (pc' := 98) rfl (hb hby at_57) rfl (Free.XT.i0_ne_t (by decide)) (by decide) (by decide) k') ?_
      show G (T219.setTop (mkF m 98 #[.val (.int u0), .val (.long q1), .second, .val (.long q2), .second, .val (.long q3), .second, .val (.long q4), .second, .val (.int u5), .val (.ref a194), .val (.ref a195), .val (.int (1 : Int32)), .val (.int p13), .val (.long (q2 ^^^ q4)), .second, .unset, .unset, .unset, .unset, .unset, .unset, .unset, .unset, .unset, .unset, .unset, .unset, .unset, .unset, .unset, .unset, .unset, .unset] []))
      refine go _ _ (fun t' k' => XS.lconst X219.here hx rfl (hb hby at_98) k') ?_
      show G (T219.setTop (mkF m 99 #[.val (.int u0), .val (.long q1), .second, .val (.long q2), .second, .val (.long q3), .second, .val (.long q4), .second, .val (.int u5), .val (.ref a194), .val (.ref a195), .val (.int (1 : Int32)), .val (.int p13), .val (.long (q2 ^^^ q4)), .second, .unset, .unset, .unset, .unset, .unset, .unset, .unset, .unset, .unset, .unset, .unset, .unset, .unset, .unset, .unset, .unset, .unset, .unset] [(.long (1 : Int64))]))
      refine go _ _ (fun t' k' => XS.lloadN X219.here hx rfl (hb hby at_99) rfl  k') ?_
      show G (T219.setTop (mkF m 100 #[.val (.int u0), .val (.long q1), .second, .val (.long q2), .second, .val (.long q3), .second, .val (.long q4), .second, .val (.int u5), .val (.ref a194), .val (.ref a195), .val (.int (1 : Int32)), .val (.int p13), .val (.long (q2 ^^^ q4)), .second, .unset, .unset, .unset, .unset, .unset, .unset, .unset, .unset, .unset, .unset, .unset, .unset, .unset, .unset, .unset, .unset, .unset, .unset] [(.long q2), (.long (1 : Int64))]))
      refine go _ _ (fun t' k' => X219.ldc2Long hx hown (mvT hZ (hw _ (List.mem_of_getElem? (i := 69) rfl))) (g := (mkF m 100 #[.val (.int u0), .val (.long q1), .second, .val (.long q2), .second, .val (.long q3), .second, .val (.long q4), .second, .val (.int u5), .val (.ref a194), .val (.ref a195), .val (.int (1 : Int32)), .val (.int p13), .val (.long (q2 ^^^ q4)), .second, .unset, .unset, .unset, .unset, .unset, .unset, .unset, .unset, .unset, .unset, .unset, .unset, .unset, .unset, .unset, .unset, .unset, .unset] [(.long q2), (.long (1 : Int64))])) rfl (hb hby at_100) _ k') ?_
      show G (T219.setTop (mkF m 103 #[.val (.int u0), .val (.long q1), .second, .val (.long q2), .second, .val (.long q3), .second, .val (.long q4), .second, .val (.int u5), .val (.ref a194), .val (.ref a195), .val (.int (1 : Int32)), .val (.int p13), .val (.long (q2 ^^^ q4)), .second, .unset, .unset, .unset, .unset, .unset, .unset, .unset, .unset, .unset, .unset, .unset, .unset, .unset, .unset, .unset, .unset, .unset, .unset] [(.long (2305843009213693951 : Int64)), (.long q2), (.long (1 : Int64))]))
      refine go _ _ (fun t' k' => XS.land X219.here hx rfl (hb hby at_103) rfl k') ?_
      show G (T219.setTop (mkF m 104 #[.val (.int u0), .val (.long q1), .second, .val (.long q2), .second, .val (.long q3), .second, .val (.long q4), .second, .val (.int u5), .val (.ref a194), .val (.ref a195), .val (.int (1 : Int32)), .val (.int p13), .val (.long (q2 ^^^ q4)), .second, .unset, .unset, .unset, .unset, .unset, .unset, .unset, .unset, .unset, .unset, .unset, .unset, .unset, .unset, .unset, .unset, .unset, .unset] [(.long (q2 &&& (2305843009213693951 : Int64))), (.long (1 : Int64))]))
      refine go _ _ (fun t' k' => XS.ladd X219.here hx rfl (hb hby at_104) rfl k') ?_
      show G (T219.setTop (mkF m 105 #[.val (.int u0), .val (.long q1), .second, .val (.long q2), .second, .val (.long q3), .second, .val (.long q4), .second, .val (.int u5), .val (.ref a194), .val (.ref a195), .val (.int (1 : Int32)), .val (.int p13), .val (.long (q2 ^^^ q4)), .second, .unset, .unset, .unset, .unset, .unset, .unset, .unset, .unset, .unset, .unset, .unset, .unset, .unset, .unset, .unset, .unset, .unset, .unset] [(.long ((1 : Int64) + (q2 &&& (2305843009213693951 : Int64))))]))
      refine go _ _ (fun t' k' => XS.lstore X219.here hx rfl (hb hby at_105) rfl (l' := #[.val (.int u0), .val (.long q1), .second, .val (.long q2), .second, .val (.long q3), .second, .val (.long q4), .second, .val (.int u5), .val (.ref a194), .val (.ref a195), .val (.int (1 : Int32)), .val (.int p13), .val (.long (q2 ^^^ q4)), .second, .val (.long ((1 : Int64) + (q2 &&& (2305843009213693951 : Int64)))), .second, .unset, .unset, .unset, .unset, .unset, .unset, .unset, .unset, .unset, .unset, .unset, .unset, .unset, .unset, .unset, .unset]) rfl k') ?_
      show G (T219.setTop (mkF m 107 #[.val (.int u0), .val (.long q1), .second, .val (.long q2), .second, .val (.long q3), .second, .val (.long q4), .second, .val (.int u5), .val (.ref a194), .val (.ref a195), .val (.int (1 : Int32)), .val (.int p13), .val (.long (q2 ^^^ q4)), .second, .val (.long ((1 : Int64) + (q2 &&& (2305843009213693951 : Int64)))), .second, .unset, .unset, .unset, .unset, .unset, .unset, .unset, .unset, .unset, .unset, .unset, .unset, .unset, .unset, .unset, .unset] []))
      obtain ⟨fq, hfq⟩ : ∃ z, z = ((1 : Int64) + (q2 &&& (2305843009213693951 : Int64))) := ⟨_, rfl⟩
      rw [← hfq]
      show G (T219.setTop (mkF m 107 #[.val (.int u0), .val (.long q1), .second, .val (.long q2), .second, .val (.long q3), .second, .val (.long q4), .second, .val (.int u5), .val (.ref a194), .val (.ref a195), .val (.int (1 : Int32)), .val (.int p13), .val (.long (q2 ^^^ q4)), .second, .val (.long fq), .second, .unset, .unset, .unset, .unset, .unset, .unset, .unset, .unset, .unset, .unset, .unset, .unset, .unset, .unset, .unset, .unset] []))
      refine go _ _ (fun t' k' => XS.lload X219.here hx rfl (hb hby at_107) rfl  k') ?_
      show G (T219.setTop (mkF m 109 #[.val (.int u0), .val (.long q1), .second, .val (.long q2), .second, .val (.long q3), .second, .val (.long q4), .second, .val (.int u5), .val (.ref a194), .val (.ref a195), .val (.int (1 : Int32)), .val (.int p13), .val (.long (q2 ^^^ q4)), .second, .val (.long fq), .second, .unset, .unset, .unset, .unset, .unset, .unset, .unset, .unset, .unset, .unset, .unset, .unset, .unset, .unset, .unset, .unset] [(.long fq)]))
      refine go _ _ (fun t' k' => XS.lload X219.here hx rfl (hb hby at_109) rfl  k') ?_
      show G (T219.setTop (mkF m 111 #[.val (.int u0), .val (.long q1), .second, .val (.long q2), .second, .val (.long q3), .second, .val (.long q4), .second, .val (.int u5), .val (.ref a194), .val (.ref a195), .val (.int (1 : Int32)), .val (.int p13), .val (.long (q2 ^^^ q4)), .second, .val (.long fq), .second, .unset, .unset, .unset, .unset, .unset, .unset, .unset, .unset, .unset, .unset, .unset, .unset, .unset, .unset, .unset, .unset] [(.long q3), (.long fq)]))
      refine go _ _ (fun t' k' => X219.ldc2Long hx hown (mvT hZ (hw _ (List.mem_of_getElem? (i := 69) rfl))) (g := (mkF m 111 #[.val (.int u0), .val (.long q1), .second, .val (.long q2), .second, .val (.long q3), .second, .val (.long q4), .second, .val (.int u5), .val (.ref a194), .val (.ref a195), .val (.int (1 : Int32)), .val (.int p13), .val (.long (q2 ^^^ q4)), .second, .val (.long fq), .second, .unset, .unset, .unset, .unset, .unset, .unset, .unset, .unset, .unset, .unset, .unset, .unset, .unset, .unset, .unset, .unset] [(.long q3), (.long fq)])) rfl (hb hby at_111) _ k') ?_
      show G (T219.setTop (mkF m 114 #[.val (.int u0), .val (.long q1), .second, .val (.long q2), .second, .val (.long q3), .second, .val (.long q4), .second, .val (.int u5), .val (.ref a194), .val (.ref a195), .val (.int (1 : Int32)), .val (.int p13), .val (.long (q2 ^^^ q4)), .second, .val (.long fq), .second, .unset, .unset, .unset, .unset, .unset, .unset, .unset, .unset, .unset, .unset, .unset, .unset, .unset, .unset, .unset, .unset] [(.long (2305843009213693951 : Int64)), (.long q3), (.long fq)]))
      refine go _ _ (fun t' k' => XS.land X219.here hx rfl (hb hby at_114) rfl k') ?_
      show G (T219.setTop (mkF m 115 #[.val (.int u0), .val (.long q1), .second, .val (.long q2), .second, .val (.long q3), .second, .val (.long q4), .second, .val (.int u5), .val (.ref a194), .val (.ref a195), .val (.int (1 : Int32)), .val (.int p13), .val (.long (q2 ^^^ q4)), .second, .val (.long fq), .second, .unset, .unset, .unset, .unset, .unset, .unset, .unset, .unset, .unset, .unset, .unset, .unset, .unset, .unset, .unset, .unset] [(.long (q3 &&& (2305843009213693951 : Int64))), (.long fq)]))
      refine go _ _ (fun t' k' => XS.ladd X219.here hx rfl (hb hby at_115) rfl k') ?_
      show G (T219.setTop (mkF m 116 #[.val (.int u0), .val (.long q1), .second, .val (.long q2), .second, .val (.long q3), .second, .val (.long q4), .second, .val (.int u5), .val (.ref a194), .val (.ref a195), .val (.int (1 : Int32)), .val (.int p13), .val (.long (q2 ^^^ q4)), .second, .val (.long fq), .second, .unset, .unset, .unset, .unset, .unset, .unset, .unset, .unset, .unset, .unset, .unset, .unset, .unset, .unset, .unset, .unset] [(.long (fq + (q3 &&& (2305843009213693951 : Int64))))]))
      refine go _ _ (fun t' k' => XS.lstore X219.here hx rfl (hb hby at_116) rfl (l' := #[.val (.int u0), .val (.long q1), .second, .val (.long q2), .second, .val (.long q3), .second, .val (.long q4), .second, .val (.int u5), .val (.ref a194), .val (.ref a195), .val (.int (1 : Int32)), .val (.int p13), .val (.long (q2 ^^^ q4)), .second, .val (.long fq), .second, .val (.long (fq + (q3 &&& (2305843009213693951 : Int64)))), .second, .unset, .unset, .unset, .unset, .unset, .unset, .unset, .unset, .unset, .unset, .unset, .unset, .unset, .unset]) rfl k') ?_
      show G (T219.setTop (mkF m 118 #[.val (.int u0), .val (.long q1), .second, .val (.long q2), .second, .val (.long q3), .second, .val (.long q4), .second, .val (.int u5), .val (.ref a194), .val (.ref a195), .val (.int (1 : Int32)), .val (.int p13), .val (.long (q2 ^^^ q4)), .second, .val (.long fq), .second, .val (.long (fq + (q3 &&& (2305843009213693951 : Int64)))), .second, .unset, .unset, .unset, .unset, .unset, .unset, .unset, .unset, .unset, .unset, .unset, .unset, .unset, .unset] []))
      obtain ⟨mq, hmq⟩ : ∃ z, z = (fq + (q3 &&& (2305843009213693951 : Int64))) := ⟨_, rfl⟩
      rw [← hmq]
      show G (T219.setTop (mkF m 118 #[.val (.int u0), .val (.long q1), .second, .val (.long q2), .second, .val (.long q3), .second, .val (.long q4), .second, .val (.int u5), .val (.ref a194), .val (.ref a195), .val (.int (1 : Int32)), .val (.int p13), .val (.long (q2 ^^^ q4)), .second, .val (.long fq), .second, .val (.long mq), .second, .unset, .unset, .unset, .unset, .unset, .unset, .unset, .unset, .unset, .unset, .unset, .unset, .unset, .unset] []))
      refine go _ _ (fun t' k' => XS.lload X219.here hx rfl (hb hby at_118) rfl  k') ?_
      show G (T219.setTop (mkF m 120 #[.val (.int u0), .val (.long q1), .second, .val (.long q2), .second, .val (.long q3), .second, .val (.long q4), .second, .val (.int u5), .val (.ref a194), .val (.ref a195), .val (.int (1 : Int32)), .val (.int p13), .val (.long (q2 ^^^ q4)), .second, .val (.long fq), .second, .val (.long mq), .second, .unset, .unset, .unset, .unset, .unset, .unset, .unset, .unset, .unset, .unset, .unset, .unset, .unset, .unset] [(.long mq)]))
      refine go _ _ (fun t' k' => XS.lconst X219.here hx rfl (hb hby at_120) k') ?_
      show G (T219.setTop (mkF m 121 #[.val (.int u0), .val (.long q1), .second, .val (.long q2), .second, .val (.long q3), .second, .val (.long q4), .second, .val (.int u5), .val (.ref a194), .val (.ref a195), .val (.int (1 : Int32)), .val (.int p13), .val (.long (q2 ^^^ q4)), .second, .val (.long fq), .second, .val (.long mq), .second, .unset, .unset, .unset, .unset, .unset, .unset, .unset, .unset, .unset, .unset, .unset, .unset, .unset, .unset] [(.long (1 : Int64)), (.long mq)]))
      refine go _ _ (fun t' k' => XS.ladd X219.here hx rfl (hb hby at_121) rfl k') ?_
      show G (T219.setTop (mkF m 122 #[.val (.int u0), .val (.long q1), .second, .val (.long q2), .second, .val (.long q3), .second, .val (.long q4), .second, .val (.int u5), .val (.ref a194), .val (.ref a195), .val (.int (1 : Int32)), .val (.int p13), .val (.long (q2 ^^^ q4)), .second, .val (.long fq), .second, .val (.long mq), .second, .unset, .unset, .unset, .unset, .unset, .unset, .unset, .unset, .unset, .unset, .unset, .unset, .unset, .unset] [(.long (mq + (1 : Int64)))]))
      refine go _ _ (fun t' k' => XS.lload X219.here hx rfl (hb hby at_122) rfl  k') ?_
      show G (T219.setTop (mkF m 124 #[.val (.int u0), .val (.long q1), .second, .val (.long q2), .second, .val (.long q3), .second, .val (.long q4), .second, .val (.int u5), .val (.ref a194), .val (.ref a195), .val (.int (1 : Int32)), .val (.int p13), .val (.long (q2 ^^^ q4)), .second, .val (.long fq), .second, .val (.long mq), .second, .unset, .unset, .unset, .unset, .unset, .unset, .unset, .unset, .unset, .unset, .unset, .unset, .unset, .unset] [(.long q4), (.long (mq + (1 : Int64)))]))
      refine go _ _ (fun t' k' => X219.ldc2Long hx hown (mvT hZ (hw _ (List.mem_of_getElem? (i := 69) rfl))) (g := (mkF m 124 #[.val (.int u0), .val (.long q1), .second, .val (.long q2), .second, .val (.long q3), .second, .val (.long q4), .second, .val (.int u5), .val (.ref a194), .val (.ref a195), .val (.int (1 : Int32)), .val (.int p13), .val (.long (q2 ^^^ q4)), .second, .val (.long fq), .second, .val (.long mq), .second, .unset, .unset, .unset, .unset, .unset, .unset, .unset, .unset, .unset, .unset, .unset, .unset, .unset, .unset] [(.long q4), (.long (mq + (1 : Int64)))])) rfl (hb hby at_124) _ k') ?_
      show G (T219.setTop (mkF m 127 #[.val (.int u0), .val (.long q1), .second, .val (.long q2), .second, .val (.long q3), .second, .val (.long q4), .second, .val (.int u5), .val (.ref a194), .val (.ref a195), .val (.int (1 : Int32)), .val (.int p13), .val (.long (q2 ^^^ q4)), .second, .val (.long fq), .second, .val (.long mq), .second, .unset, .unset, .unset, .unset, .unset, .unset, .unset, .unset, .unset, .unset, .unset, .unset, .unset, .unset] [(.long (2305843009213693951 : Int64)), (.long q4), (.long (mq + (1 : Int64)))]))
      refine go _ _ (fun t' k' => XS.land X219.here hx rfl (hb hby at_127) rfl k') ?_
      show G (T219.setTop (mkF m 128 #[.val (.int u0), .val (.long q1), .second, .val (.long q2), .second, .val (.long q3), .second, .val (.long q4), .second, .val (.int u5), .val (.ref a194), .val (.ref a195), .val (.int (1 : Int32)), .val (.int p13), .val (.long (q2 ^^^ q4)), .second, .val (.long fq), .second, .val (.long mq), .second, .unset, .unset, .unset, .unset, .unset, .unset, .unset, .unset, .unset, .unset, .unset, .unset, .unset, .unset] [(.long (q4 &&& (2305843009213693951 : Int64))), (.long (mq + (1 : Int64)))]))
      refine go _ _ (fun t' k' => XS.ladd X219.here hx rfl (hb hby at_128) rfl k') ?_
      show G (T219.setTop (mkF m 129 #[.val (.int u0), .val (.long q1), .second, .val (.long q2), .second, .val (.long q3), .second, .val (.long q4), .second, .val (.int u5), .val (.ref a194), .val (.ref a195), .val (.int (1 : Int32)), .val (.int p13), .val (.long (q2 ^^^ q4)), .second, .val (.long fq), .second, .val (.long mq), .second, .unset, .unset, .unset, .unset, .unset, .unset, .unset, .unset, .unset, .unset, .unset, .unset, .unset, .unset] [(.long ((mq + (1 : Int64)) + (q4 &&& (2305843009213693951 : Int64))))]))
      refine go _ _ (fun t' k' => XS.lstore X219.here hx rfl (hb hby at_129) rfl (l' := #[.val (.int u0), .val (.long q1), .second, .val (.long q2), .second, .val (.long q3), .second, .val (.long q4), .second, .val (.int u5), .val (.ref a194), .val (.ref a195), .val (.int (1 : Int32)), .val (.int p13), .val (.long (q2 ^^^ q4)), .second, .val (.long fq), .second, .val (.long mq), .second, .val (.long ((mq + (1 : Int64)) + (q4 &&& (2305843009213693951 : Int64)))), .second, .unset, .unset, .unset, .unset, .unset, .unset, .unset, .unset, .unset, .unset, .unset, .unset]) rfl k') ?_
      show G (T219.setTop (mkF m 131 #[.val (.int u0), .val (.long q1), .second, .val (.long q2), .second, .val (.long q3), .second, .val (.long q4), .second, .val (.int u5), .val (.ref a194), .val (.ref a195), .val (.int (1 : Int32)), .val (.int p13), .val (.long (q2 ^^^ q4)), .second, .val (.long fq), .second, .val (.long mq), .second, .val (.long ((mq + (1 : Int64)) + (q4 &&& (2305843009213693951 : Int64)))), .second, .unset, .unset, .unset, .unset, .unset, .unset, .unset, .unset, .unset, .unset, .unset, .unset] []))
      obtain ⟨lq, hlq⟩ : ∃ z, z = ((mq + (1 : Int64)) + (q4 &&& (2305843009213693951 : Int64))) := ⟨_, rfl⟩
      rw [← hlq]
      show G (T219.setTop (mkF m 131 #[.val (.int u0), .val (.long q1), .second, .val (.long q2), .second, .val (.long q3), .second, .val (.long q4), .second, .val (.int u5), .val (.ref a194), .val (.ref a195), .val (.int (1 : Int32)), .val (.int p13), .val (.long (q2 ^^^ q4)), .second, .val (.long fq), .second, .val (.long mq), .second, .val (.long lq), .second, .unset, .unset, .unset, .unset, .unset, .unset, .unset, .unset, .unset, .unset, .unset, .unset] []))
      obtain ⟨m1, m2, m3, m4⟩ := own_m q2 q3 q4 fq mq lq hfq hmq hlq
      obtain ⟨T220, h220, X220, e220, E220, A220, D220, -, st220⟩ := newO X219 hx hZ hown (hw _ (List.mem_of_getElem? (i := 34) rfl)) (hw _ (List.mem_of_getElem? (i := 35) rfl)) (hw _ (List.mem_of_getElem? (i := 36) rfl)) e219 (g := (mkF m 131 #[.val (.int u0), .val (.long q1), .second, .val (.long q2), .second, .val (.long q3), .second, .val (.long q4), .second, .val (.int u5), .val (.ref a194), .val (.ref a195), .val (.int (1 : Int32)), .val (.int p13), .val (.long (q2 ^^^ q4)), .second, .val (.long fq), .second, .val (.long mq), .second, .val (.long lq), .second, .unset, .unset, .unset, .unset, .unset, .unset, .unset, .unset, .unset, .unset, .unset, .unset] [])) rfl (hb hby at_131) (by decide) (by decide)
      obtain ⟨b220, g220⟩ : ∃ z, z = T195.heap.size := ⟨_, rfl⟩
      rw [← g220] at A220 D220 st220
      have g_b220 : n0 ≤ b220 := Nat.le_trans Z198 (Nat.le_of_eq g220.symm)
      have sz_b220 : h0.size ≤ b220 := Nat.le_trans K197.1 (Nat.le_of_eq g220.symm)
      have Z221 : n0 ≤ h220.size := Nat.le_trans Z198 E220.1
      have K222 : Keep h0 h220 [] := K197.ext E220
      have F223 : Fld Z h220 b220 "com/example/lotwise/lotwise/plan/Pegging$Run" "kind" "Lcom/example/lotwise/lotwise/plan/Pegging$Kind;" .null := D220 (Or.inr (hw _ (List.mem_of_getElem? (i := 47) rfl))) (ty := (.object "com/example/lotwise/lotwise/plan/Pegging$Kind")) (by decide)
      have F224 : Fld Z h220 b220 "com/example/lotwise/lotwise/plan/Pegging$Run" "day" "J" (.long (0 : Int64)) := D220 (Or.inr (hw _ (List.mem_of_getElem? (i := 49) rfl))) (ty := .long) (by decide)
      have F225 : Fld Z h220 b220 "com/example/lotwise/lotwise/plan/Pegging$Run" "text" "Ljava/lang/String;" .null := D220 (Or.inr (hw _ (List.mem_of_getElem? (i := 51) rfl))) (ty := (.object "java/lang/String")) (by decide)
      have F226 : Fld Z h220 b220 "com/example/lotwise/lotwise/plan/Pegging$Run" "numbered" "Z" (.int (0 : Int32)) := D220 (Or.inr (hw _ (List.mem_of_getElem? (i := 53) rfl))) (ty := .boolean) (by decide)
      have F227 : Fld Z h220 b220 "com/example/lotwise/lotwise/plan/Pegging$Run" "first" "J" (.long (0 : Int64)) := D220 (Or.inr (hw _ (List.mem_of_getElem? (i := 55) rfl))) (ty := .long) (by decide)
      have F228 : Fld Z h220 b220 "com/example/lotwise/lotwise/plan/Pegging$Run" "last" "J" (.long (0 : Int64)) := D220 (Or.inr (hw _ (List.mem_of_getElem? (i := 57) rfl))) (ty := .long) (by decide)
      have F229 : Fld Z h220 b220 "com/example/lotwise/lotwise/plan/Pegging$Run" "qty" "J" (.long (0 : Int64)) := D220 (Or.inr (hw _ (List.mem_of_getElem? (i := 59) rfl))) (ty := .long) (by decide)
      have F230 : Fld Z h220 b220 "com/example/lotwise/lotwise/plan/Pegging$Run" "parentOrders" "Z" (.int (0 : Int32)) := D220 (Or.inr (hw _ (List.mem_of_getElem? (i := 61) rfl))) (ty := .boolean) (by decide)
      refine go _ _ st220 ?_
      show G (T220.setTop (mkF m 134 #[.val (.int u0), .val (.long q1), .second, .val (.long q2), .second, .val (.long q3), .second, .val (.long q4), .second, .val (.int u5), .val (.ref a194), .val (.ref a195), .val (.int (1 : Int32)), .val (.int p13), .val (.long (q2 ^^^ q4)), .second, .val (.long fq), .second, .val (.long mq), .second, .val (.long lq), .second, .unset, .unset, .unset, .unset, .unset, .unset, .unset, .unset, .unset, .unset, .unset, .unset] [(.ref b220)]))
      refine go _ _ (fun t' k' => XS.dup X220.here hx rfl (hb hby at_134) rfl rfl k') ?_
      show G (T220.setTop (mkF m 135 #[.val (.int u0), .val (.long q1), .second, .val (.long q2), .second, .val (.long q3), .second, .val (.long q4), .second, .val (.int u5), .val (.ref a194), .val (.ref a195), .val (.int (1 : Int32)), .val (.int p13), .val (.long (q2 ^^^ q4)), .second, .val (.long fq), .second, .val (.long mq), .second, .val (.long lq), .second, .unset, .unset, .unset, .unset, .unset, .unset, .unset, .unset, .unset, .unset, .unset, .unset] [(.ref b220), (.ref b220)]))
      refine go _ _ (fun t' k' => XS.aload X220.here hx rfl (hb hby at_135) rfl rfl  k') ?_
      show G (T220.setTop (mkF m 137 #[.val (.int u0), .val (.long q1), .second, .val (.long q2), .second, .val (.long q3), .second, .val (.long q4), .second, .val (.int u5), .val (.ref a194), .val (.ref a195), .val (.int (1 : Int32)), .val (.int p13), .val (.long (q2 ^^^ q4)), .second, .val (.long fq), .second, .val (.long mq), .second, .val (.long lq), .second, .unset, .unset, .unset, .unset, .unset, .unset, .unset, .unset, .unset, .unset, .unset, .unset] [(.ref a194), (.ref b220), (.ref b220)]))
      refine go _ _ (fun t' k' => XS.lloadN X220.here hx rfl (hb hby at_137) rfl  k') ?_
      show G (T220.setTop (mkF m 138 #[.val (.int u0), .val (.long q1), .second, .val (.long q2), .second, .val (.long q3), .second, .val (.long q4), .second, .val (.int u5), .val (.ref a194), .val (.ref a195), .val (.int (1 : Int32)), .val (.int p13), .val (.long (q2 ^^^ q4)), .second, .val (.long fq), .second, .val (.long mq), .second, .val (.long lq), .second, .unset, .unset, .unset, .unset, .unset, .unset, .unset, .unset, .unset, .unset, .unset, .unset] [(.long q1), (.ref a194), (.ref b220), (.ref b220)]))
      refine go _ _ (fun t' k' => XS.aload X220.here hx rfl (hb hby at_138) rfl rfl  k') ?_
      show G (T220.setTop (mkF m 140 #[.val (.int u0), .val (.long q1), .second, .val (.long q2), .second, .val (.long q3), .second, .val (.long q4), .second, .val (.int u5), .val (.ref a194), .val (.ref a195), .val (.int (1 : Int32)), .val (.int p13), .val (.long (q2 ^^^ q4)), .second, .val (.long fq), .second, .val (.long mq), .second, .val (.long lq), .second, .unset, .unset, .unset, .unset, .unset, .unset, .unset, .unset, .unset, .unset, .unset, .unset] [(.ref a195), (.long q1), (.ref a194), (.ref b220), (.ref b220)]))
      refine go _ _ (fun t' k' => XS.iconst X220.here hx rfl (hb hby at_140) k') ?_
      show G (T220.setTop (mkF m 141 #[.val (.int u0), .val (.long q1), .second, .val (.long q2), .second, .val (.long q3), .second, .val (.long q4), .second, .val (.int u5), .val (.ref a194), .val (.ref a195), .val (.int (1 : Int32)), .val (.int p13), .val (.long (q2 ^^^ q4)), .second, .val (.long fq), .second, .val (.long mq), .second, .val (.long lq), .second, .unset, .unset, .unset, .unset, .unset, .unset, .unset, .unset, .unset, .unset, .unset, .unset] [(.int (1 : Int32)), (.ref a195), (.long q1), (.ref a194), (.ref b220), (.ref b220)]))
      refine go _ _ (fun t' k' => XS.lload X220.here hx rfl (hb hby at_141) rfl  k') ?_
      show G (T220.setTop (mkF m 143 #[.val (.int u0), .val (.long q1), .second, .val (.long q2), .second, .val (.long q3), .second, .val (.long q4), .second, .val (.int u5), .val (.ref a194), .val (.ref a195), .val (.int (1 : Int32)), .val (.int p13), .val (.long (q2 ^^^ q4)), .second, .val (.long fq), .second, .val (.long mq), .second, .val (.long lq), .second, .unset, .unset, .unset, .unset, .unset, .unset, .unset, .unset, .unset, .unset, .unset, .unset] [(.long fq), (.int (1 : Int32)), (.ref a195), (.long q1), (.ref a194), (.ref b220), (.ref b220)]))
      refine go _ _ (fun t' k' => XS.lload X220.here hx rfl (hb hby at_143) rfl  k') ?_
      show G (T220.setTop (mkF m 145 #[.val (.int u0), .val (.long q1), .second, .val (.long q2), .second, .val (.long q3), .second, .val (.long q4), .second, .val (.int u5), .val (.ref a194), .val (.ref a195), .val (.int (1 : Int32)), .val (.int p13), .val (.long (q2 ^^^ q4)), .second, .val (.long fq), .second, .val (.long mq), .second, .val (.long lq), .second, .unset, .unset, .unset, .unset, .unset, .unset, .unset, .unset, .unset, .unset, .unset, .unset] [(.long lq), (.long fq), (.int (1 : Int32)), (.ref a195), (.long q1), (.ref a194), (.ref b220), (.ref b220)]))
      refine go _ _ (fun t' k' => XS.lload X220.here hx rfl (hb hby at_145) rfl  k') ?_
      show G (T220.setTop (mkF m 147 #[.val (.int u0), .val (.long q1), .second, .val (.long q2), .second, .val (.long q3), .second, .val (.long q4), .second, .val (.int u5), .val (.ref a194), .val (.ref a195), .val (.int (1 : Int32)), .val (.int p13), .val (.long (q2 ^^^ q4)), .second, .val (.long fq), .second, .val (.long mq), .second, .val (.long lq), .second, .unset, .unset, .unset, .unset, .unset, .unset, .unset, .unset, .unset, .unset, .unset, .unset] [(.long (q2 ^^^ q4)), (.long lq), (.long fq), (.int (1 : Int32)), (.ref a195), (.long q1), (.ref a194), (.ref b220), (.ref b220)]))
      refine go _ _ (fun t' k' => XS.iload X220.here hx rfl (hb hby at_147) rfl  k') ?_
      show G (T220.setTop (mkF m 149 #[.val (.int u0), .val (.long q1), .second, .val (.long q2), .second, .val (.long q3), .second, .val (.long q4), .second, .val (.int u5), .val (.ref a194), .val (.ref a195), .val (.int (1 : Int32)), .val (.int p13), .val (.long (q2 ^^^ q4)), .second, .val (.long fq), .second, .val (.long mq), .second, .val (.long lq), .second, .unset, .unset, .unset, .unset, .unset, .unset, .unset, .unset, .unset, .unset, .unset, .unset] [(.int p13), (.long (q2 ^^^ q4)), (.long lq), (.long fq), (.int (1 : Int32)), (.ref a195), (.long q1), (.ref a194), (.ref b220), (.ref b220)]))
      refine own_init go X220 hx hZ e220 rfl hown (hw _ (List.mem_of_getElem? (i := 37) rfl)) (hw _ (List.mem_of_getElem? (i := 38) rfl)) (hw _ (List.mem_of_getElem? (i := 36) rfl)) (hw _ (List.mem_of_getElem? (i := 39) rfl)) (by decide) (rm7 l Z a0 hw b220 a194 q1 a195 (1 : Int32) fq lq (q2 ^^^ q4) p13 h220 n0 Z221 g_b220 A220 F223 F224 F225 F226 F227 F228 F229 F230) 1 (by decide) (by decide) (by decide) (by decide) (g := (mkF m 149 #[.val (.int u0), .val (.long q1), .second, .val (.long q2), .second, .val (.long q3), .second, .val (.long q4), .second, .val (.int u5), .val (.ref a194), .val (.ref a195), .val (.int (1 : Int32)), .val (.int p13), .val (.long (q2 ^^^ q4)), .second, .val (.long fq), .second, .val (.long mq), .second, .val (.long lq), .second, .unset, .unset, .unset, .unset, .unset, .unset, .unset, .unset, .unset, .unset, .unset, .unset] [(.int p13), (.long (q2 ^^^ q4)), (.long lq), (.long fq), (.int (1 : Int32)), (.ref a195), (.long q1), (.ref a194), (.ref b220), (.ref b220)])) rfl (by rw [hml]; rfl) b220 [(.ref a194), (.long q1), (.ref a195), (.int (1 : Int32)), (.long fq), (.long lq), (.long (q2 ^^^ q4)), (.int p13)] [(.ref b220)] rfl (lenOf pd_6 rfl) rfl (by show 2 * 0 + _ ≤ _; exact Nat.le_of_eq rfl) (hb hby at_149) ?_
      intro T231 L231 v231 X231 q231
      obtain ⟨rfl, N231, K231, Fa231, Fb231, Fc231⟩ := q231
      have ns232 : ∀ w ∈ [b220], ∃ c : Cell, h220[w]? = some c ∧ c.vm.isStatics = false := (allS (own_exa_ns A220) all0)
      obtain ⟨lc231, X231h, N231h⟩ := own_hide X231 (Fr.app N219j N231)
      have K233 : Keep h0 T231.heap [] := K222.trans K231 (allS (Or.inr sz_b220) all0)
      have Z234 : n0 ≤ T231.heap.size := Nat.le_trans Z221 K231.1
      show G (T231.setTop (mkF m 152 #[.val (.int u0), .val (.long q1), .second, .val (.long q2), .second, .val (.long q3), .second, .val (.long q4), .second, .val (.int u5), .val (.ref a194), .val (.ref a195), .val (.int (1 : Int32)), .val (.int p13), .val (.long (q2 ^^^ q4)), .second, .val (.long fq), .second, .val (.long mq), .second, .val (.long lq), .second, .unset, .unset, .unset, .unset, .unset, .unset, .unset, .unset, .unset, .unset, .unset, .unset] [(.ref b220)]))
      refine go _ _ (fun t' k' => XS.astore X231h.here hx rfl (hb hby at_152) rfl rfl (l' := #[.val (.int u0), .val (.long q1), .second, .val (.long q2), .second, .val (.long q3), .second, .val (.long q4), .second, .val (.int u5), .val (.ref a194), .val (.ref a195), .val (.int (1 : Int32)), .val (.int p13), .val (.long (q2 ^^^ q4)), .second, .val (.long fq), .second, .val (.long mq), .second, .val (.long lq), .second, .val (.ref b220), .unset, .unset, .unset, .unset, .unset, .unset, .unset, .unset, .unset, .unset, .unset]) rfl k') ?_
      show G (T231.setTop (mkF m 154 #[.val (.int u0), .val (.long q1), .second, .val (.long q2), .second, .val (.long q3), .second, .val (.long q4), .second, .val (.int u5), .val (.ref a194), .val (.ref a195), .val (.int (1 : Int32)), .val (.int p13), .val (.long (q2 ^^^ q4)), .second, .val (.long fq), .second, .val (.long mq), .second, .val (.long lq), .second, .val (.ref b220), .unset, .unset, .unset, .unset, .unset, .unset, .unset, .unset, .unset, .unset, .unset] []))
      obtain ⟨T235, h235, X235, e235, E235, A235, D235, -, st235⟩ := newO X231h hx hZ hown (hw _ (List.mem_of_getElem? (i := 34) rfl)) (hw _ (List.mem_of_getElem? (i := 35) rfl)) (hw _ (List.mem_of_getElem? (i := 36) rfl)) rfl (g := (mkF m 154 #[.val (.int u0), .val (.long q1), .second, .val (.long q2), .second, .val (.long q3), .second, .val (.long q4), .second, .val (.int u5), .val (.ref a194), .val (.ref a195), .val (.int (1 : Int32)), .val (.int p13), .val (.long (q2 ^^^ q4)), .second, .val (.long fq), .second, .val (.long mq), .second, .val (.long lq), .second, .val (.ref b220), .unset, .unset, .unset, .unset, .unset, .unset, .unset, .unset, .unset, .unset, .unset] [])) rfl (hb hby at_154) (by decide) (by decide)
      obtain ⟨b235, g235⟩ : ∃ z, z = T231.heap.size := ⟨_, rfl⟩
      rw [← g235] at A235 D235 st235
      have f237 := (A220.keep K231)
      have ne236 : b220 ≠ b235 := Nat.ne_of_lt (by rw [g235]; exact f237.lt)
      have g_b235 : n0 ≤ b235 := Nat.le_trans Z234 (Nat.le_of_eq g235.symm)
      have sz_b235 : h0.size ≤ b235 := Nat.le_trans K233.1 (Nat.le_of_eq g235.symm)
      have Z238 : n0 ≤ h235.size := Nat.le_trans Z234 E235.1
      have K239 : Keep h0 h235 [] := K233.ext E235
      have F240 : Fld Z h235 b235 "com/example/lotwise/lotwise/plan/Pegging$Run" "kind" "Lcom/example/lotwise/lotwise/plan/Pegging$Kind;" .null := D235 (Or.inr (hw _ (List.mem_of_getElem? (i := 47) rfl))) (ty := (.object "com/example/lotwise/lotwise/plan/Pegging$Kind")) (by decide)
      have F241 : Fld Z h235 b235 "com/example/lotwise/lotwise/plan/Pegging$Run" "day" "J" (.long (0 : Int64)) := D235 (Or.inr (hw _ (List.mem_of_getElem? (i := 49) rfl))) (ty := .long) (by decide)
      have F242 : Fld Z h235 b235 "com/example/lotwise/lotwise/plan/Pegging$Run" "text" "Ljava/lang/String;" .null := D235 (Or.inr (hw _ (List.mem_of_getElem? (i := 51) rfl))) (ty := (.object "java/lang/String")) (by decide)
      have F243 : Fld Z h235 b235 "com/example/lotwise/lotwise/plan/Pegging$Run" "numbered" "Z" (.int (0 : Int32)) := D235 (Or.inr (hw _ (List.mem_of_getElem? (i := 53) rfl))) (ty := .boolean) (by decide)
      have F244 : Fld Z h235 b235 "com/example/lotwise/lotwise/plan/Pegging$Run" "first" "J" (.long (0 : Int64)) := D235 (Or.inr (hw _ (List.mem_of_getElem? (i := 55) rfl))) (ty := .long) (by decide)
      have F245 : Fld Z h235 b235 "com/example/lotwise/lotwise/plan/Pegging$Run" "last" "J" (.long (0 : Int64)) := D235 (Or.inr (hw _ (List.mem_of_getElem? (i := 57) rfl))) (ty := .long) (by decide)
      have F246 : Fld Z h235 b235 "com/example/lotwise/lotwise/plan/Pegging$Run" "qty" "J" (.long (0 : Int64)) := D235 (Or.inr (hw _ (List.mem_of_getElem? (i := 59) rfl))) (ty := .long) (by decide)
      have F247 : Fld Z h235 b235 "com/example/lotwise/lotwise/plan/Pegging$Run" "parentOrders" "Z" (.int (0 : Int32)) := D235 (Or.inr (hw _ (List.mem_of_getElem? (i := 61) rfl))) (ty := .boolean) (by decide)
      refine go _ _ st235 ?_
      show G (T235.setTop (mkF m 157 #[.val (.int u0), .val (.long q1), .second, .val (.long q2), .second, .val (.long q3), .second, .val (.long q4), .second, .val (.int u5), .val (.ref a194), .val (.ref a195), .val (.int (1 : Int32)), .val (.int p13), .val (.long (q2 ^^^ q4)), .second, .val (.long fq), .second, .val (.long mq), .second, .val (.long lq), .second, .val (.ref b220), .unset, .unset, .unset, .unset, .unset, .unset, .unset, .unset, .unset, .unset, .unset] [(.ref b235)]))
      refine go _ _ (fun t' k' => XS.dup X235.here hx rfl (hb hby at_157) rfl rfl k') ?_
      show G (T235.setTop (mkF m 158 #[.val (.int u0), .val (.long q1), .second, .val (.long q2), .second, .val (.long q3), .second, .val (.long q4), .second, .val (.int u5), .val (.ref a194), .val (.ref a195), .val (.int (1 : Int32)), .val (.int p13), .val (.long (q2 ^^^ q4)), .second, .val (.long fq), .second, .val (.long mq), .second, .val (.long lq), .second, .val (.ref b220), .unset, .unset, .unset, .unset, .unset, .unset, .unset, .unset, .unset, .unset, .unset] [(.ref b235), (.ref b235)]))
      refine go _ _ (fun t' k' => XS.aload X235.here hx rfl (hb hby at_158) rfl rfl  k') ?_
      show G (T235.setTop (mkF m 160 #[.val (.int u0), .val (.long q1), .second, .val (.long q2), .second, .val (.long q3), .second, .val (.long q4), .second, .val (.int u5), .val (.ref a194), .val (.ref a195), .val (.int (1 : Int32)), .val (.int p13), .val (.long (q2 ^^^ q4)), .second, .val (.long fq), .second, .val (.long mq), .second, .val (.long lq), .second, .val (.ref b220), .unset, .unset, .unset, .unset, .unset, .unset, .unset, .unset, .unset, .unset, .unset] [(.ref a194), (.ref b235), (.ref b235)]))
      refine go _ _ (fun t' k' => XS.lloadN X235.here hx rfl (hb hby at_160) rfl  k') ?_
      show G (T235.setTop (mkF m 161 #[.val (.int u0), .val (.long q1), .second, .val (.long q2), .second, .val (.long q3), .second, .val (.long q4), .second, .val (.int u5), .val (.ref a194), .val (.ref a195), .val (.int (1 : Int32)), .val (.int p13), .val (.long (q2 ^^^ q4)), .second, .val (.long fq), .second, .val (.long mq), .second, .val (.long lq), .second, .val (.ref b220), .unset, .unset, .unset, .unset, .unset, .unset, .unset, .unset, .unset, .unset, .unset] [(.long q1), (.ref a194), (.ref b235), (.ref b235)]))
      refine go _ _ (fun t' k' => XS.aload X235.here hx rfl (hb hby at_161) rfl rfl  k') ?_
      show G (T235.setTop (mkF m 163 #[.val (.int u0), .val (.long q1), .second, .val (.long q2), .second, .val (.long q3), .second, .val (.long q4), .second, .val (.int u5), .val (.ref a194), .val (.ref a195), .val (.int (1 : Int32)), .val (.int p13), .val (.long (q2 ^^^ q4)), .second, .val (.long fq), .second, .val (.long mq), .second, .val (.long lq), .second, .val (.ref b220), .unset, .unset, .unset, .unset, .unset, .unset, .unset, .unset, .unset, .unset, .unset] [(.ref a195), (.long q1), (.ref a194), (.ref b235), (.ref b235)]))
      refine go _ _ (fun t' k' => XS.iconst X235.here hx rfl (hb hby at_163) k') ?_
      show G (T235.setTop (mkF m 164 #[.val (.int u0), .val (.long q1), .second, .val (.long q2), .second, .val (.long q3), .second, .val (.long q4), .second, .val (.int u5), .val (.ref a194), .val (.ref a195), .val (.int (1 : Int32)), .val (.int p13), .val (.long (q2 ^^^ q4)), .second, .val (.long fq), .second, .val (.long mq), .second, .val (.long lq), .second, .val (.ref b220), .unset, .unset, .unset, .unset, .unset, .unset, .unset, .unset, .unset, .unset, .unset] [(.int (1 : Int32)), (.ref a195), (.long q1), (.ref a194), (.ref b235), (.ref b235)]))
      refine go _ _ (fun t' k' => XS.lload X235.here hx rfl (hb hby at_164) rfl  k') ?_
      show G (T235.setTop (mkF m 166 #[.val (.int u0), .val (.long q1), .second, .val (.long q2), .second, .val (.long q3), .second, .val (.long q4), .second, .val (.int u5), .val (.ref a194), .val (.ref a195), .val (.int (1 : Int32)), .val (.int p13), .val (.long (q2 ^^^ q4)), .second, .val (.long fq), .second, .val (.long mq), .second, .val (.long lq), .second, .val (.ref b220), .unset, .unset, .unset, .unset, .unset, .unset, .unset, .unset, .unset, .unset, .unset] [(.long fq), (.int (1 : Int32)), (.ref a195), (.long q1), (.ref a194), (.ref b235), (.ref b235)]))
      refine go _ _ (fun t' k' => XS.lload X235.here hx rfl (hb hby at_166) rfl  k') ?_
      show G (T235.setTop (mkF m 168 #[.val (.int u0), .val (.long q1), .second, .val (.long q2), .second, .val (.long q3), .second, .val (.long q4), .second, .val (.int u5), .val (.ref a194), .val (.ref a195), .val (.int (1 : Int32)), .val (.int p13), .val (.long (q2 ^^^ q4)), .second, .val (.long fq), .second, .val (.long mq), .second, .val (.long lq), .second, .val (.ref b220), .unset, .unset, .unset, .unset, .unset, .unset, .unset, .unset, .unset, .unset, .unset] [(.long mq), (.long fq), (.int (1 : Int32)), (.ref a195), (.long q1), (.ref a194), (.ref b235), (.ref b235)]))
      refine go _ _ (fun t' k' => XS.lload X235.here hx rfl (hb hby at_168) rfl  k') ?_
      show G (T235.setTop (mkF m 170 #[.val (.int u0), .val (.long q1), .second, .val (.long q2), .second, .val (.long q3), .second, .val (.long q4), .second, .val (.int u5), .val (.ref a194), .val (.ref a195), .val (.int (1 : Int32)), .val (.int p13), .val (.long (q2 ^^^ q4)), .second, .val (.long fq), .second, .val (.long mq), .second, .val (.long lq), .second, .val (.ref b220), .unset, .unset, .unset, .unset, .unset, .unset, .unset, .unset, .unset, .unset, .unset] [(.long (q2 ^^^ q4)), (.long mq), (.long fq), (.int (1 : Int32)), (.ref a195), (.long q1), (.ref a194), (.ref b235), (.ref b235)]))
      refine go _ _ (fun t' k' => XS.iload X235.here hx rfl (hb hby at_170) rfl  k') ?_
      show G (T235.setTop (mkF m 172 #[.val (.int u0), .val (.long q1), .second, .val (.long q2), .second, .val (.long q3), .second, .val (.long q4), .second, .val (.int u5), .val (.ref a194), .val (.ref a195), .val (.int (1 : Int32)), .val (.int p13), .val (.long (q2 ^^^ q4)), .second, .val (.long fq), .second, .val (.long mq), .second, .val (.long lq), .second, .val (.ref b220), .unset, .unset, .unset, .unset, .unset, .unset, .unset, .unset, .unset, .unset, .unset] [(.int p13), (.long (q2 ^^^ q4)), (.long mq), (.long fq), (.int (1 : Int32)), (.ref a195), (.long q1), (.ref a194), (.ref b235), (.ref b235)]))
      refine own_init go X235 hx hZ e235 rfl hown (hw _ (List.mem_of_getElem? (i := 37) rfl)) (hw _ (List.mem_of_getElem? (i := 38) rfl)) (hw _ (List.mem_of_getElem? (i := 36) rfl)) (hw _ (List.mem_of_getElem? (i := 39) rfl)) (by decide) (rm7 l Z a0 hw b235 a194 q1 a195 (1 : Int32) fq mq (q2 ^^^ q4) p13 h235 n0 Z238 g_b235 A235 F240 F241 F242 F243 F244 F245 F246 F247) 1 (by decide) (by decide) (by decide) (by decide) (g := (mkF m 172 #[.val (.int u0), .val (.long q1), .second, .val (.long q2), .second, .val (.long q3), .second, .val (.long q4), .second, .val (.int u5), .val (.ref a194), .val (.ref a195), .val (.int (1 : Int32)), .val (.int p13), .val (.long (q2 ^^^ q4)), .second, .val (.long fq), .second, .val (.long mq), .second, .val (.long lq), .second, .val (.ref b220), .unset, .unset, .unset, .unset, .unset, .unset, .unset, .unset, .unset, .unset, .unset] [(.int p13), (.long (q2 ^^^ q4)), (.long mq), (.long fq), (.int (1 : Int32)), (.ref a195), (.long q1), (.ref a194), (.ref b235), (.ref b235)])) rfl (by rw [hml]; rfl) b235 [(.ref a194), (.long q1), (.ref a195), (.int (1 : Int32)), (.long fq), (.long mq), (.long (q2 ^^^ q4)), (.int p13)] [(.ref b235)] rfl (lenOf pd_6 rfl) rfl (by show 2 * 0 + _ ≤ _; exact Nat.le_of_eq rfl) (hb hby at_172) ?_
      intro T248 L248 v248 X248 q248
      obtain ⟨rfl, N248, K248, Fa248, Fb248, Fc248⟩ := q248
      have ns249 : ∀ w ∈ [b235], ∃ c : Cell, h235[w]? = some c ∧ c.vm.isStatics = false := (allS (own_exa_ns A235) all0)
      obtain ⟨lc248, X248h, N248h⟩ := own_hide X248 (Fr.app N231h N248)
      have K250 : Keep h0 T248.heap [] := K239.trans K248 (allS (Or.inr sz_b235) all0)
      have Z251 : n0 ≤ T248.heap.size := Nat.le_trans Z238 K248.1
      show G (T248.setTop (mkF m 175 #[.val (.int u0), .val (.long q1), .second, .val (.long q2), .second, .val (.long q3), .second, .val (.long q4), .second, .val (.int u5), .val (.ref a194), .val (.ref a195), .val (.int (1 : Int32)), .val (.int p13), .val (.long (q2 ^^^ q4)), .second, .val (.long fq), .second, .val (.long mq), .second, .val (.long lq), .second, .val (.ref b220), .unset, .unset, .unset, .unset, .unset, .unset, .unset, .unset, .unset, .unset, .unset] [(.ref b235)]))
      refine go _ _ (fun t' k' => XS.astore X248h.here hx rfl (hb hby at_175) rfl rfl (l' := #[.val (.int u0), .val (.long q1), .second, .val (.long q2), .second, .val (.long q3), .second, .val (.long q4), .second, .val (.int u5), .val (.ref a194), .val (.ref a195), .val (.int (1 : Int32)), .val (.int p13), .val (.long (q2 ^^^ q4)), .second, .val (.long fq), .second, .val (.long mq), .second, .val (.long lq), .second, .val (.ref b220), .val (.ref b235), .unset, .unset, .unset, .unset, .unset, .unset, .unset, .unset, .unset, .unset]) rfl k') ?_
      show G (T248.setTop (mkF m 177 #[.val (.int u0), .val (.long q1), .second, .val (.long q2), .second, .val (.long q3), .second, .val (.long q4), .second, .val (.int u5), .val (.ref a194), .val (.ref a195), .val (.int (1 : Int32)), .val (.int p13), .val (.long (q2 ^^^ q4)), .second, .val (.long fq), .second, .val (.long mq), .second, .val (.long lq), .second, .val (.ref b220), .val (.ref b235), .unset, .unset, .unset, .unset, .unset, .unset, .unset, .unset, .unset, .unset] []))
      obtain ⟨T252, h252, X252, e252, E252, A252, D252, -, st252⟩ := newO X248h hx hZ hown (hw _ (List.mem_of_getElem? (i := 34) rfl)) (hw _ (List.mem_of_getElem? (i := 35) rfl)) (hw _ (List.mem_of_getElem? (i := 36) rfl)) rfl (g := (mkF m 177 #[.val (.int u0), .val (.long q1), .second, .val (.long q2), .second, .val (.long q3), .second, .val (.long q4), .second, .val (.int u5), .val (.ref a194), .val (.ref a195), .val (.int (1 : Int32)), .val (.int p13), .val (.long (q2 ^^^ q4)), .second, .val (.long fq), .second, .val (.long mq), .second, .val (.long lq), .second, .val (.ref b220), .val (.ref b235), .unset, .unset, .unset, .unset, .unset, .unset, .unset, .unset, .unset, .unset] [])) rfl (hb hby at_177) (by decide) (by decide)
      obtain ⟨b252, g252⟩ : ∃ z, z = T248.heap.size := ⟨_, rfl⟩
      rw [← g252] at A252 D252 st252
      have f254 := ((f237.ext E235).keep K248)
      have ne253 : b220 ≠ b252 := Nat.ne_of_lt (by rw [g252]; exact f254.lt)
      have f256 := (A235.keep K248)
      have ne255 : b235 ≠ b252 := Nat.ne_of_lt (by rw [g252]; exact f256.lt)
      have g_b252 : n0 ≤ b252 := Nat.le_trans Z251 (Nat.le_of_eq g252.symm)
      have sz_b252 : h0.size ≤ b252 := Nat.le_trans K250.1 (Nat.le_of_eq g252.symm)
      have Z257 : n0 ≤ h252.size := Nat.le_trans Z251 E252.1
      have K258 : Keep h0 h252 [] := K250.ext E252
      have F259 : Fld Z h252 b252 "com/example/lotwise/lotwise/plan/Pegging$Run" "kind" "Lcom/example/lotwise/lotwise/plan/Pegging$Kind;" .null := D252 (Or.inr (hw _ (List.mem_of_getElem? (i := 47) rfl))) (ty := (.object "com/example/lotwise/lotwise/plan/Pegging$Kind")) (by decide)
      have F260 : Fld Z h252 b252 "com/example/lotwise/lotwise/plan/Pegging$Run" "day" "J" (.long (0 : Int64)) := D252 (Or.inr (hw _ (List.mem_of_getElem? (i := 49) rfl))) (ty := .long) (by decide)
      have F261 : Fld Z h252 b252 "com/example/lotwise/lotwise/plan/Pegging$Run" "text" "Ljava/lang/String;" .null := D252 (Or.inr (hw _ (List.mem_of_getElem? (i := 51) rfl))) (ty := (.object "java/lang/String")) (by decide)
      have F262 : Fld Z h252 b252 "com/example/lotwise/lotwise/plan/Pegging$Run" "numbered" "Z" (.int (0 : Int32)) := D252 (Or.inr (hw _ (List.mem_of_getElem? (i := 53) rfl))) (ty := .boolean) (by decide)
      have F263 : Fld Z h252 b252 "com/example/lotwise/lotwise/plan/Pegging$Run" "first" "J" (.long (0 : Int64)) := D252 (Or.inr (hw _ (List.mem_of_getElem? (i := 55) rfl))) (ty := .long) (by decide)
      have F264 : Fld Z h252 b252 "com/example/lotwise/lotwise/plan/Pegging$Run" "last" "J" (.long (0 : Int64)) := D252 (Or.inr (hw _ (List.mem_of_getElem? (i := 57) rfl))) (ty := .long) (by decide)
      have F265 : Fld Z h252 b252 "com/example/lotwise/lotwise/plan/Pegging$Run" "qty" "J" (.long (0 : Int64)) := D252 (Or.inr (hw _ (List.mem_of_getElem? (i := 59) rfl))) (ty := .long) (by decide)
      have F266 : Fld Z h252 b252 "com/example/lotwise/lotwise/plan/Pegging$Run" "parentOrders" "Z" (.int (0 : Int32)) := D252 (Or.inr (hw _ (List.mem_of_getElem? (i := 61) rfl))) (ty := .boolean) (by decide)
      refine go _ _ st252 ?_
      show G (T252.setTop (mkF m 180 #[.val (.int u0), .val (.long q1), .second, .val (.long q2), .second, .val (.long q3), .second, .val (.long q4), .second, .val (.int u5), .val (.ref a194), .val (.ref a195), .val (.int (1 : Int32)), .val (.int p13), .val (.long (q2 ^^^ q4)), .second, .val (.long fq), .second, .val (.long mq), .second, .val (.long lq), .second, .val (.ref b220), .val (.ref b235), .unset, .unset, .unset, .unset, .unset, .unset, .unset, .unset, .unset, .unset] [(.ref b252)]))
      refine go _ _ (fun t' k' => XS.dup X252.here hx rfl (hb hby at_180) rfl rfl k') ?_
      show G (T252.setTop (mkF m 181 #[.val (.int u0), .val (.long q1), .second, .val (.long q2), .second, .val (.long q3), .second, .val (.long q4), .second, .val (.int u5), .val (.ref a194), .val (.ref a195), .val (.int (1 : Int32)), .val (.int p13), .val (.long (q2 ^^^ q4)), .second, .val (.long fq), .second, .val (.long mq), .second, .val (.long lq), .second, .val (.ref b220), .val (.ref b235), .unset, .unset, .unset, .unset, .unset, .unset, .unset, .unset, .unset, .unset] [(.ref b252), (.ref b252)]))
      refine go _ _ (fun t' k' => XS.aload X252.here hx rfl (hb hby at_181) rfl rfl  k') ?_
      show G (T252.setTop (mkF m 183 #[.val (.int u0), .val (.long q1), .second, .val (.long q2), .second, .val (.long q3), .second, .val (.long q4), .second, .val (.int u5), .val (.ref a194), .val (.ref a195), .val (.int (1 : Int32)), .val (.int p13), .val (.long (q2 ^^^ q4)), .second, .val (.long fq), .second, .val (.long mq), .second, .val (.long lq), .second, .val (.ref b220), .val (.ref b235), .unset, .unset, .unset, .unset, .unset, .unset, .unset, .unset, .unset, .unset] [(.ref a194), (.ref b252), (.ref b252)]))
      refine go _ _ (fun t' k' => XS.lloadN X252.here hx rfl (hb hby at_183) rfl  k') ?_
      show G (T252.setTop (mkF m 184 #[.val (.int u0), .val (.long q1), .second, .val (.long q2), .second, .val (.long q3), .second, .val (.long q4), .second, .val (.int u5), .val (.ref a194), .val (.ref a195), .val (.int (1 : Int32)), .val (.int p13), .val (.long (q2 ^^^ q4)), .second, .val (.long fq), .second, .val (.long mq), .second, .val (.long lq), .second, .val (.ref b220), .val (.ref b235), .unset, .unset, .unset, .unset, .unset, .unset, .unset, .unset, .unset, .unset] [(.long q1), (.ref a194), (.ref b252), (.ref b252)]))
      refine go _ _ (fun t' k' => XS.aload X252.here hx rfl (hb hby at_184) rfl rfl  k') ?_
      show G (T252.setTop (mkF m 186 #[.val (.int u0), .val (.long q1), .second, .val (.long q2), .second, .val (.long q3), .second, .val (.long q4), .second, .val (.int u5), .val (.ref a194), .val (.ref a195), .val (.int (1 : Int32)), .val (.int p13), .val (.long (q2 ^^^ q4)), .second, .val (.long fq), .second, .val (.long mq), .second, .val (.long lq), .second, .val (.ref b220), .val (.ref b235), .unset, .unset, .unset, .unset, .unset, .unset, .unset, .unset, .unset, .unset] [(.ref a195), (.long q1), (.ref a194), (.ref b252), (.ref b252)]))
      refine go _ _ (fun t' k' => XS.iconst X252.here hx rfl (hb hby at_186) k') ?_
      show G (T252.setTop (mkF m 187 #[.val (.int u0), .val (.long q1), .second, .val (.long q2), .second, .val (.long q3), .second, .val (.long q4), .second, .val (.int u5), .val (.ref a194), .val (.ref a195), .val (.int (1 : Int32)), .val (.int p13), .val (.long (q2 ^^^ q4)), .second, .val (.long fq), .second, .val (.long mq), .second, .val (.long lq), .second, .val (.ref b220), .val (.ref b235), .unset, .unset, .unset, .unset, .unset, .unset, .unset, .unset, .unset, .unset] [(.int (1 : Int32)), (.ref a195), (.long q1), (.ref a194), (.ref b252), (.ref b252)]))
      refine go _ _ (fun t' k' => XS.lload X252.here hx rfl (hb hby at_187) rfl  k') ?_
      show G (T252.setTop (mkF m 189 #[.val (.int u0), .val (.long q1), .second, .val (.long q2), .second, .val (.long q3), .second, .val (.long q4), .second, .val (.int u5), .val (.ref a194), .val (.ref a195), .val (.int (1 : Int32)), .val (.int p13), .val (.long (q2 ^^^ q4)), .second, .val (.long fq), .second, .val (.long mq), .second, .val (.long lq), .second, .val (.ref b220), .val (.ref b235), .unset, .unset, .unset, .unset, .unset, .unset, .unset, .unset, .unset, .unset] [(.long mq), (.int (1 : Int32)), (.ref a195), (.long q1), (.ref a194), (.ref b252), (.ref b252)]))
      refine go _ _ (fun t' k' => XS.lconst X252.here hx rfl (hb hby at_189) k') ?_
      show G (T252.setTop (mkF m 190 #[.val (.int u0), .val (.long q1), .second, .val (.long q2), .second, .val (.long q3), .second, .val (.long q4), .second, .val (.int u5), .val (.ref a194), .val (.ref a195), .val (.int (1 : Int32)), .val (.int p13), .val (.long (q2 ^^^ q4)), .second, .val (.long fq), .second, .val (.long mq), .second, .val (.long lq), .second, .val (.ref b220), .val (.ref b235), .unset, .unset, .unset, .unset, .unset, .unset, .unset, .unset, .unset, .unset] [(.long (1 : Int64)), (.long mq), (.int (1 : Int32)), (.ref a195), (.long q1), (.ref a194), (.ref b252), (.ref b252)]))
      refine go _ _ (fun t' k' => XS.ladd X252.here hx rfl (hb hby at_190) rfl k') ?_
      show G (T252.setTop (mkF m 191 #[.val (.int u0), .val (.long q1), .second, .val (.long q2), .second, .val (.long q3), .second, .val (.long q4), .second, .val (.int u5), .val (.ref a194), .val (.ref a195), .val (.int (1 : Int32)), .val (.int p13), .val (.long (q2 ^^^ q4)), .second, .val (.long fq), .second, .val (.long mq), .second, .val (.long lq), .second, .val (.ref b220), .val (.ref b235), .unset, .unset, .unset, .unset, .unset, .unset, .unset, .unset, .unset, .unset] [(.long (mq + (1 : Int64))), (.int (1 : Int32)), (.ref a195), (.long q1), (.ref a194), (.ref b252), (.ref b252)]))
      refine go _ _ (fun t' k' => XS.lload X252.here hx rfl (hb hby at_191) rfl  k') ?_
      show G (T252.setTop (mkF m 193 #[.val (.int u0), .val (.long q1), .second, .val (.long q2), .second, .val (.long q3), .second, .val (.long q4), .second, .val (.int u5), .val (.ref a194), .val (.ref a195), .val (.int (1 : Int32)), .val (.int p13), .val (.long (q2 ^^^ q4)), .second, .val (.long fq), .second, .val (.long mq), .second, .val (.long lq), .second, .val (.ref b220), .val (.ref b235), .unset, .unset, .unset, .unset, .unset, .unset, .unset, .unset, .unset, .unset] [(.long lq), (.long (mq + (1 : Int64))), (.int (1 : Int32)), (.ref a195), (.long q1), (.ref a194), (.ref b252), (.ref b252)]))
      refine go _ _ (fun t' k' => XS.lload X252.here hx rfl (hb hby at_193) rfl  k') ?_
      show G (T252.setTop (mkF m 195 #[.val (.int u0), .val (.long q1), .second, .val (.long q2), .second, .val (.long q3), .second, .val (.long q4), .second, .val (.int u5), .val (.ref a194), .val (.ref a195), .val (.int (1 : Int32)), .val (.int p13), .val (.long (q2 ^^^ q4)), .second, .val (.long fq), .second, .val (.long mq), .second, .val (.long lq), .second, .val (.ref b220), .val (.ref b235), .unset, .unset, .unset, .unset, .unset, .unset, .unset, .unset, .unset, .unset] [(.long (q2 ^^^ q4)), (.long lq), (.long (mq + (1 : Int64))), (.int (1 : Int32)), (.ref a195), (.long q1), (.ref a194), (.ref b252), (.ref b252)]))
      refine go _ _ (fun t' k' => XS.iload X252.here hx rfl (hb hby at_195) rfl  k') ?_
      show G (T252.setTop (mkF m 197 #[.val (.int u0), .val (.long q1), .second, .val (.long q2), .second, .val (.long q3), .second, .val (.long q4), .second, .val (.int u5), .val (.ref a194), .val (.ref a195), .val (.int (1 : Int32)), .val (.int p13), .val (.long (q2 ^^^ q4)), .second, .val (.long fq), .second, .val (.long mq), .second, .val (.long lq), .second, .val (.ref b220), .val (.ref b235), .unset, .unset, .unset, .unset, .unset, .unset, .unset, .unset, .unset, .unset] [(.int p13), (.long (q2 ^^^ q4)), (.long lq), (.long (mq + (1 : Int64))), (.int (1 : Int32)), (.ref a195), (.long q1), (.ref a194), (.ref b252), (.ref b252)]))
      refine own_init go X252 hx hZ e252 rfl hown (hw _ (List.mem_of_getElem? (i := 37) rfl)) (hw _ (List.mem_of_getElem? (i := 38) rfl)) (hw _ (List.mem_of_getElem? (i := 36) rfl)) (hw _ (List.mem_of_getElem? (i := 39) rfl)) (by decide) (rm7 l Z a0 hw b252 a194 q1 a195 (1 : Int32) (mq + (1 : Int64)) lq (q2 ^^^ q4) p13 h252 n0 Z257 g_b252 A252 F259 F260 F261 F262 F263 F264 F265 F266) 1 (by decide) (by decide) (by decide) (by decide) (g := (mkF m 197 #[.val (.int u0), .val (.long q1), .second, .val (.long q2), .second, .val (.long q3), .second, .val (.long q4), .second, .val (.int u5), .val (.ref a194), .val (.ref a195), .val (.int (1 : Int32)), .val (.int p13), .val (.long (q2 ^^^ q4)), .second, .val (.long fq), .second, .val (.long mq), .second, .val (.long lq), .second, .val (.ref b220), .val (.ref b235), .unset, .unset, .unset, .unset, .unset, .unset, .unset, .unset, .unset, .unset] [(.int p13), (.long (q2 ^^^ q4)), (.long lq), (.long (mq + (1 : Int64))), (.int (1 : Int32)), (.ref a195), (.long q1), (.ref a194), (.ref b252), (.ref b252)])) rfl (by rw [hml]; rfl) b252 [(.ref a194), (.long q1), (.ref a195), (.int (1 : Int32)), (.long (mq + (1 : Int64))), (.long lq), (.long (q2 ^^^ q4)), (.int p13)] [(.ref b252)] rfl (lenOf pd_6 rfl) rfl (by show 2 * 0 + _ ≤ _; exact Nat.le_of_eq rfl) (hb hby at_197) ?_
      intro T267 L267 v267 X267 q267
      obtain ⟨rfl, N267, K267, Fa267, Fb267, Fc267⟩ := q267
      have ns268 : ∀ w ∈ [b252], ∃ c : Cell, h252[w]? = some c ∧ c.vm.isStatics = false := (allS (own_exa_ns A252) all0)
      obtain ⟨lc267, X267h, N267h⟩ := own_hide X267 (Fr.app N248h N267)
      have K269 : Keep h0 T267.heap [] := K258.trans K267 (allS (Or.inr sz_b252) all0)
      have Z270 : n0 ≤ T267.heap.size := Nat.le_trans Z257 K267.1
      show G (T267.setTop (mkF m 200 #[.val (.int u0), .val (.long q1), .second, .val (.long q2), .second, .val (.long q3), .second, .val (.long q4), .second, .val (.int u5), .val (.ref a194), .val (.ref a195), .val (.int (1 : Int32)), .val (.int p13), .val (.long (q2 ^^^ q4)), .second, .val (.long fq), .second, .val (.long mq), .second, .val (.long lq), .second, .val (.ref b220), .val (.ref b235), .unset, .unset, .unset, .unset, .unset, .unset, .unset, .unset, .unset, .unset] [(.ref b252)]))
      refine go _ _ (fun t' k' => XS.astore X267h.here hx rfl (hb hby at_200) rfl rfl (l' := #[.val (.int u0), .val (.long q1), .second, .val (.long q2), .second, .val (.long q3), .second, .val (.long q4), .second, .val (.int u5), .val (.ref a194), .val (.ref a195), .val (.int (1 : Int32)), .val (.int p13), .val (.long (q2 ^^^ q4)), .second, .val (.long fq), .second, .val (.long mq), .second, .val (.long lq), .second, .val (.ref b220), .val (.ref b235), .val (.ref b252), .unset, .unset, .unset, .unset, .unset, .unset, .unset, .unset, .unset]) rfl k') ?_
      show G (T267.setTop (mkF m 202 #[.val (.int u0), .val (.long q1), .second, .val (.long q2), .second, .val (.long q3), .second, .val (.long q4), .second, .val (.int u5), .val (.ref a194), .val (.ref a195), .val (.int (1 : Int32)), .val (.int p13), .val (.long (q2 ^^^ q4)), .second, .val (.long fq), .second, .val (.long mq), .second, .val (.long lq), .second, .val (.ref b220), .val (.ref b235), .val (.ref b252), .unset, .unset, .unset, .unset, .unset, .unset, .unset, .unset, .unset] []))
      obtain ⟨T271, h271, X271, e271, E271, A271, D271, -, st271⟩ := newO X267h hx hZ hown (hw _ (List.mem_of_getElem? (i := 34) rfl)) (hw _ (List.mem_of_getElem? (i := 35) rfl)) (hw _ (List.mem_of_getElem? (i := 36) rfl)) rfl (g := (mkF m 202 #[.val (.int u0), .val (.long q1), .second, .val (.long q2), .second, .val (.long q3), .second, .val (.long q4), .second, .val (.int u5), .val (.ref a194), .val (.ref a195), .val (.int (1 : Int32)), .val (.int p13), .val (.long (q2 ^^^ q4)), .second, .val (.long fq), .second, .val (.long mq), .second, .val (.long lq), .second, .val (.ref b220), .val (.ref b235), .val (.ref b252), .unset, .unset, .unset, .unset, .unset, .unset, .unset, .unset, .unset] [])) rfl (hb hby at_202) (by decide) (by decide)
      obtain ⟨b271, g271⟩ : ∃ z, z = T267.heap.size := ⟨_, rfl⟩
      rw [← g271] at A271 D271 st271
      have f273 := ((f254.ext E252).keep K267)
      have ne272 : b220 ≠ b271 := Nat.ne_of_lt (by rw [g271]; exact f273.lt)
      have f275 := ((f256.ext E252).keep K267)
      have ne274 : b235 ≠ b271 := Nat.ne_of_lt (by rw [g271]; exact f275.lt)
      have f277 := (A252.keep K267)
      have ne276 : b252 ≠ b271 := Nat.ne_of_lt (by rw [g271]; exact f277.lt)
      have g_b271 : n0 ≤ b271 := Nat.le_trans Z270 (Nat.le_of_eq g271.symm)
      have sz_b271 : h0.size ≤ b271 := Nat.le_trans K269.1 (Nat.le_of_eq g271.symm)
      have Z278 : n0 ≤ h271.size := Nat.le_trans Z270 E271.1
      have K279 : Keep h0 h271 [] := K269.ext E271
      have F280 : Fld Z h271 b271 "com/example/lotwise/lotwise/plan/Pegging$Run" "kind" "Lcom/example/lotwise/lotwise/plan/Pegging$Kind;" .null := D271 (Or.inr (hw _ (List.mem_of_getElem? (i := 47) rfl))) (ty := (.object "com/example/lotwise/lotwise/plan/Pegging$Kind")) (by decide)
      have F281 : Fld Z h271 b271 "com/example/lotwise/lotwise/plan/Pegging$Run" "day" "J" (.long (0 : Int64)) := D271 (Or.inr (hw _ (List.mem_of_getElem? (i := 49) rfl))) (ty := .long) (by decide)
      have F282 : Fld Z h271 b271 "com/example/lotwise/lotwise/plan/Pegging$Run" "text" "Ljava/lang/String;" .null := D271 (Or.inr (hw _ (List.mem_of_getElem? (i := 51) rfl))) (ty := (.object "java/lang/String")) (by decide)
      have F283 : Fld Z h271 b271 "com/example/lotwise/lotwise/plan/Pegging$Run" "numbered" "Z" (.int (0 : Int32)) := D271 (Or.inr (hw _ (List.mem_of_getElem? (i := 53) rfl))) (ty := .boolean) (by decide)
      have F284 : Fld Z h271 b271 "com/example/lotwise/lotwise/plan/Pegging$Run" "first" "J" (.long (0 : Int64)) := D271 (Or.inr (hw _ (List.mem_of_getElem? (i := 55) rfl))) (ty := .long) (by decide)
      have F285 : Fld Z h271 b271 "com/example/lotwise/lotwise/plan/Pegging$Run" "last" "J" (.long (0 : Int64)) := D271 (Or.inr (hw _ (List.mem_of_getElem? (i := 57) rfl))) (ty := .long) (by decide)
      have F286 : Fld Z h271 b271 "com/example/lotwise/lotwise/plan/Pegging$Run" "qty" "J" (.long (0 : Int64)) := D271 (Or.inr (hw _ (List.mem_of_getElem? (i := 59) rfl))) (ty := .long) (by decide)
      have F287 : Fld Z h271 b271 "com/example/lotwise/lotwise/plan/Pegging$Run" "parentOrders" "Z" (.int (0 : Int32)) := D271 (Or.inr (hw _ (List.mem_of_getElem? (i := 61) rfl))) (ty := .boolean) (by decide)
      refine go _ _ st271 ?_
      show G (T271.setTop (mkF m 205 #[.val (.int u0), .val (.long q1), .second, .val (.long q2), .second, .val (.long q3), .second, .val (.long q4), .second, .val (.int u5), .val (.ref a194), .val (.ref a195), .val (.int (1 : Int32)), .val (.int p13), .val (.long (q2 ^^^ q4)), .second, .val (.long fq), .second, .val (.long mq), .second, .val (.long lq), .second, .val (.ref b220), .val (.ref b235), .val (.ref b252), .unset, .unset, .unset, .unset, .unset, .unset, .unset, .unset, .unset] [(.ref b271)]))
      refine go _ _ (fun t' k' => XS.dup X271.here hx rfl (hb hby at_205) rfl rfl k') ?_
      show G (T271.setTop (mkF m 206 #[.val (.int u0), .val (.long q1), .second, .val (.long q2), .second, .val (.long q3), .second, .val (.long q4), .second, .val (.int u5), .val (.ref a194), .val (.ref a195), .val (.int (1 : Int32)), .val (.int p13), .val (.long (q2 ^^^ q4)), .second, .val (.long fq), .second, .val (.long mq), .second, .val (.long lq), .second, .val (.ref b220), .val (.ref b235), .val (.ref b252), .unset, .unset, .unset, .unset, .unset, .unset, .unset, .unset, .unset] [(.ref b271), (.ref b271)]))
      refine go _ _ (fun t' k' => XS.aload X271.here hx rfl (hb hby at_206) rfl rfl  k') ?_
      show G (T271.setTop (mkF m 208 #[.val (.int u0), .val (.long q1), .second, .val (.long q2), .second, .val (.long q3), .second, .val (.long q4), .second, .val (.int u5), .val (.ref a194), .val (.ref a195), .val (.int (1 : Int32)), .val (.int p13), .val (.long (q2 ^^^ q4)), .second, .val (.long fq), .second, .val (.long mq), .second, .val (.long lq), .second, .val (.ref b220), .val (.ref b235), .val (.ref b252), .unset, .unset, .unset, .unset, .unset, .unset, .unset, .unset, .unset] [(.ref a194), (.ref b271), (.ref b271)]))
      refine go _ _ (fun t' k' => XS.lloadN X271.here hx rfl (hb hby at_208) rfl  k') ?_
      show G (T271.setTop (mkF m 209 #[.val (.int u0), .val (.long q1), .second, .val (.long q2), .second, .val (.long q3), .second, .val (.long q4), .second, .val (.int u5), .val (.ref a194), .val (.ref a195), .val (.int (1 : Int32)), .val (.int p13), .val (.long (q2 ^^^ q4)), .second, .val (.long fq), .second, .val (.long mq), .second, .val (.long lq), .second, .val (.ref b220), .val (.ref b235), .val (.ref b252), .unset, .unset, .unset, .unset, .unset, .unset, .unset, .unset, .unset] [(.long q1), (.ref a194), (.ref b271), (.ref b271)]))
      refine go _ _ (fun t' k' => XS.aload X271.here hx rfl (hb hby at_209) rfl rfl  k') ?_
      show G (T271.setTop (mkF m 211 #[.val (.int u0), .val (.long q1), .second, .val (.long q2), .second, .val (.long q3), .second, .val (.long q4), .second, .val (.int u5), .val (.ref a194), .val (.ref a195), .val (.int (1 : Int32)), .val (.int p13), .val (.long (q2 ^^^ q4)), .second, .val (.long fq), .second, .val (.long mq), .second, .val (.long lq), .second, .val (.ref b220), .val (.ref b235), .val (.ref b252), .unset, .unset, .unset, .unset, .unset, .unset, .unset, .unset, .unset] [(.ref a195), (.long q1), (.ref a194), (.ref b271), (.ref b271)]))
      refine go _ _ (fun t' k' => XS.iconst X271.here hx rfl (hb hby at_211) k') ?_
      show G (T271.setTop (mkF m 212 #[.val (.int u0), .val (.long q1), .second, .val (.long q2), .second, .val (.long q3), .second, .val (.long q4), .second, .val (.int u5), .val (.ref a194), .val (.ref a195), .val (.int (1 : Int32)), .val (.int p13), .val (.long (q2 ^^^ q4)), .second, .val (.long fq), .second, .val (.long mq), .second, .val (.long lq), .second, .val (.ref b220), .val (.ref b235), .val (.ref b252), .unset, .unset, .unset, .unset, .unset, .unset, .unset, .unset, .unset] [(.int (1 : Int32)), (.ref a195), (.long q1), (.ref a194), (.ref b271), (.ref b271)]))
      refine go _ _ (fun t' k' => XS.lload X271.here hx rfl (hb hby at_212) rfl  k') ?_
      show G (T271.setTop (mkF m 214 #[.val (.int u0), .val (.long q1), .second, .val (.long q2), .second, .val (.long q3), .second, .val (.long q4), .second, .val (.int u5), .val (.ref a194), .val (.ref a195), .val (.int (1 : Int32)), .val (.int p13), .val (.long (q2 ^^^ q4)), .second, .val (.long fq), .second, .val (.long mq), .second, .val (.long lq), .second, .val (.ref b220), .val (.ref b235), .val (.ref b252), .unset, .unset, .unset, .unset, .unset, .unset, .unset, .unset, .unset] [(.long mq), (.int (1 : Int32)), (.ref a195), (.long q1), (.ref a194), (.ref b271), (.ref b271)]))
      refine go _ _ (fun t' k' => XS.lload X271.here hx rfl (hb hby at_214) rfl  k') ?_
      show G (T271.setTop (mkF m 216 #[.val (.int u0), .val (.long q1), .second, .val (.long q2), .second, .val (.long q3), .second, .val (.long q4), .second, .val (.int u5), .val (.ref a194), .val (.ref a195), .val (.int (1 : Int32)), .val (.int p13), .val (.long (q2 ^^^ q4)), .second, .val (.long fq), .second, .val (.long mq), .second, .val (.long lq), .second, .val (.ref b220), .val (.ref b235), .val (.ref b252), .unset, .unset, .unset, .unset, .unset, .unset, .unset, .unset, .unset] [(.long mq), (.long mq), (.int (1 : Int32)), (.ref a195), (.long q1), (.ref a194), (.ref b271), (.ref b271)]))
      refine go _ _ (fun t' k' => XS.lload X271.here hx rfl (hb hby at_216) rfl  k') ?_
      show G (T271.setTop (mkF m 218 #[.val (.int u0), .val (.long q1), .second, .val (.long q2), .second, .val (.long q3), .second, .val (.long q4), .second, .val (.int u5), .val (.ref a194), .val (.ref a195), .val (.int (1 : Int32)), .val (.int p13), .val (.long (q2 ^^^ q4)), .second, .val (.long fq), .second, .val (.long mq), .second, .val (.long lq), .second, .val (.ref b220), .val (.ref b235), .val (.ref b252), .unset, .unset, .unset, .unset, .unset, .unset, .unset, .unset, .unset] [(.long (q2 ^^^ q4)), (.long mq), (.long mq), (.int (1 : Int32)), (.ref a195), (.long q1), (.ref a194), (.ref b271), (.ref b271)]))
      refine go _ _ (fun t' k' => XS.iload X271.here hx rfl (hb hby at_218) rfl  k') ?_
      show G (T271.setTop (mkF m 220 #[.val (.int u0), .val (.long q1), .second, .val (.long q2), .second, .val (.long q3), .second, .val (.long q4), .second, .val (.int u5), .val (.ref a194), .val (.ref a195), .val (.int (1 : Int32)), .val (.int p13), .val (.long (q2 ^^^ q4)), .second, .val (.long fq), .second, .val (.long mq), .second, .val (.long lq), .second, .val (.ref b220), .val (.ref b235), .val (.ref b252), .unset, .unset, .unset, .unset, .unset, .unset, .unset, .unset, .unset] [(.int p13), (.long (q2 ^^^ q4)), (.long mq), (.long mq), (.int (1 : Int32)), (.ref a195), (.long q1), (.ref a194), (.ref b271), (.ref b271)]))
      refine own_init go X271 hx hZ e271 rfl hown (hw _ (List.mem_of_getElem? (i := 37) rfl)) (hw _ (List.mem_of_getElem? (i := 38) rfl)) (hw _ (List.mem_of_getElem? (i := 36) rfl)) (hw _ (List.mem_of_getElem? (i := 39) rfl)) (by decide) (rm7 l Z a0 hw b271 a194 q1 a195 (1 : Int32) mq mq (q2 ^^^ q4) p13 h271 n0 Z278 g_b271 A271 F280 F281 F282 F283 F284 F285 F286 F287) 1 (by decide) (by decide) (by decide) (by decide) (g := (mkF m 220 #[.val (.int u0), .val (.long q1), .second, .val (.long q2), .second, .val (.long q3), .second, .val (.long q4), .second, .val (.int u5), .val (.ref a194), .val (.ref a195), .val (.int (1 : Int32)), .val (.int p13), .val (.long (q2 ^^^ q4)), .second, .val (.long fq), .second, .val (.long mq), .second, .val (.long lq), .second, .val (.ref b220), .val (.ref b235), .val (.ref b252), .unset, .unset, .unset, .unset, .unset, .unset, .unset, .unset, .unset] [(.int p13), (.long (q2 ^^^ q4)), (.long mq), (.long mq), (.int (1 : Int32)), (.ref a195), (.long q1), (.ref a194), (.ref b271), (.ref b271)])) rfl (by rw [hml]; rfl) b271 [(.ref a194), (.long q1), (.ref a195), (.int (1 : Int32)), (.long mq), (.long mq), (.long (q2 ^^^ q4)), (.int p13)] [(.ref b271)] rfl (lenOf pd_6 rfl) rfl (by show 2 * 0 + _ ≤ _; exact Nat.le_of_eq rfl) (hb hby at_220) ?_
      intro T288 L288 v288 X288 q288
      obtain ⟨rfl, N288, K288, Fa288, Fb288, Fc288⟩ := q288
      have ns289 : ∀ w ∈ [b271], ∃ c : Cell, h271[w]? = some c ∧ c.vm.isStatics = false := (allS (own_exa_ns A271) all0)
      obtain ⟨lc288, X288h, N288h⟩ := own_hide X288 (Fr.app N267h N288)
      have K290 : Keep h0 T288.heap [] := K279.trans K288 (allS (Or.inr sz_b271) all0)
      have Z291 : n0 ≤ T288.heap.size := Nat.le_trans Z278 K288.1
      show G (T288.setTop (mkF m 223 #[.val (.int u0), .val (.long q1), .second, .val (.long q2), .second, .val (.long q3), .second, .val (.long q4), .second, .val (.int u5), .val (.ref a194), .val (.ref a195), .val (.int (1 : Int32)), .val (.int p13), .val (.long (q2 ^^^ q4)), .second, .val (.long fq), .second, .val (.long mq), .second, .val (.long lq), .second, .val (.ref b220), .val (.ref b235), .val (.ref b252), .unset, .unset, .unset, .unset, .unset, .unset, .unset, .unset, .unset] [(.ref b271)]))
      refine go _ _ (fun t' k' => XS.astore X288h.here hx rfl (hb hby at_223) rfl rfl (l' := #[.val (.int u0), .val (.long q1), .second, .val (.long q2), .second, .val (.long q3), .second, .val (.long q4), .second, .val (.int u5), .val (.ref a194), .val (.ref a195), .val (.int (1 : Int32)), .val (.int p13), .val (.long (q2 ^^^ q4)), .second, .val (.long fq), .second, .val (.long mq), .second, .val (.long lq), .second, .val (.ref b220), .val (.ref b235), .val (.ref b252), .val (.ref b271), .unset, .unset, .unset, .unset, .unset, .unset, .unset, .unset]) rfl k') ?_
      show G (T288.setTop (mkF m 225 #[.val (.int u0), .val (.long q1), .second, .val (.long q2), .second, .val (.long q3), .second, .val (.long q4), .second, .val (.int u5), .val (.ref a194), .val (.ref a195), .val (.int (1 : Int32)), .val (.int p13), .val (.long (q2 ^^^ q4)), .second, .val (.long fq), .second, .val (.long mq), .second, .val (.long lq), .second, .val (.ref b220), .val (.ref b235), .val (.ref b252), .val (.ref b271), .unset, .unset, .unset, .unset, .unset, .unset, .unset, .unset] []))
      refine go _ _ (fun t' k' => XS.aload X288h.here hx rfl (hb hby at_225) rfl rfl  k') ?_
      show G (T288.setTop (mkF m 227 #[.val (.int u0), .val (.long q1), .second, .val (.long q2), .second, .val (.long q3), .second, .val (.long q4), .second, .val (.int u5), .val (.ref a194), .val (.ref a195), .val (.int (1 : Int32)), .val (.int p13), .val (.long (q2 ^^^ q4)), .second, .val (.long fq), .second, .val (.long mq), .second, .val (.long lq), .second, .val (.ref b220), .val (.ref b235), .val (.ref b252), .val (.ref b271), .unset, .unset, .unset, .unset, .unset, .unset, .unset, .unset] [(.ref b220)]))
      have f292 := ((((((Fa231.ext E235).keep K248 (ninS ne236 nin0)).ext E252).keep K267 (ninS ne253 nin0)).ext E271).keep K288 (ninS ne272 nin0))
      have f293 := ((((((Fb231.ext E235).keep K248 (ninS ne236 nin0)).ext E252).keep K267 (ninS ne253 nin0)).ext E271).keep K288 (ninS ne272 nin0))
      have f294 := ((((((Fc231.ext E235).keep K248 (ninS ne236 nin0)).ext E252).keep K267 (ninS ne253 nin0)).ext E271).keep K288 (ninS ne272 nin0))
      have f296 := ((f273.ext E271).keep K288)
      refine own_virtual go X288h hx hZ rfl hown (hw _ (List.mem_of_getElem? (i := 62) rfl)) (hw _ (List.mem_of_getElem? (i := 63) rfl)) (notFace_of_selects (args := #[]) (mvT hZ (hw _ (List.mem_of_getElem? (i := 65) rfl)))) (hw _ (List.mem_of_getElem? (i := 65) rfl)) (hw _ (List.mem_of_getElem? (i := 64) rfl)) (hw _ (List.mem_of_getElem? (i := 36) rfl)) (hw _ (List.mem_of_getElem? (i := 66) rfl)) (by decide) (rm8 l Z a0 hw b220 (1 : Int32) fq lq T288.heap n0 Z291 f292 f293 f294) 0 (by decide) (by decide) (by decide) (by decide) f296 (g := (mkF m 227 #[.val (.int u0), .val (.long q1), .second, .val (.long q2), .second, .val (.long q3), .second, .val (.long q4), .second, .val (.int u5), .val (.ref a194), .val (.ref a195), .val (.int (1 : Int32)), .val (.int p13), .val (.long (q2 ^^^ q4)), .second, .val (.long fq), .second, .val (.long mq), .second, .val (.long lq), .second, .val (.ref b220), .val (.ref b235), .val (.ref b252), .val (.ref b271), .unset, .unset, .unset, .unset, .unset, .unset, .unset, .unset] [(.ref b220)])) rfl (by rw [hml]; rfl) [] [] rfl (lenOf pd_7 rfl) rfl (by show 2 * 0 + _ ≤ _; exact Nat.le_of_eq rfl) (hb hby at_227) ?_
      intro T295 L295 v295 X295 q295
      obtain ⟨rfl, N295, hh295⟩ := q295
      obtain ⟨lc295, X295h, N295h⟩ := own_hide X295 (Fr.app N288h N295)
      show G (T295.setTop (mkF m 230 #[.val (.int u0), .val (.long q1), .second, .val (.long q2), .second, .val (.long q3), .second, .val (.long q4), .second, .val (.int u5), .val (.ref a194), .val (.ref a195), .val (.int (1 : Int32)), .val (.int p13), .val (.long (q2 ^^^ q4)), .second, .val (.long fq), .second, .val (.long mq), .second, .val (.long lq), .second, .val (.ref b220), .val (.ref b235), .val (.ref b252), .val (.ref b271), .unset, .unset, .unset, .unset, .unset, .unset, .unset, .unset] [(.long ((lq - fq) + (1 : Int64)))]))
      refine go _ _ (fun t' k' => XS.lstore X295h.here hx rfl (hb hby at_230) rfl (l' := #[.val (.int u0), .val (.long q1), .second, .val (.long q2), .second, .val (.long q3), .second, .val (.long q4), .second, .val (.int u5), .val (.ref a194), .val (.ref a195), .val (.int (1 : Int32)), .val (.int p13), .val (.long (q2 ^^^ q4)), .second, .val (.long fq), .second, .val (.long mq), .second, .val (.long lq), .second, .val (.ref b220), .val (.ref b235), .val (.ref b252), .val (.ref b271), .val (.long ((lq - fq) + (1 : Int64))), .second, .unset, .unset, .unset, .unset, .unset, .unset]) rfl k') ?_
      show G (T295.setTop (mkF m 232 #[.val (.int u0), .val (.long q1), .second, .val (.long q2), .second, .val (.long q3), .second, .val (.long q4), .second, .val (.int u5), .val (.ref a194), .val (.ref a195), .val (.int (1 : Int32)), .val (.int p13), .val (.long (q2 ^^^ q4)), .second, .val (.long fq), .second, .val (.long mq), .second, .val (.long lq), .second, .val (.ref b220), .val (.ref b235), .val (.ref b252), .val (.ref b271), .val (.long ((lq - fq) + (1 : Int64))), .second, .unset, .unset, .unset, .unset, .unset, .unset] []))
      refine go _ _ (fun t' k' => XS.aload X295h.here hx rfl (hb hby at_232) rfl rfl  k') ?_
      show G (T295.setTop (mkF m 234 #[.val (.int u0), .val (.long q1), .second, .val (.long q2), .second, .val (.long q3), .second, .val (.long q4), .second, .val (.int u5), .val (.ref a194), .val (.ref a195), .val (.int (1 : Int32)), .val (.int p13), .val (.long (q2 ^^^ q4)), .second, .val (.long fq), .second, .val (.long mq), .second, .val (.long lq), .second, .val (.ref b220), .val (.ref b235), .val (.ref b252), .val (.ref b271), .val (.long ((lq - fq) + (1 : Int64))), .second, .unset, .unset, .unset, .unset, .unset, .unset] [(.ref b235)]))
      have f297 := ((((Fa248.ext E252).keep K267 (ninS ne255 nin0)).ext E271).keep K288 (ninS ne274 nin0))
      have f298 := ((((Fb248.ext E252).keep K267 (ninS ne255 nin0)).ext E271).keep K288 (ninS ne274 nin0))
      have f299 := ((((Fc248.ext E252).keep K267 (ninS ne255 nin0)).ext E271).keep K288 (ninS ne274 nin0))
      have f301 := ((f275.ext E271).keep K288)
      refine own_virtual go X295h hx hZ hh295 hown (hw _ (List.mem_of_getElem? (i := 62) rfl)) (hw _ (List.mem_of_getElem? (i := 63) rfl)) (notFace_of_selects (args := #[]) (mvT hZ (hw _ (List.mem_of_getElem? (i := 65) rfl)))) (hw _ (List.mem_of_getElem? (i := 65) rfl)) (hw _ (List.mem_of_getElem? (i := 64) rfl)) (hw _ (List.mem_of_getElem? (i := 36) rfl)) (hw _ (List.mem_of_getElem? (i := 66) rfl)) (by decide) (rm8 l Z a0 hw b235 (1 : Int32) fq mq T288.heap n0 Z291 f297 f298 f299) 0 (by decide) (by decide) (by decide) (by decide) f301 (g := (mkF m 234 #[.val (.int u0), .val (.long q1), .second, .val (.long q2), .second, .val (.long q3), .second, .val (.long q4), .second, .val (.int u5), .val (.ref a194), .val (.ref a195), .val (.int (1 : Int32)), .val (.int p13), .val (.long (q2 ^^^ q4)), .second, .val (.long fq), .second, .val (.long mq), .second, .val (.long lq), .second, .val (.ref b220), .val (.ref b235), .val (.ref b252), .val (.ref b271), .val (.long ((lq - fq) + (1 : Int64))), .second, .unset, .unset, .unset, .unset, .unset, .unset] [(.ref b235)])) rfl (by rw [hml]; rfl) [] [] rfl (lenOf pd_7 rfl) rfl (by show 2 * 0 + _ ≤ _; exact Nat.le_of_eq rfl) (hb hby at_234) ?_
      intro T300 L300 v300 X300 q300
      obtain ⟨rfl, N300, hh300⟩ := q300
      obtain ⟨lc300, X300h, N300h⟩ := own_hide X300 (Fr.app N295h N300)
      show G (T300.setTop (mkF m 237 #[.val (.int u0), .val (.long q1), .second, .val (.long q2), .second, .val (.long q3), .second, .val (.long q4), .second, .val (.int u5), .val (.ref a194), .val (.ref a195), .val (.int (1 : Int32)), .val (.int p13), .val (.long (q2 ^^^ q4)), .second, .val (.long fq), .second, .val (.long mq), .second, .val (.long lq), .second, .val (.ref b220), .val (.ref b235), .val (.ref b252), .val (.ref b271), .val (.long ((lq - fq) + (1 : Int64))), .second, .unset, .unset, .unset, .unset, .unset, .unset] [(.long ((mq - fq) + (1 : Int64)))]))
      refine go _ _ (fun t' k' => XS.lstore X300h.here hx rfl (hb hby at_237) rfl (l' := #[.val (.int u0), .val (.long q1), .second, .val (.long q2), .second, .val (.long q3), .second, .val (.long q4), .second, .val (.int u5), .val (.ref a194), .val (.ref a195), .val (.int (1 : Int32)), .val (.int p13), .val (.long (q2 ^^^ q4)), .second, .val (.long fq), .second, .val (.long mq), .second, .val (.long lq), .second, .val (.ref b220), .val (.ref b235), .val (.ref b252), .val (.ref b271), .val (.long ((lq - fq) + (1 : Int64))), .second, .val (.long ((mq - fq) + (1 : Int64))), .second, .unset, .unset, .unset, .unset]) rfl k') ?_
      show G (T300.setTop (mkF m 239 #[.val (.int u0), .val (.long q1), .second, .val (.long q2), .second, .val (.long q3), .second, .val (.long q4), .second, .val (.int u5), .val (.ref a194), .val (.ref a195), .val (.int (1 : Int32)), .val (.int p13), .val (.long (q2 ^^^ q4)), .second, .val (.long fq), .second, .val (.long mq), .second, .val (.long lq), .second, .val (.ref b220), .val (.ref b235), .val (.ref b252), .val (.ref b271), .val (.long ((lq - fq) + (1 : Int64))), .second, .val (.long ((mq - fq) + (1 : Int64))), .second, .unset, .unset, .unset, .unset] []))
      refine go _ _ (fun t' k' => XS.aload X300h.here hx rfl (hb hby at_239) rfl rfl  k') ?_
      show G (T300.setTop (mkF m 241 #[.val (.int u0), .val (.long q1), .second, .val (.long q2), .second, .val (.long q3), .second, .val (.long q4), .second, .val (.int u5), .val (.ref a194), .val (.ref a195), .val (.int (1 : Int32)), .val (.int p13), .val (.long (q2 ^^^ q4)), .second, .val (.long fq), .second, .val (.long mq), .second, .val (.long lq), .second, .val (.ref b220), .val (.ref b235), .val (.ref b252), .val (.ref b271), .val (.long ((lq - fq) + (1 : Int64))), .second, .val (.long ((mq - fq) + (1 : Int64))), .second, .unset, .unset, .unset, .unset] [(.ref b252)]))
      have f302 := ((Fa267.ext E271).keep K288 (ninS ne276 nin0))
      have f303 := ((Fb267.ext E271).keep K288 (ninS ne276 nin0))
      have f304 := ((Fc267.ext E271).keep K288 (ninS ne276 nin0))
      have f306 := ((f277.ext E271).keep K288)
      refine own_virtual go X300h hx hZ hh300 hown (hw _ (List.mem_of_getElem? (i := 62) rfl)) (hw _ (List.mem_of_getElem? (i := 63) rfl)) (notFace_of_selects (args := #[]) (mvT hZ (hw _ (List.mem_of_getElem? (i := 65) rfl)))) (hw _ (List.mem_of_getElem? (i := 65) rfl)) (hw _ (List.mem_of_getElem? (i := 64) rfl)) (hw _ (List.mem_of_getElem? (i := 36) rfl)) (hw _ (List.mem_of_getElem? (i := 66) rfl)) (by decide) (rm8 l Z a0 hw b252 (1 : Int32) (mq + (1 : Int64)) lq T288.heap n0 Z291 f302 f303 f304) 0 (by decide) (by decide) (by decide) (by decide) f306 (g := (mkF m 241 #[.val (.int u0), .val (.long q1), .second, .val (.long q2), .second, .val (.long q3), .second, .val (.long q4), .second, .val (.int u5), .val (.ref a194), .val (.ref a195), .val (.int (1 : Int32)), .val (.int p13), .val (.long (q2 ^^^ q4)), .second, .val (.long fq), .second, .val (.long mq), .second, .val (.long lq), .second, .val (.ref b220), .val (.ref b235), .val (.ref b252), .val (.ref b271), .val (.long ((lq - fq) + (1 : Int64))), .second, .val (.long ((mq - fq) + (1 : Int64))), .second, .unset, .unset, .unset, .unset] [(.ref b252)])) rfl (by rw [hml]; rfl) [] [] rfl (lenOf pd_7 rfl) rfl (by show 2 * 0 + _ ≤ _; exact Nat.le_of_eq rfl) (hb hby at_241) ?_
      intro T305 L305 v305 X305 q305
      obtain ⟨rfl, N305, hh305⟩ := q305
      obtain ⟨lc305, X305h, N305h⟩ := own_hide X305 (Fr.app N300h N305)
      show G (T305.setTop (mkF m 244 #[.val (.int u0), .val (.long q1), .second, .val (.long q2), .second, .val (.long q3), .second, .val (.long q4), .second, .val (.int u5), .val (.ref a194), .val (.ref a195), .val (.int (1 : Int32)), .val (.int p13), .val (.long (q2 ^^^ q4)), .second, .val (.long fq), .second, .val (.long mq), .second, .val (.long lq), .second, .val (.ref b220), .val (.ref b235), .val (.ref b252), .val (.ref b271), .val (.long ((lq - fq) + (1 : Int64))), .second, .val (.long ((mq - fq) + (1 : Int64))), .second, .unset, .unset, .unset, .unset] [(.long ((lq - (mq + (1 : Int64))) + (1 : Int64)))]))
      refine go _ _ (fun t' k' => XS.lstore X305h.here hx rfl (hb hby at_244) rfl (l' := #[.val (.int u0), .val (.long q1), .second, .val (.long q2), .second, .val (.long q3), .second, .val (.long q4), .second, .val (.int u5), .val (.ref a194), .val (.ref a195), .val (.int (1 : Int32)), .val (.int p13), .val (.long (q2 ^^^ q4)), .second, .val (.long fq), .second, .val (.long mq), .second, .val (.long lq), .second, .val (.ref b220), .val (.ref b235), .val (.ref b252), .val (.ref b271), .val (.long ((lq - fq) + (1 : Int64))), .second, .val (.long ((mq - fq) + (1 : Int64))), .second, .val (.long ((lq - (mq + (1 : Int64))) + (1 : Int64))), .second, .unset, .unset]) rfl k') ?_
      show G (T305.setTop (mkF m 246 #[.val (.int u0), .val (.long q1), .second, .val (.long q2), .second, .val (.long q3), .second, .val (.long q4), .second, .val (.int u5), .val (.ref a194), .val (.ref a195), .val (.int (1 : Int32)), .val (.int p13), .val (.long (q2 ^^^ q4)), .second, .val (.long fq), .second, .val (.long mq), .second, .val (.long lq), .second, .val (.ref b220), .val (.ref b235), .val (.ref b252), .val (.ref b271), .val (.long ((lq - fq) + (1 : Int64))), .second, .val (.long ((mq - fq) + (1 : Int64))), .second, .val (.long ((lq - (mq + (1 : Int64))) + (1 : Int64))), .second, .unset, .unset] []))
      refine go _ _ (fun t' k' => XS.aload X305h.here hx rfl (hb hby at_246) rfl rfl  k') ?_
      show G (T305.setTop (mkF m 248 #[.val (.int u0), .val (.long q1), .second, .val (.long q2), .second, .val (.long q3), .second, .val (.long q4), .second, .val (.int u5), .val (.ref a194), .val (.ref a195), .val (.int (1 : Int32)), .val (.int p13), .val (.long (q2 ^^^ q4)), .second, .val (.long fq), .second, .val (.long mq), .second, .val (.long lq), .second, .val (.ref b220), .val (.ref b235), .val (.ref b252), .val (.ref b271), .val (.long ((lq - fq) + (1 : Int64))), .second, .val (.long ((mq - fq) + (1 : Int64))), .second, .val (.long ((lq - (mq + (1 : Int64))) + (1 : Int64))), .second, .unset, .unset] [(.ref b271)]))
      have f308 := (A271.keep K288)
      refine own_virtual go X305h hx hZ hh305 hown (hw _ (List.mem_of_getElem? (i := 62) rfl)) (hw _ (List.mem_of_getElem? (i := 63) rfl)) (notFace_of_selects (args := #[]) (mvT hZ (hw _ (List.mem_of_getElem? (i := 65) rfl)))) (hw _ (List.mem_of_getElem? (i := 65) rfl)) (hw _ (List.mem_of_getElem? (i := 64) rfl)) (hw _ (List.mem_of_getElem? (i := 36) rfl)) (hw _ (List.mem_of_getElem? (i := 66) rfl)) (by decide) (rm8 l Z a0 hw b271 (1 : Int32) mq mq T288.heap n0 Z291 Fa288 Fb288 Fc288) 0 (by decide) (by decide) (by decide) (by decide) f308 (g := (mkF m 248 #[.val (.int u0), .val (.long q1), .second, .val (.long q2), .second, .val (.long q3), .second, .val (.long q4), .second, .val (.int u5), .val (.ref a194), .val (.ref a195), .val (.int (1 : Int32)), .val (.int p13), .val (.long (q2 ^^^ q4)), .second, .val (.long fq), .second, .val (.long mq), .second, .val (.long lq), .second, .val (.ref b220), .val (.ref b235), .val (.ref b252), .val (.ref b271), .val (.long ((lq - fq) + (1 : Int64))), .second, .val (.long ((mq - fq) + (1 : Int64))), .second, .val (.long ((lq - (mq + (1 : Int64))) + (1 : Int64))), .second, .unset, .unset] [(.ref b271)])) rfl (by rw [hml]; rfl) [] [] rfl (lenOf pd_7 rfl) rfl (by show 2 * 0 + _ ≤ _; exact Nat.le_of_eq rfl) (hb hby at_248) ?_
      intro T307 L307 v307 X307 q307
      obtain ⟨rfl, N307, hh307⟩ := q307
      obtain ⟨lc307, X307h, N307h⟩ := own_hide X307 (Fr.app N305h N307)
      show G (T307.setTop (mkF m 251 #[.val (.int u0), .val (.long q1), .second, .val (.long q2), .second, .val (.long q3), .second, .val (.long q4), .second, .val (.int u5), .val (.ref a194), .val (.ref a195), .val (.int (1 : Int32)), .val (.int p13), .val (.long (q2 ^^^ q4)), .second, .val (.long fq), .second, .val (.long mq), .second, .val (.long lq), .second, .val (.ref b220), .val (.ref b235), .val (.ref b252), .val (.ref b271), .val (.long ((lq - fq) + (1 : Int64))), .second, .val (.long ((mq - fq) + (1 : Int64))), .second, .val (.long ((lq - (mq + (1 : Int64))) + (1 : Int64))), .second, .unset, .unset] [(.long ((mq - mq) + (1 : Int64)))]))
      refine go _ _ (fun t' k' => XS.lstore X307h.here hx rfl (hb hby at_251) rfl (l' := #[.val (.int u0), .val (.long q1), .second, .val (.long q2), .second, .val (.long q3), .second, .val (.long q4), .second, .val (.int u5), .val (.ref a194), .val (.ref a195), .val (.int (1 : Int32)), .val (.int p13), .val (.long (q2 ^^^ q4)), .second, .val (.long fq), .second, .val (.long mq), .second, .val (.long lq), .second, .val (.ref b220), .val (.ref b235), .val (.ref b252), .val (.ref b271), .val (.long ((lq - fq) + (1 : Int64))), .second, .val (.long ((mq - fq) + (1 : Int64))), .second, .val (.long ((lq - (mq + (1 : Int64))) + (1 : Int64))), .second, .val (.long ((mq - mq) + (1 : Int64))), .second]) rfl k') ?_
      show G (T307.setTop (mkF m 253 #[.val (.int u0), .val (.long q1), .second, .val (.long q2), .second, .val (.long q3), .second, .val (.long q4), .second, .val (.int u5), .val (.ref a194), .val (.ref a195), .val (.int (1 : Int32)), .val (.int p13), .val (.long (q2 ^^^ q4)), .second, .val (.long fq), .second, .val (.long mq), .second, .val (.long lq), .second, .val (.ref b220), .val (.ref b235), .val (.ref b252), .val (.ref b271), .val (.long ((lq - fq) + (1 : Int64))), .second, .val (.long ((mq - fq) + (1 : Int64))), .second, .val (.long ((lq - (mq + (1 : Int64))) + (1 : Int64))), .second, .val (.long ((mq - mq) + (1 : Int64))), .second] []))
      refine go _ _ (fun t' k' => XS.lload X307h.here hx rfl (hb hby at_253) rfl  k') ?_
      show G (T307.setTop (mkF m 255 #[.val (.int u0), .val (.long q1), .second, .val (.long q2), .second, .val (.long q3), .second, .val (.long q4), .second, .val (.int u5), .val (.ref a194), .val (.ref a195), .val (.int (1 : Int32)), .val (.int p13), .val (.long (q2 ^^^ q4)), .second, .val (.long fq), .second, .val (.long mq), .second, .val (.long lq), .second, .val (.ref b220), .val (.ref b235), .val (.ref b252), .val (.ref b271), .val (.long ((lq - fq) + (1 : Int64))), .second, .val (.long ((mq - fq) + (1 : Int64))), .second, .val (.long ((lq - (mq + (1 : Int64))) + (1 : Int64))), .second, .val (.long ((mq - mq) + (1 : Int64))), .second] [(.long ((mq - mq) + (1 : Int64)))]))
      refine go _ _ (fun t' k' => XS.lconst X307h.here hx rfl (hb hby at_255) k') ?_
      show G (T307.setTop (mkF m 256 #[.val (.int u0), .val (.long q1), .second, .val (.long q2), .second, .val (.long q3), .second, .val (.long q4), .second, .val (.int u5), .val (.ref a194), .val (.ref a195), .val (.int (1 : Int32)), .val (.int p13), .val (.long (q2 ^^^ q4)), .second, .val (.long fq), .second, .val (.long mq), .second, .val (.long lq), .second, .val (.ref b220), .val (.ref b235), .val (.ref b252), .val (.ref b271), .val (.long ((lq - fq) + (1 : Int64))), .second, .val (.long ((mq - fq) + (1 : Int64))), .second, .val (.long ((lq - (mq + (1 : Int64))) + (1 : Int64))), .second, .val (.long ((mq - mq) + (1 : Int64))), .second] [(.long (1 : Int64)), (.long ((mq - mq) + (1 : Int64)))]))
      refine go _ _ (fun t' k' => Free.XT.lcmp X307h.here hx rfl (hb hby at_256) rfl k') ?_
      show G (T307.setTop (mkF m 257 #[.val (.int u0), .val (.long q1), .second, .val (.long q2), .second, .val (.long q3), .second, .val (.long q4), .second, .val (.int u5), .val (.ref a194), .val (.ref a195), .val (.int (1 : Int32)), .val (.int p13), .val (.long (q2 ^^^ q4)), .second, .val (.long fq), .second, .val (.long mq), .second, .val (.long lq), .second, .val (.ref b220), .val (.ref b235), .val (.ref b252), .val (.ref b271), .val (.long ((lq - fq) + (1 : Int64))), .second, .val (.long ((mq - fq) + (1 : Int64))), .second, .val (.long ((lq - (mq + (1 : Int64))) + (1 : Int64))), .second, .val (.long ((mq - mq) + (1 : Int64))), .second] [(.int (Free.XT.cmpL ((mq - mq) + (1 : Int64)) (1 : Int64)))]))
      refine go _ _ (fun t' k' => XS.ifNo X307h.here hx rfl (hb hby at_257) rfl (Free.XT.ll_ne_f m1) k') ?_
      show G (T307.setTop (mkF m 260 #[.val (.int u0), .val (.long q1), .second, .val (.long q2), .second, .val (.long q3), .second, .val (.long q4), .second, .val (.int u5), .val (.ref a194), .val (.ref a195), .val (.int (1 : Int32)), .val (.int p13), .val (.long (q2 ^^^ q4)), .second, .val (.long fq), .second, .val (.long mq), .second, .val (.long lq), .second, .val (.ref b220), .val (.ref b235), .val (.ref b252), .val (.ref b271), .val (.long ((lq - fq) + (1 : Int64))), .second, .val (.long ((mq - fq) + (1 : Int64))), .second, .val (.long ((lq - (mq + (1 : Int64))) + (1 : Int64))), .second, .val (.long ((mq - mq) + (1 : Int64))), .second] []))
      refine go _ _ (fun t' k' => XS.lload X307h.here hx rfl (hb hby at_260) rfl  k') ?_
      show G (T307.setTop (mkF m 262 #[.val (.int u0), .val (.long q1), .second, .val (.long q2), .second, .val (.long q3), .second, .val (.long q4), .second, .val (.int u5), .val (.ref a194), .val (.ref a195), .val (.int (1 : Int32)), .val (.int p13), .val (.long (q2 ^^^ q4)), .second, .val (.long fq), .second, .val (.long mq), .second, .val (.long lq), .second, .val (.ref b220), .val (.ref b235), .val (.ref b252), .val (.ref b271), .val (.long ((lq - fq) + (1 : Int64))), .second, .val (.long ((mq - fq) + (1 : Int64))), .second, .val (.long ((lq - (mq + (1 : Int64))) + (1 : Int64))), .second, .val (.long ((mq - mq) + (1 : Int64))), .second] [(.long ((mq - fq) + (1 : Int64)))]))
      refine go _ _ (fun t' k' => XS.lconst X307h.here hx rfl (hb hby at_262) k') ?_
      show G (T307.setTop (mkF m 263 #[.val (.int u0), .val (.long q1), .second, .val (.long q2), .second, .val (.long q3), .second, .val (.long q4), .second, .val (.int u5), .val (.ref a194), .val (.ref a195), .val (.int (1 : Int32)), .val (.int p13), .val (.long (q2 ^^^ q4)), .second, .val (.long fq), .second, .val (.long mq), .second, .val (.long lq), .second, .val (.ref b220), .val (.ref b235), .val (.ref b252), .val (.ref b271), .val (.long ((lq - fq) + (1 : Int64))), .second, .val (.long ((mq - fq) + (1 : Int64))), .second, .val (.long ((lq - (mq + (1 : Int64))) + (1 : Int64))), .second, .val (.long ((mq - mq) + (1 : Int64))), .second] [(.long (1 : Int64)), (.long ((mq - fq) + (1 : Int64)))]))
      refine go _ _ (fun t' k' => Free.XT.lcmp X307h.here hx rfl (hb hby at_263) rfl k') ?_
      show G (T307.setTop (mkF m 264 #[.val (.int u0), .val (.long q1), .second, .val (.long q2), .second, .val (.long q3), .second, .val (.long q4), .second, .val (.int u5), .val (.ref a194), .val (.ref a195), .val (.int (1 : Int32)), .val (.int p13), .val (.long (q2 ^^^ q4)), .second, .val (.long fq), .second, .val (.long mq), .second, .val (.long lq), .second, .val (.ref b220), .val (.ref b235), .val (.ref b252), .val (.ref b271), .val (.long ((lq - fq) + (1 : Int64))), .second, .val (.long ((mq - fq) + (1 : Int64))), .second, .val (.long ((lq - (mq + (1 : Int64))) + (1 : Int64))), .second, .val (.long ((mq - mq) + (1 : Int64))), .second] [(.int (Free.XT.cmpL ((mq - fq) + (1 : Int64)) (1 : Int64)))]))
      refine go _ _ (fun t' k' => XS.ifNo X307h.here hx rfl (hb hby at_264) rfl (Free.XT.ll_lt_f m2) k') ?_
      show G (T307.setTop (mkF m 267 #[.val (.int u0), .val (.long q1), .second, .val (.long q2), .second, .val (.long q3), .second, .val (.long q4), .second, .val (.int u5), .val (.ref a194), .val (.ref a195), .val (.int (1 : Int32)), .val (.int p13), .val (.long (q2 ^^^ q4)), .second, .val (.long fq), .second, .val (.long mq), .second, .val (.long lq), .second, .val (.ref b220), .val (.ref b235), .val (.ref b252), .val (.ref b271), .val (.long ((lq - fq) + (1 : Int64))), .second, .val (.long ((mq - fq) + (1 : Int64))), .second, .val (.long ((lq - (mq + (1 : Int64))) + (1 : Int64))), .second, .val (.long ((mq - mq) + (1 : Int64))), .second] []))
      refine go _ _ (fun t' k' => XS.lload X307h.here hx rfl (hb hby at_267) rfl  k') ?_
      show G (T307.setTop (mkF m 269 #[.val (.int u0), .val (.long q1), .second, .val (.long q2), .second, .val (.long q3), .second, .val (.long q4), .second, .val (.int u5), .val (.ref a194), .val (.ref a195), .val (.int (1 : Int32)), .val (.int p13), .val (.long (q2 ^^^ q4)), .second, .val (.long fq), .second, .val (.long mq), .second, .val (.long lq), .second, .val (.ref b220), .val (.ref b235), .val (.ref b252), .val (.ref b271), .val (.long ((lq - fq) + (1 : Int64))), .second, .val (.long ((mq - fq) + (1 : Int64))), .second, .val (.long ((lq - (mq + (1 : Int64))) + (1 : Int64))), .second, .val (.long ((mq - mq) + (1 : Int64))), .second] [(.long ((lq - (mq + (1 : Int64))) + (1 : Int64)))]))
      refine go _ _ (fun t' k' => XS.lconst X307h.here hx rfl (hb hby at_269) k') ?_
      show G (T307.setTop (mkF m 270 #[.val (.int u0), .val (.long q1), .second, .val (.long q2), .second, .val (.long q3), .second, .val (.long q4), .second, .val (.int u5), .val (.ref a194), .val (.ref a195), .val (.int (1 : Int32)), .val (.int p13), .val (.long (q2 ^^^ q4)), .second, .val (.long fq), .second, .val (.long mq), .second, .val (.long lq), .second, .val (.ref b220), .val (.ref b235), .val (.ref b252), .val (.ref b271), .val (.long ((lq - fq) + (1 : Int64))), .second, .val (.long ((mq - fq) + (1 : Int64))), .second, .val (.long ((lq - (mq + (1 : Int64))) + (1 : Int64))), .second, .val (.long ((mq - mq) + (1 : Int64))), .second] [(.long (1 : Int64)), (.long ((lq - (mq + (1 : Int64))) + (1 : Int64)))]))
      refine go _ _ (fun t' k' => Free.XT.lcmp X307h.here hx rfl (hb hby at_270) rfl k') ?_
      show G (T307.setTop (mkF m 271 #[.val (.int u0), .val (.long q1), .second, .val (.long q2), .second, .val (.long q3), .second, .val (.long q4), .second, .val (.int u5), .val (.ref a194), .val (.ref a195), .val (.int (1 : Int32)), .val (.int p13), .val (.long (q2 ^^^ q4)), .second, .val (.long fq), .second, .val (.long mq), .second, .val (.long lq), .second, .val (.ref b220), .val (.ref b235), .val (.ref b252), .val (.ref b271), .val (.long ((lq - fq) + (1 : Int64))), .second, .val (.long ((mq - fq) + (1 : Int64))), .second, .val (.long ((lq - (mq + (1 : Int64))) + (1 : Int64))), .second, .val (.long ((mq - mq) + (1 : Int64))), .second] [(.int (Free.XT.cmpL ((lq - (mq + (1 : Int64))) + (1 : Int64)) (1 : Int64)))]))
      refine go _ _ (fun t' k' => XS.ifNo X307h.here hx rfl (hb hby at_271) rfl (Free.XT.ll_lt_f m3) k') ?_
      show G (T307.setTop (mkF m 274 #[.val (.int u0), .val (.long q1), .second, .val (.long q2), .second, .val (.long q3), .second, .val (.long q4), .second, .val (.int u5), .val (.ref a194), .val (.ref a195), .val (.int (1 : Int32)), .val (.int p13), .val (.long (q2 ^^^ q4)), .second, .val (.long fq), .second, .val (.long mq), .second, .val (.long lq), .second, .val (.ref b220), .val (.ref b235), .val (.ref b252), .val (.ref b271), .val (.long ((lq - fq) + (1 : Int64))), .second, .val (.long ((mq - fq) + (1 : Int64))), .second, .val (.long ((lq - (mq + (1 : Int64))) + (1 : Int64))), .second, .val (.long ((mq - mq) + (1 : Int64))), .second] []))
      refine go _ _ (fun t' k' => XS.lload X307h.here hx rfl (hb hby at_274) rfl  k') ?_
      show G (T307.setTop (mkF m 276 #[.val (.int u0), .val (.long q1), .second, .val (.long q2), .second, .val (.long q3), .second, .val (.long q4), .second, .val (.int u5), .val (.ref a194), .val (.ref a195), .val (.int (1 : Int32)), .val (.int p13), .val (.long (q2 ^^^ q4)), .second, .val (.long fq), .second, .val (.long mq), .second, .val (.long lq), .second, .val (.ref b220), .val (.ref b235), .val (.ref b252), .val (.ref b271), .val (.long ((lq - fq) + (1 : Int64))), .second, .val (.long ((mq - fq) + (1 : Int64))), .second, .val (.long ((lq - (mq + (1 : Int64))) + (1 : Int64))), .second, .val (.long ((mq - mq) + (1 : Int64))), .second] [(.long ((mq - fq) + (1 : Int64)))]))
      refine go _ _ (fun t' k' => XS.lload X307h.here hx rfl (hb hby at_276) rfl  k') ?_
      show G (T307.setTop (mkF m 278 #[.val (.int u0), .val (.long q1), .second, .val (.long q2), .second, .val (.long q3), .second, .val (.long q4), .second, .val (.int u5), .val (.ref a194), .val (.ref a195), .val (.int (1 : Int32)), .val (.int p13), .val (.long (q2 ^^^ q4)), .second, .val (.long fq), .second, .val (.long mq), .second, .val (.long lq), .second, .val (.ref b220), .val (.ref b235), .val (.ref b252), .val (.ref b271), .val (.long ((lq - fq) + (1 : Int64))), .second, .val (.long ((mq - fq) + (1 : Int64))), .second, .val (.long ((lq - (mq + (1 : Int64))) + (1 : Int64))), .second, .val (.long ((mq - mq) + (1 : Int64))), .second] [(.long ((lq - (mq + (1 : Int64))) + (1 : Int64))), (.long ((mq - fq) + (1 : Int64)))]))
      refine go _ _ (fun t' k' => XS.ladd X307h.here hx rfl (hb hby at_278) rfl k') ?_
      show G (T307.setTop (mkF m 279 #[.val (.int u0), .val (.long q1), .second, .val (.long q2), .second, .val (.long q3), .second, .val (.long q4), .second, .val (.int u5), .val (.ref a194), .val (.ref a195), .val (.int (1 : Int32)), .val (.int p13), .val (.long (q2 ^^^ q4)), .second, .val (.long fq), .second, .val (.long mq), .second, .val (.long lq), .second, .val (.ref b220), .val (.ref b235), .val (.ref b252), .val (.ref b271), .val (.long ((lq - fq) + (1 : Int64))), .second, .val (.long ((mq - fq) + (1 : Int64))), .second, .val (.long ((lq - (mq + (1 : Int64))) + (1 : Int64))), .second, .val (.long ((mq - mq) + (1 : Int64))), .second] [(.long (((mq - fq) + (1 : Int64)) + ((lq - (mq + (1 : Int64))) + (1 : Int64))))]))
      refine go _ _ (fun t' k' => XS.lload X307h.here hx rfl (hb hby at_279) rfl  k') ?_
      show G (T307.setTop (mkF m 281 #[.val (.int u0), .val (.long q1), .second, .val (.long q2), .second, .val (.long q3), .second, .val (.long q4), .second, .val (.int u5), .val (.ref a194), .val (.ref a195), .val (.int (1 : Int32)), .val (.int p13), .val (.long (q2 ^^^ q4)), .second, .val (.long fq), .second, .val (.long mq), .second, .val (.long lq), .second, .val (.ref b220), .val (.ref b235), .val (.ref b252), .val (.ref b271), .val (.long ((lq - fq) + (1 : Int64))), .second, .val (.long ((mq - fq) + (1 : Int64))), .second, .val (.long ((lq - (mq + (1 : Int64))) + (1 : Int64))), .second, .val (.long ((mq - mq) + (1 : Int64))), .second] [(.long ((lq - fq) + (1 : Int64))), (.long (((mq - fq) + (1 : Int64)) + ((lq - (mq + (1 : Int64))) + (1 : Int64))))]))
      refine go _ _ (fun t' k' => Free.XT.lcmp X307h.here hx rfl (hb hby at_281) rfl k') ?_
      show G (T307.setTop (mkF m 282 #[.val (.int u0), .val (.long q1), .second, .val (.long q2), .second, .val (.long q3), .second, .val (.long q4), .second, .val (.int u5), .val (.ref a194), .val (.ref a195), .val (.int (1 : Int32)), .val (.int p13), .val (.long (q2 ^^^ q4)), .second, .val (.long fq), .second, .val (.long mq), .second, .val (.long lq), .second, .val (.ref b220), .val (.ref b235), .val (.ref b252), .val (.ref b271), .val (.long ((lq - fq) + (1 : Int64))), .second, .val (.long ((mq - fq) + (1 : Int64))), .second, .val (.long ((lq - (mq + (1 : Int64))) + (1 : Int64))), .second, .val (.long ((mq - mq) + (1 : Int64))), .second] [(.int (Free.XT.cmpL (((mq - fq) + (1 : Int64)) + ((lq - (mq + (1 : Int64))) + (1 : Int64))) ((lq - fq) + (1 : Int64))))]))
      refine go _ _ (fun t' k' => XS.ifNo X307h.here hx rfl (hb hby at_282) rfl (Free.XT.ll_ne_f m4) k') ?_
      show G (T307.setTop (mkF m 285 #[.val (.int u0), .val (.long q1), .second, .val (.long q2), .second, .val (.long q3), .second, .val (.long q4), .second, .val (.int u5), .val (.ref a194), .val (.ref a195), .val (.int (1 : Int32)), .val (.int p13), .val (.long (q2 ^^^ q4)), .second, .val (.long fq), .second, .val (.long mq), .second, .val (.long lq), .second, .val (.ref b220), .val (.ref b235), .val (.ref b252), .val (.ref b271), .val (.long ((lq - fq) + (1 : Int64))), .second, .val (.long ((mq - fq) + (1 : Int64))), .second, .val (.long ((lq - (mq + (1 : Int64))) + (1 : Int64))), .second, .val (.long ((mq - mq) + (1 : Int64))), .second] []))
      refine go _ _ (fun t' k' => XS.iconst X307h.here hx rfl (hb hby at_285) k') ?_
      show G (T307.setTop (mkF m 286 #[.val (.int u0), .val (.long q1), .second, .val (.long q2), .second, .val (.long q3), .second, .val (.long q4), .second, .val (.int u5), .val (.ref a194), .val (.ref a195), .val (.int (1 : Int32)), .val (.int p13), .val (.long (q2 ^^^ q4)), .second, .val (.long fq), .second, .val (.long mq), .second, .val (.long lq), .second, .val (.ref b220), .val (.ref b235), .val (.ref b252), .val (.ref b271), .val (.long ((lq - fq) + (1 : Int64))), .second, .val (.long ((mq - fq) + (1 : Int64))), .second, .val (.long ((lq - (mq + (1 : Int64))) + (1 : Int64))), .second, .val (.long ((mq - mq) + (1 : Int64))), .second] [(.int (1 : Int32))]))
      refine go _ _ (fun t' k' => XS.goto X307h.here hx rfl (pc0 := 286) (pc' := 290) rfl (hb hby at_286) (by decide) (by decide) k') ?_
      show G (T307.setTop (mkF m 290 #[.val (.int u0), .val (.long q1), .second, .val (.long q2), .second, .val (.long q3), .second, .val (.long q4), .second, .val (.int u5), .val (.ref a194), .val (.ref a195), .val (.int (1 : Int32)), .val (.int p13), .val (.long (q2 ^^^ q4)), .second, .val (.long fq), .second, .val (.long mq), .second, .val (.long lq), .second, .val (.ref b220), .val (.ref b235), .val (.ref b252), .val (.ref b271), .val (.long ((lq - fq) + (1 : Int64))), .second, .val (.long ((mq - fq) + (1 : Int64))), .second, .val (.long ((lq - (mq + (1 : Int64))) + (1 : Int64))), .second, .val (.long ((mq - mq) + (1 : Int64))), .second] [(.int (1 : Int32))]))
      refine own_retZ rt X307h hx (t := .boolean) hret (by simp) (hb hby at_290) (by decide) (by decide) ?_
      exact ⟨rfl, N307h⟩
    by_cases c309 : (u5 &&& (2 : Int32)) = (0 : Int32)
    · refine go _ _ (fun t' k' => XS.ifYes X195h.here hx rfl (pc0 := 39) (pc' := 46) rfl (hb hby at_39) rfl (Free.XT.i0_eq_t c309) (by decide) (by decide) k') ?_
      show G (T195.setTop (mkF m 46 #[.val (.int u0), .val (.long q1), .second, .val (.long q2), .second, .val (.long q3), .second, .val (.long q4), .second, .val (.int u5), .val (.ref a194), .val (.ref a195), .val (.int (1 : Int32)), .unset, .unset, .unset, .unset, .unset, .unset, .unset, .unset, .unset, .unset, .unset, .unset, .unset, .unset, .unset, .unset, .unset, .unset, .unset, .unset, .unset] []))
      refine go _ _ (fun t' k' => XS.iconst X195h.here hx rfl (hb hby at_46) k') ?_
      show G (T195.setTop (mkF m 47 #[.val (.int u0), .val (.long q1), .second, .val (.long q2), .second, .val (.long q3), .second, .val (.long q4), .second, .val (.int u5), .val (.ref a194), .val (.ref a195), .val (.int (1 : Int32)), .unset, .unset, .unset, .unset, .unset, .unset, .unset, .unset, .unset, .unset, .unset, .unset, .unset, .unset, .unset, .unset, .unset, .unset, .unset, .unset, .unset] [(.int (0 : Int32))]))
      exact J47 T195 _ X195h rfl N195h _ 
    · refine go _ _ (fun t' k' => XS.ifNo X195h.here hx rfl (hb hby at_39) rfl (Free.XT.i0_eq_f c309) k') ?_
      show G (T195.setTop (mkF m 42 #[.val (.int u0), .val (.long q1), .second, .val (.long q2), .second, .val (.long q3), .second, .val (.long q4), .second, .val (.int u5), .val (.ref a194), .val (.ref a195), .val (.int (1 : Int32)), .unset, .unset, .unset, .unset, .unset, .unset, .unset, .unset, .unset, .unset, .unset, .unset, .unset, .unset, .unset, .unset, .unset, .unset, .unset, .unset, .unset] []))
      refine go _ _ (fun t' k' => XS.iconst X195h.here hx rfl (hb hby at_42) k') ?_
      show G (T195.setTop (mkF m 43 #[.val (.int u0), .val (.long q1), .second, .val (.long q2), .second, .val (.long q3), .second, .val (.long q4), .second, .val (.int u5), .val (.ref a194), .val (.ref a195), .val (.int (1 : Int32)), .unset, .unset, .unset, .unset, .unset, .unset, .unset, .unset, .unset, .unset, .unset, .unset, .unset, .unset, .unset, .unset, .unset, .unset, .unset, .unset, .unset] [(.int (1 : Int32))]))
      refine go _ _ (fun t' k' => XS.goto X195h.here hx rfl (pc0 := 43) (pc' := 47) rfl (hb hby at_43) (by decide) (by decide) k') ?_
      show G (T195.setTop (mkF m 47 #[.val (.int u0), .val (.long q1), .second, .val (.long q2), .second, .val (.long q3), .second, .val (.long q4), .second, .val (.int u5), .val (.ref a194), .val (.ref a195), .val (.int (1 : Int32)), .unset, .unset, .unset, .unset, .unset, .unset, .unset, .unset, .unset, .unset, .unset, .unset, .unset, .unset, .unset, .unset, .unset, .unset, .unset, .unset, .unset] [(.int (1 : Int32))]))
      exact J47 T195 _ X195h rfl N195h _ 
set_option maxRecDepth 65536 in
set_option maxHeartbeats 40000000 in
theorem comes_1 {Post : Tables → Env → Array Value → State → Outcome → State → Prop} (hpost : ∀ tb e args s v u, (limb_1_1.after args s (.returned v) u = true ∧ limb_1_2.after args s (.returned v) u = true ∧ True) → FrameEnd s (.returned v) u (Jvm.fieldLocs frame_1_writes args s ++ Jvm.arrayLocs frame_1_arrays args s ++ Jvm.staticLocs frame_1_statics s) 24 192 → Post tb e args s (.returned v) u) :
    ArmFor flags0 classFile x code maxLocals ret World_1 tables_1 room_1 Calls_1 rest_1 Pre_1 Post := by
  intro l hfl _ _ p e ha hc hk s m args below hf hA hF happ hP
  obtain ⟨hcalls, hrest, hpre⟩ := hP
  obtain ⟨-, -, -, hnamed, -, -, -, hat⟩ := (Spec.applies_iff hf).mp happ
  obtain ⟨hg, hn⟩ := and_e (Cond.before_iff.mp (show (Jvm.Cond.and given_1 narrow_1).before args s = true from hpre))
  obtain ⟨k0, hg0⟩ := and_e hg
  obtain ⟨ka0, hg1⟩ := and_e hg0
  obtain ⟨ka1, hg2⟩ := and_e hg1
  obtain ⟨ka2, hg3⟩ := and_e hg2
  obtain ⟨ka3, hg4⟩ := and_e hg3
  obtain ⟨ka4, hg5⟩ := and_e hg4
  have ka5 := hg5
  obtain ⟨w0, w1, w2, w3, w4, w5, rfl⟩ : ∃ w0 w1 w2 w3 w4 w5 : Value, args = #[w0, w1, w2, w3, w4, w5] := by
    have hs : args.size = 6 := by simpa [Cond.value, given_1] using k0
    obtain ⟨L⟩ := args
    match L, hs with
    | [w0, w1, w2, w3, w4, w5], _ => exact ⟨w0, w1, w2, w3, w4, w5, rfl⟩
  have hw := fun d (hd : d ∈ tables_1) => atoms_spec (ws := Jvm.Cond.code x code maxLocals ret :: tables_1) hat d (List.mem_cons_of_mem _ hd)
  obtain ⟨hsets, hown0⟩ := atoms_of _ (rest_1_c_eq ▸ (show rest_1_c.before _ s = true from hrest))
  have hfit : Fit s := fun {y c} hc i hi => by
    obtain ⟨ha, rfl⟩ := Array.getElem?_eq_some_iff.mp hc
    have q := List.all_eq_true.mp ((Array.all_eq_true_iff_forall_mem.mp hF) _ (Array.getElem_mem ha)) i (List.mem_range.mpr hi)
    simpa [Array.getElem?_eq_getElem hi] using q
  obtain ⟨i0, ie0⟩ := is_v ka0
  obtain rfl : w0 = (.int i0) := Option.some.inj ie0
  obtain ⟨i1, ie1⟩ := isL_v ka1
  obtain rfl : w1 = (.long i1) := Option.some.inj ie1
  obtain ⟨i2, ie2⟩ := isL_v ka2
  obtain rfl : w2 = (.long i2) := Option.some.inj ie2
  obtain ⟨i3, ie3⟩ := isL_v ka3
  obtain rfl : w3 = (.long i3) := Option.some.inj ie3
  obtain ⟨i4, ie4⟩ := isL_v ka4
  obtain rfl : w4 = (.long i4) := Option.some.inj ie4
  obtain ⟨i5, ie5⟩ := is_v ka5
  obtain rfl : w5 = (.int i5) := Option.some.inj ie5
  obtain ⟨na0, nb0⟩ := and_e hn
  obtain ⟨na1, nb1⟩ := and_e nb0
  obtain ⟨na2, nb2⟩ := and_e nb1
  obtain ⟨na3, nb3⟩ := and_e nb2
  obtain ⟨na4, nb4⟩ := and_e nb3
  obtain ⟨na5, nb5⟩ := and_e nb4
  have na6 := nb5
  obtain ⟨r0, S0, E0, ev0⟩ := own_sta na0 ((hw _ (List.mem_of_getElem? (i := 6) rfl))) ((hw _ (List.mem_of_getElem? (i := 7) rfl)))
  obtain ⟨r1, S1, E1, ev1⟩ := own_sta na3 ((hw _ (List.mem_of_getElem? (i := 6) rfl))) ((hw _ (List.mem_of_getElem? (i := 73) rfl)))
  obtain ⟨r2, S2, E2, ev2⟩ := own_sta na1 ((hw _ (List.mem_of_getElem? (i := 6) rfl))) ((hw _ (List.mem_of_getElem? (i := 68) rfl)))
  obtain ⟨r3, S3, E3, ev3⟩ := own_sta na4 ((hw _ (List.mem_of_getElem? (i := 6) rfl))) ((hw _ (List.mem_of_getElem? (i := 75) rfl)))
  obtain ⟨r4, S4, E4, ev4⟩ := own_sta na5 ((hw _ (List.mem_of_getElem? (i := 6) rfl))) ((hw _ (List.mem_of_getElem? (i := 77) rfl)))
  obtain ⟨r5, S5, E5, ev5⟩ := own_sta na6 ((hw _ (List.mem_of_getElem? (i := 6) rfl))) ((hw _ (List.mem_of_getElem? (i := 79) rfl)))
  obtain ⟨r6, S6, E6, ev6⟩ := own_sta na2 ((hw _ (List.mem_of_getElem? (i := 6) rfl))) ((hw _ (List.mem_of_getElem? (i := 71) rfl)))
  obtain ⟨cs, ecs⟩ := is_v (Cond.before_iff.mp (hsets _ (List.mem_of_getElem? (i := 1) rfl)))
  have Sc := Sta.start ecs (Or.inl (hsets _ (List.mem_of_getElem? (i := 0) rfl)))
  have hcs : ¬ (cs = (0 : Int32)) := gotF (Cond.eq_ints ecs (Term.int_eval (0))) (not_v (Cond.before_iff.mp (hsets _ (List.mem_of_getElem? (i := 2) rfl))))
  obtain ⟨n, o, h1, h2, h3, _, L, rfl, ⟨rfl, N⟩, hq⟩ := rm0 l s _ hw i0 i1 i2 i3 i4 i5 s.heap s.heap.size (Nat.le_refl _) r0 r1 r2 r3 r4 r5 r6 cs S0 S1 S2 S3 S4 S5 S6 Sc hcs tables_1 p e ha hc hk s m _ below hf ((Spec.applies_iff_loose hf).mp happ).1 ⟨rfl, State.Warmed39.refl s, rfl⟩ trivial
  refine ⟨n, _, h1, h2, h3, hpost _ _ _ _ _ _ ⟨Cond.after_iff.mpr rfl, Cond.after_iff.mpr (eq_i res_at (Term.int_eval (1)) rfl), trivial⟩ ⟨hq.1, hq.2.1, (hq.2.2.sift fun y hy => Or.inr (N y hy)).mono (by decide) (by decide)⟩⟩
theorem main_1_1 : Claimed_1_1 := comes_1 fun _ _ _ _ _ _ h hF => ⟨h.1, hF⟩
theorem main_1_2 : Claimed_1_2 := comes_1 fun _ _ _ _ _ _ h hF => ⟨h.2.1, hF⟩
end Jvm.Pilot.@@N@@
namespace Jvm.Pilot.@@N@@
open Jvm Jvm.ClassFile Sem Op Lib Jvm.Free Jvm.Stand Jvm.Pilot.@@N@@.Jvm.D
/-! MADE BY PROGRAM (witnessworld.py) out of the Statement's table words and the real class files: 20 classes; the members and pool entries that the words name. The judged class is class 1, her method 2. -/
namespace start1
open Jvm.ClassFile
def u (s : String) : CpInfo := .utf8 (stringToUtf16 s)
/-- a pool by its gaps: so many unusable entries, then the entry; so many at the end -/
def gap : Nat → List CpInfo → List CpInfo
  | 0, r => r
  | n + 1, r => .unusable :: gap n r
def poolList (es : List (Nat × CpInfo)) (last : Nat) : List CpInfo := es.foldr (fun e r => gap e.1 (e.2 :: r)) (gap last [])
def pool (es : List (Nat × CpInfo)) (last : Nat) : Array CpInfo := ⟨poolList es last⟩
def fileOf (pool : Array CpInfo) (this : Nat) (attrs : Array Attribute := #[]) (ms : Array MethodInfo := #[]) (fl : Nat := 33) (sup : Nat := 0) (ifs : Array Nat := #[]) (fds : Array FieldInfo := #[]) : ClassFile where
  minorVersion := 0
  majorVersion := 65
  constantPool := pool
  accessFlags := fl
  thisClass := this
  superClass := sup
  interfaces := ifs
  fields := fds
  methods := ms
  attributes := attrs
def plain (name : String) (sup : Option ClassId) : Class where
  name := name
  kind := .ordinary
  loader := none
  accessFlags := 33
  super := sup
  interfaces := #[]
  cf := none
  fields := #[]
  methods := #[]
  instanceTypes := #[]
  staticTypes := #[]
  resolved := #[]
  callSites := []
  init := .initialized
  statics := none
  mirror := none

def pool0 : Array CpInfo := pool [(5, u "<init>"), (0, u "()V"), (1, .class_ 10), (1, u "java/lang/Object")] 113

def k0c0 : Code := { maxStack := 0, maxLocals := 1, code := object_method_1_code, exceptionTable := #[], attributes := #[] }
def k0m0 : Method := { name := "<init>", desc := "()V", sig := { parameters := [], returnType := none }, accessFlags := 1, code := some k0c0 }
/-- java/lang/Object -/
def k0 : Class := { plain "java/lang/Object" none with
  accessFlags := 33
  interfaces := #[]
  cf := some (fileOf pool0 8 #[] #[{ accessFlags := 1, nameIndex := 5, descriptorIndex := 6, attributes := #[] }] 33 0 #[] #[])
  fields := #[]
  methods := #[k0m0]
  instanceTypes := #[]
  staticTypes := #[]
  resolved := Array.replicate 124 none
  statics := none }

def pool1 : Array CpInfo := pool [(2, .class_ 4), (1, u "java/lang/Object"), (0, u "<init>"), (0, u "()V"), (0, .integer 2147483647), (0, .fieldref 9 10), (0, .class_ 11), (0, .nameAndType 12 13), (0, u "com/example/lotwise/lotwise/plan/Pegging$Kind"), (0, u "ON_HAND"), (0, u "Lcom/example/lotwise/lotwise/plan/Pegging$Kind;"), (0, .fieldref 9 15), (0, .nameAndType 16 13), (0, u "RECEIPT"), (0, .fieldref 9 18), (0, .nameAndType 19 13), (0, u "FIRM_ORDER"), (0, .fieldref 9 21), (0, .nameAndType 22 13), (0, u "PLANNED_ORDER"), (0, .fieldref 9 24), (0, .nameAndType 25 13), (0, u "SHORT"), (0, .fieldref 9 27), (0, .nameAndType 28 13), (0, u "SAFETY_STOCK"), (0, .fieldref 9 30), (0, .nameAndType 31 13), (0, u "DEMAND"), (0, .methodref 33 34), (0, .class_ 35), (0, .nameAndType 36 37), (0, u "com/example/lotwise/lotwise/plan/RunCountPinLaw"), (0, u "kind"), (0, u "(I)Lcom/example/lotwise/lotwise/plan/Pegging$Kind;"), (0, .methodref 39 40), (0, .class_ 41), (0, .nameAndType 42 43), (0, u "java/lang/String"), (0, u "valueOf"), (0, u "(C)Ljava/lang/String;"), (0, .class_ 45), (0, u "com/example/lotwise/lotwise/plan/Pegging$Run"), (0, .methodref 44 47), (0, .nameAndType 5 48), (0, u "(Lcom/example/lotwise/lotwise/plan/Pegging$Kind;JLjava/lang/String;ZJJJZ)V"), (0, .methodref 44 50), (0, .nameAndType 51 52), (0, u "count"), (0, u "()J"), (0, .long 2305843009213693951), (1, u "MASK"), (0, u "J"), (4, u "law"), (0, u "(IJJJJI)Z")] 7

def k1m0 : Method := { name := "<init>", desc := "()V", sig := { parameters := [], returnType := none }, accessFlags := 2, code := none }
def k1c1 : Code := { maxStack := 2, maxLocals := 2, code := method_2_code, exceptionTable := #[], attributes := #[] }
def k1m1 : Method := { name := "kind", desc := "(I)Lcom/example/lotwise/lotwise/plan/Pegging$Kind;", sig := { parameters := [.int], returnType := some (.object "com/example/lotwise/lotwise/plan/Pegging$Kind") }, accessFlags := 10, code := some k1c1 }
def k1c2 : Code := { maxStack := 14, maxLocals := 34, code := code, exceptionTable := #[], attributes := #[] }
def k1m2 : Method := { name := "law", desc := "(IJJJJI)Z", sig := { parameters := [.int, .long, .long, .long, .long, .int], returnType := some .boolean }, accessFlags := 9, code := some k1c2 }
/-- com/example/lotwise/lotwise/plan/RunCountPinLaw -/
def k1 : Class := { plain "com/example/lotwise/lotwise/plan/RunCountPinLaw" (some 0) with
  accessFlags := 49
  interfaces := #[]
  cf := some (fileOf pool1 33 #[] #[{ accessFlags := 2, nameIndex := 5, descriptorIndex := 6, attributes := #[] }, { accessFlags := 10, nameIndex := 36, descriptorIndex := 37, attributes := #[] }, { accessFlags := 9, nameIndex := 61, descriptorIndex := 62, attributes := #[] }] 49 2 #[] #[{ accessFlags := 26, nameIndex := 55, descriptorIndex := 56, attributes := #[] }])
  fields := #[{ name := "MASK", type := .long, accessFlags := 26, slot := 0, constantValue := 0 }]
  methods := #[k1m0, k1m1, k1m2]
  instanceTypes := #[]
  staticTypes := #[.long]
  resolved := Array.replicate 70 none
  statics := none }

def pool2 : Array CpInfo := pool [(1, .class_ 2), (0, u "java/lang/constant/Constable"), (0, .class_ 4), (0, u "java/lang/Object")] 6

/-- java/lang/constant/Constable -/
def k2 : Class := { plain "java/lang/constant/Constable" (some 0) with
  accessFlags := 1537
  interfaces := #[]
  cf := some (fileOf pool2 1 #[] #[] 1537 3 #[] #[])
  fields := #[]
  methods := #[]
  instanceTypes := #[]
  staticTypes := #[]
  resolved := Array.replicate 11 none
  statics := none }

def pool3 : Array CpInfo := pool [(1, .class_ 2), (0, u "java/lang/Comparable"), (0, .class_ 4), (0, u "java/lang/Object")] 7

/-- java/lang/Comparable -/
def k3 : Class := { plain "java/lang/Comparable" (some 0) with
  accessFlags := 1537
  interfaces := #[]
  cf := some (fileOf pool3 1 #[] #[] 1537 3 #[] #[])
  fields := #[]
  methods := #[]
  instanceTypes := #[]
  staticTypes := #[]
  resolved := Array.replicate 12 none
  statics := none }

def pool4 : Array CpInfo := pool [(1, .class_ 2), (0, u "java/io/Serializable"), (0, .class_ 4), (0, u "java/lang/Object")] 2

/-- java/io/Serializable -/
def k4 : Class := { plain "java/io/Serializable" (some 0) with
  accessFlags := 1537
  interfaces := #[]
  cf := some (fileOf pool4 1 #[] #[] 1537 3 #[] #[])
  fields := #[]
  methods := #[]
  instanceTypes := #[]
  staticTypes := #[]
  resolved := Array.replicate 7 none
  statics := none }

def pool5 : Array CpInfo := pool [(2, .class_ 4), (1, u "java/lang/Enum"), (0, u "name"), (0, u "Ljava/lang/String;"), (2, u "ordinal"), (0, u "I"), (1, .class_ 14), (1, u "java/lang/Object"), (4, u "hash"), (86, .class_ 108), (1, u "java/lang/Enum$EnumDesc"), (2, .class_ 112), (0, u "java/lang/constant/Constable"), (0, .class_ 114), (0, u "java/lang/Comparable"), (0, .class_ 116), (0, u "java/io/Serializable")] 87

/-- java/lang/Enum -/
def k5 : Class := { plain "java/lang/Enum" (some 0) with
  accessFlags := 1057
  interfaces := #[2, 3, 4]
  cf := some (fileOf pool5 2 #[.nestMembers #[106]] #[] 1057 12 #[111, 113, 115] #[{ accessFlags := 18, nameIndex := 5, descriptorIndex := 6, attributes := #[] }, { accessFlags := 18, nameIndex := 9, descriptorIndex := 10, attributes := #[] }, { accessFlags := 2, nameIndex := 19, descriptorIndex := 10, attributes := #[] }])
  fields := #[{ name := "name", type := (.object "java/lang/String"), accessFlags := 18, slot := 0, constantValue := 0 }, { name := "ordinal", type := .int, accessFlags := 18, slot := 1, constantValue := 0 }, { name := "hash", type := .int, accessFlags := 2, slot := 2, constantValue := 0 }]
  methods := #[]
  instanceTypes := #[(.object "java/lang/String"), .int, .int]
  staticTypes := #[]
  resolved := Array.replicate 204 none
  statics := none }

def pool6 : Array CpInfo := pool [(1, .class_ 2), (0, u "com/example/lotwise/lotwise/plan/Pegging$Kind"), (2, u "ON_HAND"), (0, u "Lcom/example/lotwise/lotwise/plan/Pegging$Kind;"), (2, u "RECEIPT"), (2, u "FIRM_ORDER"), (2, u "PLANNED_ORDER"), (2, u "SHORT"), (2, u "SAFETY_STOCK"), (2, u "DEMAND"), (2, u "$VALUES"), (0, u "[Lcom/example/lotwise/lotwise/plan/Pegging$Kind;"), (6, .class_ 37), (1, u "java/lang/Enum"), (30, .class_ 69), (0, u "com/example/lotwise/lotwise/plan/Pegging")] 2

/-- com/example/lotwise/lotwise/plan/Pegging$Kind -/
def k6 : Class := { plain "com/example/lotwise/lotwise/plan/Pegging$Kind" (some 5) with
  accessFlags := 16433
  interfaces := #[]
  cf := some (fileOf pool6 1 #[.nestHost 68] #[] 16433 35 #[] #[{ accessFlags := 16409, nameIndex := 5, descriptorIndex := 6, attributes := #[] }, { accessFlags := 16409, nameIndex := 9, descriptorIndex := 6, attributes := #[] }, { accessFlags := 16409, nameIndex := 12, descriptorIndex := 6, attributes := #[] }, { accessFlags := 16409, nameIndex := 15, descriptorIndex := 6, attributes := #[] }, { accessFlags := 16409, nameIndex := 18, descriptorIndex := 6, attributes := #[] }, { accessFlags := 16409, nameIndex := 21, descriptorIndex := 6, attributes := #[] }, { accessFlags := 16409, nameIndex := 24, descriptorIndex := 6, attributes := #[] }, { accessFlags := 4122, nameIndex := 27, descriptorIndex := 28, attributes := #[] }])
  fields := #[{ name := "ON_HAND", type := (.object "com/example/lotwise/lotwise/plan/Pegging$Kind"), accessFlags := 16409, slot := 0, constantValue := 0 }, { name := "RECEIPT", type := (.object "com/example/lotwise/lotwise/plan/Pegging$Kind"), accessFlags := 16409, slot := 1, constantValue := 0 }, { name := "FIRM_ORDER", type := (.object "com/example/lotwise/lotwise/plan/Pegging$Kind"), accessFlags := 16409, slot := 2, constantValue := 0 }, { name := "PLANNED_ORDER", type := (.object "com/example/lotwise/lotwise/plan/Pegging$Kind"), accessFlags := 16409, slot := 3, constantValue := 0 }, { name := "SHORT", type := (.object "com/example/lotwise/lotwise/plan/Pegging$Kind"), accessFlags := 16409, slot := 4, constantValue := 0 }, { name := "SAFETY_STOCK", type := (.object "com/example/lotwise/lotwise/plan/Pegging$Kind"), accessFlags := 16409, slot := 5, constantValue := 0 }, { name := "DEMAND", type := (.object "com/example/lotwise/lotwise/plan/Pegging$Kind"), accessFlags := 16409, slot := 6, constantValue := 0 }, { name := "$VALUES", type := (.array (.object "com/example/lotwise/lotwise/plan/Pegging$Kind")), accessFlags := 4122, slot := 7, constantValue := 0 }]
  methods := #[]
  instanceTypes := #[(.object "java/lang/String"), .int, .int]
  staticTypes := #[(.object "com/example/lotwise/lotwise/plan/Pegging$Kind"), (.object "com/example/lotwise/lotwise/plan/Pegging$Kind"), (.object "com/example/lotwise/lotwise/plan/Pegging$Kind"), (.object "com/example/lotwise/lotwise/plan/Pegging$Kind"), (.object "com/example/lotwise/lotwise/plan/Pegging$Kind"), (.object "com/example/lotwise/lotwise/plan/Pegging$Kind"), (.object "com/example/lotwise/lotwise/plan/Pegging$Kind"), (.array (.object "com/example/lotwise/lotwise/plan/Pegging$Kind"))]
  resolved := Array.replicate 72 none
  statics := some 0 }

def pool7 : Array CpInfo := pool [(2, .class_ 4), (1, u "java/lang/CharSequence"), (42, .class_ 48), (0, u "java/lang/CharSequence$1CodePointIterator"), (10, .class_ 60), (0, u "java/lang/CharSequence$1CharIterator"), (5, .class_ 67), (0, u "java/lang/Object")] 63

/-- java/lang/CharSequence -/
def k7 : Class := { plain "java/lang/CharSequence" (some 0) with
  accessFlags := 1537
  interfaces := #[]
  cf := some (fileOf pool7 2 #[.nestMembers #[47, 59]] #[] 1537 66 #[] #[])
  fields := #[]
  methods := #[]
  instanceTypes := #[]
  staticTypes := #[]
  resolved := Array.replicate 131 none
  statics := none }

def pool8 : Array CpInfo := pool [(1, .class_ 2), (0, u "java/lang/constant/ConstantDesc"), (0, .class_ 4), (0, u "java/lang/Object")] 32

/-- java/lang/constant/ConstantDesc -/
def k8 : Class := { plain "java/lang/constant/ConstantDesc" (some 0) with
  accessFlags := 1537
  interfaces := #[]
  cf := some (fileOf pool8 1 #[] #[] 1537 3 #[] #[])
  fields := #[]
  methods := #[]
  instanceTypes := #[]
  staticTypes := #[]
  resolved := Array.replicate 37 none
  statics := none }

def pool9 : Array CpInfo := pool [(1, .methodref 2 3), (0, .class_ 4), (0, .nameAndType 5 6), (0, u "java/lang/Object"), (0, u "<init>"), (0, u "()V"), (2, .fieldref 10 11), (0, .class_ 12), (0, .nameAndType 13 14), (0, u "java/lang/String"), (0, u "value"), (0, u "[B"), (0, .fieldref 10 16), (0, .nameAndType 17 18), (0, u "coder"), (0, u "B"), (2, u "hash"), (0, u "I"), (2, u "hashIsZero"), (0, u "Z"), (11, .fieldref 10 39), (0, .nameAndType 40 26), (0, u "COMPACT_STRINGS"), (12, u "toBytes"), (53, .class_ 109), (1, u "java/lang/StringLatin1"), (99, .methodref 10 210), (0, .nameAndType 5 211), (0, u "([BB)V"), (157, u "(C)Z"), (205, .class_ 576), (0, u "java/lang/CharSequence"), (22, u "CASE_INSENSITIVE_ORDER"), (0, u "Ljava/util/Comparator;"), (181, u "valueOf"), (0, u "(C)Ljava/lang/String;"), (231, .methodref 107 1016), (0, .nameAndType 1017 369), (0, u "canEncode"), (0, .methodref 107 1019), (0, .nameAndType 53 1020), (0, u "(C)[B"), (80, u "serialPersistentFields"), (0, u "[Ljava/io/ObjectStreamField;"), (0, .class_ 1104), (0, u "java/lang/String$CaseInsensitiveComparator"), (1, .class_ 1107), (0, u "java/io/Serializable"), (0, .class_ 1109), (0, u "java/lang/Comparable"), (0, .class_ 1111), (0, u "java/lang/constant/Constable"), (0, .class_ 1113), (0, u "java/lang/constant/ConstantDesc"), (2, u "serialVersionUID"), (0, u "J"), (3, u "REPL"), (0, u "C"), (2, u "LATIN1"), (1, u "UTF16")] 323

def k9m0 : Method := { name := "<init>", desc := "()V", sig := { parameters := [], returnType := none }, accessFlags := 1, code := none }
def k9c1 : Code := { maxStack := 4, maxLocals := 1, code := jdk_42_method_139_code, exceptionTable := #[], attributes := #[] }
def k9m1 : Method := { name := "valueOf", desc := "(C)Ljava/lang/String;", sig := { parameters := [.char], returnType := some (.object "java/lang/String") }, accessFlags := 9, code := some k9c1 }
def k9c2 : Code := { maxStack := 2, maxLocals := 3, code := jdk_42_method_151_code, exceptionTable := #[], attributes := #[] }
def k9m2 : Method := { name := "<init>", desc := "([BB)V", sig := { parameters := [(.array .byte), .byte], returnType := none }, accessFlags := 0, code := some k9c2 }
/-- java/lang/String -/
def k9 : Class := { plain "java/lang/String" (some 0) with
  accessFlags := 49
  interfaces := #[4, 3, 7, 2, 8]
  cf := some (fileOf pool9 10 #[.nestMembers #[1103]] #[{ accessFlags := 1, nameIndex := 5, descriptorIndex := 6, attributes := #[] }, { accessFlags := 9, nameIndex := 782, descriptorIndex := 783, attributes := #[] }, { accessFlags := 0, nameIndex := 5, descriptorIndex := 211, attributes := #[] }] 49 2 #[1106, 1108, 575, 1110, 1112] #[{ accessFlags := 18, nameIndex := 13, descriptorIndex := 14, attributes := #[] }, { accessFlags := 18, nameIndex := 17, descriptorIndex := 18, attributes := #[] }, { accessFlags := 2, nameIndex := 21, descriptorIndex := 22, attributes := #[] }, { accessFlags := 2, nameIndex := 25, descriptorIndex := 26, attributes := #[] }, { accessFlags := 26, nameIndex := 1116, descriptorIndex := 1117, attributes := #[] }, { accessFlags := 24, nameIndex := 40, descriptorIndex := 26, attributes := #[] }, { accessFlags := 26, nameIndex := 1101, descriptorIndex := 1102, attributes := #[] }, { accessFlags := 26, nameIndex := 1121, descriptorIndex := 1122, attributes := #[] }, { accessFlags := 25, nameIndex := 599, descriptorIndex := 600, attributes := #[] }, { accessFlags := 24, nameIndex := 1125, descriptorIndex := 18, attributes := #[] }, { accessFlags := 24, nameIndex := 1127, descriptorIndex := 18, attributes := #[] }])
  fields := #[{ name := "value", type := (.array .byte), accessFlags := 18, slot := 0, constantValue := 0 }, { name := "coder", type := .byte, accessFlags := 18, slot := 1, constantValue := 0 }, { name := "hash", type := .int, accessFlags := 2, slot := 2, constantValue := 0 }, { name := "hashIsZero", type := .boolean, accessFlags := 2, slot := 3, constantValue := 0 }, { name := "serialVersionUID", type := .long, accessFlags := 26, slot := 0, constantValue := 0 }, { name := "COMPACT_STRINGS", type := .boolean, accessFlags := 24, slot := 1, constantValue := 0 }, { name := "serialPersistentFields", type := (.array (.object "java/io/ObjectStreamField")), accessFlags := 26, slot := 2, constantValue := 0 }, { name := "REPL", type := .char, accessFlags := 26, slot := 3, constantValue := 0 }, { name := "CASE_INSENSITIVE_ORDER", type := (.object "java/util/Comparator"), accessFlags := 25, slot := 4, constantValue := 0 }, { name := "LATIN1", type := .byte, accessFlags := 24, slot := 5, constantValue := 0 }, { name := "UTF16", type := .byte, accessFlags := 24, slot := 6, constantValue := 0 }]
  methods := #[k9m0, k9m1, k9m2]
  instanceTypes := #[(.array .byte), .byte, .int, .boolean]
  staticTypes := #[.long, .boolean, (.array (.object "java/io/ObjectStreamField")), .char, (.object "java/util/Comparator"), .byte, .byte]
  resolved := Array.replicate 1451 none
  statics := some 1 }

def pool10 : Array CpInfo := pool [(4, .class_ 6), (1, u "java/lang/Object"), (0, u "<init>"), (0, u "()V"), (5, .class_ 16), (1, u "java/lang/StringLatin1"), (73, u "canEncode"), (14, u "(C)Z"), (15, u "$assertionsDisabled"), (0, u "Z"), (98, .class_ 223), (1, u "java/lang/StringLatin1$LinesSpliterator"), (156, u "toBytes"), (1, u "(C)[B"), (7, .class_ 391), (0, u "java/lang/StringLatin1$CharsSpliterator")] 3

def k10m0 : Method := { name := "<init>", desc := "()V", sig := { parameters := [], returnType := none }, accessFlags := 0, code := none }
def k10c1 : Code := { maxStack := 2, maxLocals := 1, code := jdk_43_method_3_code, exceptionTable := #[], attributes := #[] }
def k10m1 : Method := { name := "canEncode", desc := "(C)Z", sig := { parameters := [.char], returnType := some .boolean }, accessFlags := 9, code := some k10c1 }
def k10c2 : Code := { maxStack := 4, maxLocals := 1, code := jdk_43_method_46_code, exceptionTable := #[], attributes := #[] }
def k10m2 : Method := { name := "toBytes", desc := "(C)[B", sig := { parameters := [.char], returnType := some (.array .byte) }, accessFlags := 9, code := some k10c2 }
/-- java/lang/StringLatin1 -/
def k10 : Class := { plain "java/lang/StringLatin1" (some 0) with
  accessFlags := 48
  interfaces := #[]
  cf := some (fileOf pool10 14 #[.nestMembers #[390, 221]] #[{ accessFlags := 0, nameIndex := 7, descriptorIndex := 8, attributes := #[] }, { accessFlags := 9, nameIndex := 90, descriptorIndex := 105, attributes := #[] }, { accessFlags := 9, nameIndex := 380, descriptorIndex := 382, attributes := #[] }] 48 4 #[] #[{ accessFlags := 4120, nameIndex := 121, descriptorIndex := 122, attributes := #[] }])
  fields := #[{ name := "$assertionsDisabled", type := .boolean, accessFlags := 4120, slot := 0, constantValue := 0 }]
  methods := #[k10m0, k10m1, k10m2]
  instanceTypes := #[]
  staticTypes := #[.boolean]
  resolved := Array.replicate 395 none
  statics := none }

def pool11 : Array CpInfo := pool [(1, .methodref 2 3), (0, .class_ 4), (0, .nameAndType 5 6), (0, u "java/lang/Object"), (0, u "<init>"), (0, u "()V"), (0, .class_ 8), (0, u "java/lang/Record")] 13

def k11c0 : Code := { maxStack := 1, maxLocals := 1, code := jdk_30_method_1_code, exceptionTable := #[], attributes := #[] }
def k11m0 : Method := { name := "<init>", desc := "()V", sig := { parameters := [], returnType := none }, accessFlags := 4, code := some k11c0 }
/-- java/lang/Record -/
def k11 : Class := { plain "java/lang/Record" (some 0) with
  accessFlags := 1057
  interfaces := #[]
  cf := some (fileOf pool11 7 #[] #[{ accessFlags := 4, nameIndex := 5, descriptorIndex := 6, attributes := #[] }] 1057 2 #[] #[])
  fields := #[]
  methods := #[k11m0]
  instanceTypes := #[]
  staticTypes := #[]
  resolved := Array.replicate 22 none
  statics := none }

def pool12 : Array CpInfo := pool [(1, .methodref 2 3), (0, .class_ 4), (0, .nameAndType 5 6), (0, u "java/lang/Record"), (0, u "<init>"), (0, u "()V"), (0, .fieldref 8 9), (0, .class_ 10), (0, .nameAndType 11 12), (0, u "com/example/lotwise/lotwise/plan/Pegging$Run"), (0, u "kind"), (0, u "Lcom/example/lotwise/lotwise/plan/Pegging$Kind;"), (0, .fieldref 8 14), (0, .nameAndType 15 16), (0, u "day"), (0, u "J"), (0, .fieldref 8 18), (0, .nameAndType 19 20), (0, u "text"), (0, u "Ljava/lang/String;"), (0, .fieldref 8 22), (0, .nameAndType 23 24), (0, u "numbered"), (0, u "Z"), (0, .fieldref 8 26), (0, .nameAndType 27 16), (0, u "first"), (0, .fieldref 8 29), (0, .nameAndType 30 16), (0, u "last"), (0, .fieldref 8 32), (0, .nameAndType 33 16), (0, u "qty"), (0, .fieldref 8 35), (0, .nameAndType 36 24), (0, u "parentOrders"), (18, u "(Lcom/example/lotwise/lotwise/plan/Pegging$Kind;JLjava/lang/String;ZJJJZ)V"), (8, u "count"), (0, u "()J"), (8, .class_ 75), (0, u "com/example/lotwise/lotwise/plan/Pegging")] 29

def k12c0 : Code := { maxStack := 3, maxLocals := 13, code := prog_106_method_1_code, exceptionTable := #[], attributes := #[] }
def k12m0 : Method := { name := "<init>", desc := "(Lcom/example/lotwise/lotwise/plan/Pegging$Kind;JLjava/lang/String;ZJJJZ)V", sig := { parameters := [(.object "com/example/lotwise/lotwise/plan/Pegging$Kind"), .long, (.object "java/lang/String"), .boolean, .long, .long, .long, .boolean], returnType := none }, accessFlags := 1, code := some k12c0 }
def k12c1 : Code := { maxStack := 4, maxLocals := 1, code := prog_106_method_3_code, exceptionTable := #[], attributes := #[] }
def k12m1 : Method := { name := "count", desc := "()J", sig := { parameters := [], returnType := some .long }, accessFlags := 0, code := some k12c1 }
/-- com/example/lotwise/lotwise/plan/Pegging$Run -/
def k12 : Class := { plain "com/example/lotwise/lotwise/plan/Pegging$Run" (some 11) with
  accessFlags := 49
  interfaces := #[]
  cf := some (fileOf pool12 8 #[.nestHost 74] #[{ accessFlags := 1, nameIndex := 5, descriptorIndex := 55, attributes := #[] }, { accessFlags := 0, nameIndex := 64, descriptorIndex := 65, attributes := #[] }] 49 2 #[] #[{ accessFlags := 18, nameIndex := 11, descriptorIndex := 12, attributes := #[] }, { accessFlags := 18, nameIndex := 15, descriptorIndex := 16, attributes := #[] }, { accessFlags := 18, nameIndex := 19, descriptorIndex := 20, attributes := #[] }, { accessFlags := 18, nameIndex := 23, descriptorIndex := 24, attributes := #[] }, { accessFlags := 18, nameIndex := 27, descriptorIndex := 16, attributes := #[] }, { accessFlags := 18, nameIndex := 30, descriptorIndex := 16, attributes := #[] }, { accessFlags := 18, nameIndex := 33, descriptorIndex := 16, attributes := #[] }, { accessFlags := 18, nameIndex := 36, descriptorIndex := 24, attributes := #[] }])
  fields := #[{ name := "kind", type := (.object "com/example/lotwise/lotwise/plan/Pegging$Kind"), accessFlags := 18, slot := 0, constantValue := 0 }, { name := "day", type := .long, accessFlags := 18, slot := 1, constantValue := 0 }, { name := "text", type := (.object "java/lang/String"), accessFlags := 18, slot := 2, constantValue := 0 }, { name := "numbered", type := .boolean, accessFlags := 18, slot := 3, constantValue := 0 }, { name := "first", type := .long, accessFlags := 18, slot := 4, constantValue := 0 }, { name := "last", type := .long, accessFlags := 18, slot := 5, constantValue := 0 }, { name := "qty", type := .long, accessFlags := 18, slot := 6, constantValue := 0 }, { name := "parentOrders", type := .boolean, accessFlags := 18, slot := 7, constantValue := 0 }]
  methods := #[k12m0, k12m1]
  instanceTypes := #[(.object "com/example/lotwise/lotwise/plan/Pegging$Kind"), .long, (.object "java/lang/String"), .boolean, .long, .long, .long, .boolean]
  staticTypes := #[]
  resolved := Array.replicate 105 none
  statics := none }

def pool13 : Array CpInfo := pool [(2, .class_ 4), (1, u "java/lang/Object"), (0, u "<init>"), (0, u "()V"), (17, .class_ 26), (1, u "jdk/internal/util/Preconditions"), (28, .class_ 56), (0, u "jdk/internal/util/Preconditions$4"), (57, .class_ 115), (0, u "jdk/internal/util/Preconditions$1"), (7, u "SIOOBE_FORMATTER"), (0, u "Ljava/util/function/BiFunction;"), (0, .class_ 126), (0, u "jdk/internal/util/Preconditions$2"), (3, u "AIOOBE_FORMATTER"), (0, .class_ 132), (0, u "jdk/internal/util/Preconditions$3"), (3, u "IOOBE_FORMATTER")] 57

def k13m0 : Method := { name := "<init>", desc := "()V", sig := { parameters := [], returnType := none }, accessFlags := 1, code := none }
/-- jdk/internal/util/Preconditions -/
def k13 : Class := { plain "jdk/internal/util/Preconditions" (some 0) with
  accessFlags := 33
  interfaces := #[]
  cf := some (fileOf pool13 24 #[.nestMembers #[55, 131, 125, 114]] #[{ accessFlags := 1, nameIndex := 5, descriptorIndex := 6, attributes := #[] }] 33 2 #[] #[{ accessFlags := 25, nameIndex := 123, descriptorIndex := 124, attributes := #[] }, { accessFlags := 25, nameIndex := 130, descriptorIndex := 124, attributes := #[] }, { accessFlags := 25, nameIndex := 136, descriptorIndex := 124, attributes := #[] }])
  fields := #[{ name := "SIOOBE_FORMATTER", type := (.object "java/util/function/BiFunction"), accessFlags := 25, slot := 0, constantValue := 0 }, { name := "AIOOBE_FORMATTER", type := (.object "java/util/function/BiFunction"), accessFlags := 25, slot := 1, constantValue := 0 }, { name := "IOOBE_FORMATTER", type := (.object "java/util/function/BiFunction"), accessFlags := 25, slot := 2, constantValue := 0 }]
  methods := #[k13m0]
  instanceTypes := #[]
  staticTypes := #[(.object "java/util/function/BiFunction"), (.object "java/util/function/BiFunction"), (.object "java/util/function/BiFunction")]
  resolved := Array.replicate 194 none
  statics := some 2 }

def pool14 : Array CpInfo := pool [(9, u "<init>"), (6, .class_ 18), (1, u "java/lang/Object"), (0, u "()V"), (1, .class_ 23), (1, u "jdk/internal/util/ArraysSupport"), (0, u "LOG2_ARRAY_LONG_INDEX_SCALE"), (0, u "I"), (2, u "U"), (0, u "Ljdk/internal/misc/Unsafe;"), (8, u "BIG_ENDIAN"), (0, u "Z"), (8, u "LOG2_BYTE_BIT_SIZE"), (4, u "LOG2_ARRAY_INT_INDEX_SCALE"), (54, u "JLA"), (0, u "Ljdk/internal/access/JavaLangAccess;"), (11, u "LOG2_ARRAY_BOOLEAN_INDEX_SCALE"), (9, u "LOG2_ARRAY_BYTE_INDEX_SCALE"), (5, u "LOG2_ARRAY_CHAR_INDEX_SCALE"), (5, u "LOG2_ARRAY_SHORT_INDEX_SCALE"), (18, u "LOG2_ARRAY_FLOAT_INDEX_SCALE"), (24, u "LOG2_ARRAY_DOUBLE_INDEX_SCALE"), (89, u "T_BOOLEAN"), (2, u "T_CHAR"), (1, u "T_FLOAT"), (1, u "T_DOUBLE"), (1, u "T_BYTE"), (1, u "T_SHORT"), (1, u "T_INT"), (1, u "T_LONG"), (1, u "SOFT_MAX_ARRAY_LENGTH")] 83

def k14m0 : Method := { name := "<init>", desc := "()V", sig := { parameters := [], returnType := none }, accessFlags := 2, code := none }
/-- jdk/internal/util/ArraysSupport -/
def k14 : Class := { plain "jdk/internal/util/ArraysSupport" (some 0) with
  accessFlags := 33
  interfaces := #[]
  cf := some (fileOf pool14 21 #[] #[{ accessFlags := 2, nameIndex := 9, descriptorIndex := 19, attributes := #[] }] 33 16 #[] #[{ accessFlags := 24, nameIndex := 28, descriptorIndex := 29, attributes := #[] }, { accessFlags := 26, nameIndex := 38, descriptorIndex := 39, attributes := #[] }, { accessFlags := 25, nameIndex := 121, descriptorIndex := 25, attributes := #[] }, { accessFlags := 25, nameIndex := 131, descriptorIndex := 25, attributes := #[] }, { accessFlags := 25, nameIndex := 137, descriptorIndex := 25, attributes := #[] }, { accessFlags := 25, nameIndex := 143, descriptorIndex := 25, attributes := #[] }, { accessFlags := 25, nameIndex := 53, descriptorIndex := 25, attributes := #[] }, { accessFlags := 25, nameIndex := 24, descriptorIndex := 25, attributes := #[] }, { accessFlags := 25, nameIndex := 162, descriptorIndex := 25, attributes := #[] }, { accessFlags := 25, nameIndex := 187, descriptorIndex := 25, attributes := #[] }, { accessFlags := 26, nameIndex := 48, descriptorIndex := 25, attributes := #[] }, { accessFlags := 25, nameIndex := 277, descriptorIndex := 25, attributes := #[] }, { accessFlags := 25, nameIndex := 280, descriptorIndex := 25, attributes := #[] }, { accessFlags := 25, nameIndex := 282, descriptorIndex := 25, attributes := #[] }, { accessFlags := 25, nameIndex := 284, descriptorIndex := 25, attributes := #[] }, { accessFlags := 25, nameIndex := 286, descriptorIndex := 25, attributes := #[] }, { accessFlags := 25, nameIndex := 288, descriptorIndex := 25, attributes := #[] }, { accessFlags := 25, nameIndex := 290, descriptorIndex := 25, attributes := #[] }, { accessFlags := 25, nameIndex := 292, descriptorIndex := 25, attributes := #[] }, { accessFlags := 26, nameIndex := 108, descriptorIndex := 109, attributes := #[] }, { accessFlags := 25, nameIndex := 294, descriptorIndex := 25, attributes := #[] }])
  fields := #[{ name := "U", type := (.object "jdk/internal/misc/Unsafe"), accessFlags := 24, slot := 0, constantValue := 0 }, { name := "BIG_ENDIAN", type := .boolean, accessFlags := 26, slot := 1, constantValue := 0 }, { name := "LOG2_ARRAY_BOOLEAN_INDEX_SCALE", type := .int, accessFlags := 25, slot := 2, constantValue := 0 }, { name := "LOG2_ARRAY_BYTE_INDEX_SCALE", type := .int, accessFlags := 25, slot := 3, constantValue := 0 }, { name := "LOG2_ARRAY_CHAR_INDEX_SCALE", type := .int, accessFlags := 25, slot := 4, constantValue := 0 }, { name := "LOG2_ARRAY_SHORT_INDEX_SCALE", type := .int, accessFlags := 25, slot := 5, constantValue := 0 }, { name := "LOG2_ARRAY_INT_INDEX_SCALE", type := .int, accessFlags := 25, slot := 6, constantValue := 0 }, { name := "LOG2_ARRAY_LONG_INDEX_SCALE", type := .int, accessFlags := 25, slot := 7, constantValue := 0 }, { name := "LOG2_ARRAY_FLOAT_INDEX_SCALE", type := .int, accessFlags := 25, slot := 8, constantValue := 0 }, { name := "LOG2_ARRAY_DOUBLE_INDEX_SCALE", type := .int, accessFlags := 25, slot := 9, constantValue := 0 }, { name := "LOG2_BYTE_BIT_SIZE", type := .int, accessFlags := 26, slot := 10, constantValue := 0 }, { name := "T_BOOLEAN", type := .int, accessFlags := 25, slot := 11, constantValue := 0 }, { name := "T_CHAR", type := .int, accessFlags := 25, slot := 12, constantValue := 0 }, { name := "T_FLOAT", type := .int, accessFlags := 25, slot := 13, constantValue := 0 }, { name := "T_DOUBLE", type := .int, accessFlags := 25, slot := 14, constantValue := 0 }, { name := "T_BYTE", type := .int, accessFlags := 25, slot := 15, constantValue := 0 }, { name := "T_SHORT", type := .int, accessFlags := 25, slot := 16, constantValue := 0 }, { name := "T_INT", type := .int, accessFlags := 25, slot := 17, constantValue := 0 }, { name := "T_LONG", type := .int, accessFlags := 25, slot := 18, constantValue := 0 }, { name := "JLA", type := (.object "jdk/internal/access/JavaLangAccess"), accessFlags := 26, slot := 19, constantValue := 0 }, { name := "SOFT_MAX_ARRAY_LENGTH", type := .int, accessFlags := 25, slot := 20, constantValue := 0 }]
  methods := #[k14m0]
  instanceTypes := #[]
  staticTypes := #[(.object "jdk/internal/misc/Unsafe"), .boolean, .int, .int, .int, .int, .int, .int, .int, .int, .int, .int, .int, .int, .int, .int, .int, .int, .int, (.object "jdk/internal/access/JavaLangAccess"), .int]
  resolved := Array.replicate 378 none
  statics := none }

def pool15 : Array CpInfo := pool [(1, u "java/lang/Cloneable"), (0, .class_ 1), (0, u "java/lang/Object"), (0, .class_ 3)] 3

/-- java/lang/Cloneable -/
def k15 : Class := { plain "java/lang/Cloneable" (some 0) with
  accessFlags := 1537
  interfaces := #[]
  cf := some (fileOf pool15 2 #[] #[] 1537 4 #[] #[])
  fields := #[]
  methods := #[]
  instanceTypes := #[]
  staticTypes := #[]
  resolved := Array.replicate 8 none
  statics := none }

/-- the primitive byte -/
def k16 : Class := { plain "byte" none with kind := .primitive 'B', accessFlags := 0x411 }
/-- [B -/
def k17 : Class := { plain "[B" (some 0) with kind := .array 16 .byte, interfaces := #[15, 4], accessFlags := 1041 }

/-- the primitive int -/
def k18 : Class := { plain "int" none with kind := .primitive 'I', accessFlags := 0x411 }
/-- [I -/
def k19 : Class := { plain "[I" (some 0) with kind := .array 18 .int, interfaces := #[15, 4], accessFlags := 1041 }

def heap : Heap := #[{ cls := 6, slots := #[.ref 3, .ref 4, .ref 5, .ref 6, .ref 7, .ref 8, .ref 9, .null], vm := .statics 6 },
  { cls := 9, slots := #[.long 0, .int 1, .null, .int 0, .null, .int 0, .int 0], vm := .statics 9 },
  { cls := 13, slots := #[.null, .null, .null], vm := .statics 13 },
  { cls := 6, slots := #[.null, .int 0, .int 0], vm := .none },
  { cls := 6, slots := #[.null, .int 0, .int 0], vm := .none },
  { cls := 6, slots := #[.null, .int 0, .int 0], vm := .none },
  { cls := 6, slots := #[.null, .int 0, .int 0], vm := .none },
  { cls := 6, slots := #[.null, .int 0, .int 0], vm := .none },
  { cls := 6, slots := #[.null, .int 0, .int 0], vm := .none },
  { cls := 6, slots := #[.null, .int 0, .int 0], vm := .none }]
def classes : Array Class := #[k0, k1, k2, k3, k4, k5, k6, k7, k8, k9, k10, k11, k12, k13, k14, k15, k16, k17, k18, k19]
def interned : List (Array UInt16 × Addr) := []
def slotsUsed : Nat := 39
def theMethod : MethodId := ⟨1, 2⟩
def args0 : Array Value := #[.int 5, .long 300, .long 7, .long 700, .long 9, .int 3]
def aboutOver (below : List Frame) : State where
  vm := { classes := classes, interned := interned.toArray }
  heap := heap
  slotsUsed := slotsUsed
  threads := #[{ frames := .invoking theMethod args0 :: below }]
def below0 : List Frame := [.native { method := ⟨0, 0⟩, args := #[] }]
def about1 : State := aboutOver below0
def p0 : Program := .bare "" "" ""
def e0 : Env := launch0.env 0 0 0
theorem w_frames : about1.frames = Frame.invoking theMethod args0 :: below0 := rfl
set_option maxRecDepth 65536 in
theorem w_args : argsFit about1.vm theMethod args0 = true := by decide +kernel
set_option maxRecDepth 65536 in
theorem w_heap : heapFits about1 = true := by decide +kernel
set_option maxRecDepth 65536 in
theorem w_runnable : about1.curStatus? = some .runnable := by decide +kernel
set_option maxRecDepth 65536 in
theorem w_alone : about1.alone = true := by decide +kernel
set_option maxRecDepth 65536 in
theorem w_named : about1.methodNamed? x = some theMethod := by decide +kernel
set_option maxRecDepth 65536 in
theorem w_hears : about1.hears theMethod below0 = true := by decide +kernel
set_option maxRecDepth 65536 in
theorem w_ripe : about1.ripe theMethod args0 below0 = true := by decide +kernel
theorem w_running : about1.status = .running := rfl
set_option maxRecDepth 65536 in
theorem w_room : about1.hasRoom e0.platform room_1 = true :=
  launch0.hasRoom_least _ room_1 (by decide +kernel) (by decide +kernel) (by decide +kernel) (by decide +kernel) (by decide +kernel) (by decide +kernel)
theorem allAtoms_all (ts : List Jvm.Cond) (a : Array Jvm.Value) (st : Jvm.State) : (allAtoms ts).before a st = ts.all (fun c => c.before a st) := by
  induction ts with
  | nil => rfl
  | cons c t ih =>
    show (Jvm.Cond.and c (allAtoms t)).before a st = _
    rw [Jvm.Cond.before_and, ih, List.all_cons]
def words1 : List Jvm.Cond := Jvm.Cond.code x code maxLocals ret :: tables_1
/-- a 'code' word, met by the world's own term for the bytes: nothing is compared byte by byte -/
theorem code_word {y : MethodName} {bytes : ByteArray} {mx : Nat} {rt : Option FieldType} {a : Array Value} {s : State} {m : MethodId} {meth : Method} {c : Code} (h1 : s.methodNamed? y = some m) (h2 : s.vm.method? m = some meth) (h3 : meth.code = some c) (h4 : c.code = bytes)
    (h5 : (c.maxLocals == mx && c.exceptionTable.isEmpty && decide (c.maxStack ≤ mostOperands) && decide (meth.sig.returnType = rt) && !meth.locks && decide (parseMethodDescriptor y.desc = some meth.sig)) = true) : (Jvm.Cond.code y bytes mx rt).before a s = true := by
  simp only [Bool.and_eq_true, beq_iff_eq, Bool.not_eq_true', decide_eq_true_eq] at h5
  obtain ⟨⟨⟨⟨⟨g1, g2⟩, g3⟩, g4⟩, g5⟩, g6⟩ := h5
  simp [Cond.before, Cond.holds, Cond.value, h1, h2, h3, h4, g1, g2, g3, g4, g5, g6]
def isCode : Jvm.Cond → Bool
  | .code _ _ _ _ => true
  | _ => false
theorem all_split {L : List Jvm.Cond} {P : Jvm.Cond → Bool} (h1 : L.all (fun c => isCode c || P c) = true) (h2 : ∀ c ∈ L.filter isCode, P c = true) : L.all P = true := by
  refine List.all_eq_true.mpr fun c hc => ?_
  have h := List.all_eq_true.mp h1 c hc
  rcases Bool.eq_false_or_eq_true (isCode c) with hi | hi
  · exact h2 c (List.mem_filter.mpr ⟨hc, hi⟩)
  · simpa [hi] using h
set_option maxRecDepth 65536 in
theorem w_c0 : (Jvm.Cond.code x code maxLocals ret).before args0 about1 = true := code_word (m := ⟨1, 2⟩) (meth := k1m2) (c := k1c2) (by decide +kernel) rfl rfl rfl (by decide +kernel)
set_option maxRecDepth 65536 in
theorem w_c1 : (Jvm.Cond.code ({ cls := "com/example/lotwise/lotwise/plan/RunCountPinLaw", name := "kind", desc := "(I)Lcom/example/lotwise/lotwise/plan/Pegging$Kind;" } : Jvm.MethodName) method_2_code (2 : Nat) (Option.some (Jvm.ClassFile.FieldType.object "com/example/lotwise/lotwise/plan/Pegging$Kind"))).before args0 about1 = true := code_word (m := ⟨1, 1⟩) (meth := k1m1) (c := k1c1) (by decide +kernel) rfl rfl rfl (by decide +kernel)
set_option maxRecDepth 65536 in
theorem w_c2 : (Jvm.Cond.code ({ cls := "java/lang/String", name := "valueOf", desc := "(C)Ljava/lang/String;" } : Jvm.MethodName) jdk_42_method_139_code (1 : Nat) (Option.some (Jvm.ClassFile.FieldType.object "java/lang/String"))).before args0 about1 = true := code_word (m := ⟨9, 1⟩) (meth := k9m1) (c := k9c1) (by decide +kernel) rfl rfl rfl (by decide +kernel)
set_option maxRecDepth 65536 in
theorem w_c3 : (Jvm.Cond.code ({ cls := "java/lang/StringLatin1", name := "canEncode", desc := "(C)Z" } : Jvm.MethodName) jdk_43_method_3_code (1 : Nat) (Option.some Jvm.ClassFile.FieldType.boolean)).before args0 about1 = true := code_word (m := ⟨10, 1⟩) (meth := k10m1) (c := k10c1) (by decide +kernel) rfl rfl rfl (by decide +kernel)
set_option maxRecDepth 65536 in
theorem w_c4 : (Jvm.Cond.code ({ cls := "java/lang/StringLatin1", name := "toBytes", desc := "(C)[B" } : Jvm.MethodName) jdk_43_method_46_code (1 : Nat) (Option.some (Jvm.ClassFile.FieldType.array Jvm.ClassFile.FieldType.byte))).before args0 about1 = true := code_word (m := ⟨10, 2⟩) (meth := k10m2) (c := k10c2) (by decide +kernel) rfl rfl rfl (by decide +kernel)
set_option maxRecDepth 65536 in
theorem w_c5 : (Jvm.Cond.code ({ cls := "java/lang/String", name := "<init>", desc := "([BB)V" } : Jvm.MethodName) jdk_42_method_151_code (3 : Nat) (Option.none : Option Jvm.ClassFile.FieldType)).before args0 about1 = true := code_word (m := ⟨9, 2⟩) (meth := k9m2) (c := k9c2) (by decide +kernel) rfl rfl rfl (by decide +kernel)
set_option maxRecDepth 65536 in
theorem w_c6 : (Jvm.Cond.code ({ cls := "java/lang/Object", name := "<init>", desc := "()V" } : Jvm.MethodName) object_method_1_code (1 : Nat) (Option.none : Option Jvm.ClassFile.FieldType)).before args0 about1 = true := code_word (m := ⟨0, 0⟩) (meth := k0m0) (c := k0c0) (by decide +kernel) rfl rfl rfl (by decide +kernel)
set_option maxRecDepth 65536 in
theorem w_c7 : (Jvm.Cond.code ({ cls := "com/example/lotwise/lotwise/plan/Pegging$Run", name := "<init>", desc := "(Lcom/example/lotwise/lotwise/plan/Pegging$Kind;JLjava/lang/String;ZJJJZ)V" } : Jvm.MethodName) prog_106_method_1_code (13 : Nat) (Option.none : Option Jvm.ClassFile.FieldType)).before args0 about1 = true := code_word (m := ⟨12, 0⟩) (meth := k12m0) (c := k12c0) (by decide +kernel) rfl rfl rfl (by decide +kernel)
set_option maxRecDepth 65536 in
theorem w_c8 : (Jvm.Cond.code ({ cls := "java/lang/Record", name := "<init>", desc := "()V" } : Jvm.MethodName) jdk_30_method_1_code (1 : Nat) (Option.none : Option Jvm.ClassFile.FieldType)).before args0 about1 = true := code_word (m := ⟨11, 0⟩) (meth := k11m0) (c := k11c0) (by decide +kernel) rfl rfl rfl (by decide +kernel)
set_option maxRecDepth 65536 in
theorem w_c9 : (Jvm.Cond.code ({ cls := "com/example/lotwise/lotwise/plan/Pegging$Run", name := "count", desc := "()J" } : Jvm.MethodName) prog_106_method_3_code (1 : Nat) (Option.some Jvm.ClassFile.FieldType.long)).before args0 about1 = true := code_word (m := ⟨12, 1⟩) (meth := k12m1) (c := k12c1) (by decide +kernel) rfl rfl rfl (by decide +kernel)
def codes1 : List Jvm.Cond := [Jvm.Cond.code x code maxLocals ret, Jvm.Cond.code ({ cls := "com/example/lotwise/lotwise/plan/RunCountPinLaw", name := "kind", desc := "(I)Lcom/example/lotwise/lotwise/plan/Pegging$Kind;" } : Jvm.MethodName) method_2_code (2 : Nat) (Option.some (Jvm.ClassFile.FieldType.object "com/example/lotwise/lotwise/plan/Pegging$Kind")), Jvm.Cond.code ({ cls := "java/lang/String", name := "valueOf", desc := "(C)Ljava/lang/String;" } : Jvm.MethodName) jdk_42_method_139_code (1 : Nat) (Option.some (Jvm.ClassFile.FieldType.object "java/lang/String")), Jvm.Cond.code ({ cls := "java/lang/StringLatin1", name := "canEncode", desc := "(C)Z" } : Jvm.MethodName) jdk_43_method_3_code (1 : Nat) (Option.some Jvm.ClassFile.FieldType.boolean), Jvm.Cond.code ({ cls := "java/lang/StringLatin1", name := "toBytes", desc := "(C)[B" } : Jvm.MethodName) jdk_43_method_46_code (1 : Nat) (Option.some (Jvm.ClassFile.FieldType.array Jvm.ClassFile.FieldType.byte)), Jvm.Cond.code ({ cls := "java/lang/String", name := "<init>", desc := "([BB)V" } : Jvm.MethodName) jdk_42_method_151_code (3 : Nat) (Option.none : Option Jvm.ClassFile.FieldType), Jvm.Cond.code ({ cls := "java/lang/Object", name := "<init>", desc := "()V" } : Jvm.MethodName) object_method_1_code (1 : Nat) (Option.none : Option Jvm.ClassFile.FieldType), Jvm.Cond.code ({ cls := "com/example/lotwise/lotwise/plan/Pegging$Run", name := "<init>", desc := "(Lcom/example/lotwise/lotwise/plan/Pegging$Kind;JLjava/lang/String;ZJJJZ)V" } : Jvm.MethodName) prog_106_method_1_code (13 : Nat) (Option.none : Option Jvm.ClassFile.FieldType), Jvm.Cond.code ({ cls := "java/lang/Record", name := "<init>", desc := "()V" } : Jvm.MethodName) jdk_30_method_1_code (1 : Nat) (Option.none : Option Jvm.ClassFile.FieldType), Jvm.Cond.code ({ cls := "com/example/lotwise/lotwise/plan/Pegging$Run", name := "count", desc := "()J" } : Jvm.MethodName) prog_106_method_3_code (1 : Nat) (Option.some Jvm.ClassFile.FieldType.long)]
set_option maxRecDepth 65536 in
theorem codes_eq : words1.filter isCode = codes1 := rfl
theorem w_codes : ∀ c ∈ words1.filter isCode, c.before args0 about1 = true := by
  rw [codes_eq]
  intro c hc
  simp only [codes1, List.mem_cons, List.not_mem_nil, or_false] at hc
  rcases hc with rfl | rfl | rfl | rfl | rfl | rfl | rfl | rfl | rfl | rfl
  · exact w_c0
  · exact w_c1
  · exact w_c2
  · exact w_c3
  · exact w_c4
  · exact w_c5
  · exact w_c6
  · exact w_c7
  · exact w_c8
  · exact w_c9
set_option maxRecDepth 65536 in
theorem w_t1 : (words1.take 24).all (fun c => isCode c || c.before args0 about1) = true := by decide +kernel
set_option maxRecDepth 65536 in
theorem w_t2 : ((words1.drop 24).take 24).all (fun c => isCode c || c.before args0 about1) = true := by decide +kernel
set_option maxRecDepth 65536 in
theorem w_t3 : (((words1.drop 24).drop 24).take 24).all (fun c => isCode c || c.before args0 about1) = true := by decide +kernel
set_option maxRecDepth 65536 in
theorem w_t4 : (((words1.drop 24).drop 24).drop 24).all (fun c => isCode c || c.before args0 about1) = true := by decide +kernel
theorem w_tables : (allAtoms (Jvm.Cond.code x code maxLocals ret :: tables_1)).before args0 about1 = true := by
  rw [allAtoms_all]
  show words1.all (fun c => c.before args0 about1) = true
  refine all_split ?_ w_codes
  rw [← List.take_append_drop 24 words1, List.all_append, w_t1, ← List.take_append_drop 24 (words1.drop 24), List.all_append, w_t2, ← List.take_append_drop 24 ((words1.drop 24).drop 24), List.all_append, w_t3, w_t4]
  rfl
set_option maxRecDepth 65536 in
theorem w_rest : rest_1_c.before args0 about1 = true := by decide +kernel
set_option maxRecDepth 65536 in
theorem w_case : (Jvm.Cond.and given_1 narrow_1).before args0 about1 = true := by decide +kernel
theorem w_applies : (headSpec (Jvm.Cond.code x code maxLocals ret :: tables_1) room_1).applies x e0.platform about1 = true :=
  (Spec.applies_iff w_frames).mpr ⟨w_running, w_runnable, w_alone, w_named, w_hears, w_ripe, w_room, w_tables⟩
theorem atStart : AtStart classFile x code maxLocals ret World_1 tables_1 room_1 Calls_1 rest_1 Pre_1 launch0 p0 e0 about1 theMethod args0 below0 :=
  ⟨lists_1, trivial, launch0.admits_env _ _ _, launch0.least_env, fairChoices_fair.cas, fairChoices_fair.clock, w_frames, w_args, w_heap, w_applies, trivial, w_rest, w_case⟩
end start1
theorem witness_1 : WitnessClaimed_1 := ⟨start1.p0, start1.e0, start1.about1, start1.theMethod, start1.args0, start1.below0, start1.atStart⟩
end Jvm.Pilot.@@N@@
