import JvmDerived
import JvmDerived.Pilot.@@N@@Statement
import JvmDerived.Pilot.@@N@@Code
set_option linter.unusedVariables false
set_option linter.unusedSimpArgs false
namespace Jvm.Pilot.@@N@@
open Jvm Jvm.ClassFile Sem Op Lib Jvm.Free Jvm.Stand Jvm.LawKit Jvm.RoadKit Bundle Jvm.Pilot.@@N@@.Jvm.D
section Own
variable {p : Program} {l : Launch} {e : Env} {R : Room} {s : State} {m : MethodId} {args : Array Value} {below : List Frame} {meth : Method} {c : Code} {T : State} {locs : List Loc} {cells slots : Nat} {Z : State} {a0 : Array Value} {h : Heap}
/-- the goal of a walk is a predicate that may be carried back over steps -/
def Go (p : Program) (e : Env) (below : List Frame) (G : State → Prop) : Prop := ∀ F F' : State, (∀ t, Steps p.tables e below F' t → Steps p.tables e below F t) → G F' → G F
/-- how a walk ends: it returns v -/
def Rt (p : Program) (l : Launch) (e : Env) (R : Room) (s : State) (m : MethodId) (args : Array Value) (below : List Frame) (meth : Method) (c : Code) (Q : Option Value → Heap → List Loc → Prop) (kc ks : Nat) (G : State → Prop) : Prop :=
  ∀ (T : State) (locs : List Loc) (cells slots : Nat) (v : Option Value) (F : State), Stand p l e R s m args below meth c T locs cells slots → cells ≤ kc → slots ≤ ks → (meth.sig.returnType = none → v = none) → Q v T.heap locs →
    (∀ fs, (∀ (f : JFrame) (acts : List Action), f.method = m → f.locked = none → f.entered = [] → (doReturn e (T.setTop f) acts v).1 = T.setFrames fs) → Steps p.tables e below F (T.setFrames fs)) → G F
def Gl (p : Program) (e : Env) (below : List Frame) (s : State) (Q : Option Value → Heap → List Loc → Prop) (kc ks : Nat) (F : State) : Prop :=
  ∃ s₂ o, Steps p.tables e below F s₂ ∧ s₂.status = .running ∧ Ended s₂ below o ∧ ∃ v L, o = .returned v ∧ Q v s₂.heap L ∧ FrameEnd s o s₂ L kc ks
theorem gl_go {Q : Option Value → Heap → List Loc → Prop} {kc ks : Nat} : Go p e below (Gl p e below s Q kc ks) := fun F F' h g => by
  obtain ⟨s₂, o, h1, h2⟩ := g
  exact ⟨s₂, o, h _ h1, h2⟩
theorem gl_rt {Q : Option Value → Heap → List Loc → Prop} {kc ks : Nat} (hlk : meth.locks = false) : Rt p l e R s m args below meth c Q kc ks (Gl p e below s Q kc ks) := fun T locs cells slots v F X hc hs hv hQ st => by
  obtain ⟨fs, hr, hrun, hended, hW, hsame⟩ := X.leave (v := v) hv hlk
  exact ⟨_, _, st fs hr, hrun, hended, v, locs, rfl, hQ, ⟨_, rfl⟩, hW, hsame.mono hc hs⟩
/-- a method's contract, at given arguments and a given heap -/
def Con (l : Launch) (Z : State) (y : MethodName) (bytes : ByteArray) (maxL : Nat) (ret : Option FieldType) (rm : Room) (as' : Array Value) (h : Heap) (Q : Option Value → Heap → List Loc → Prop) : Prop :=
  ∀ ws, MetFree l y (head1 (Jvm.Cond.code y bytes maxL ret :: ws) rm) (fun a U => a = as' ∧ Z.Warmed39 U.vm ∧ U.heap = h) (fun _ _ _ _ _ => True) (fun _ U o U' => ∃ v L, o = .returned v ∧ Q v U'.heap L ∧ FrameEnd U o U' L rm.cells rm.slots)
theorem own_body {y : MethodName} {bytes : ByteArray} {maxL : Nat} {ret : Option FieldType} {rm : Room} {as' : Array Value} {h0 : Heap} {Q : Option Value → Heap → List Loc → Prop} (hp : plainName y.cls = true)
    (k : ∀ (p : Program) (e : Env) (s : State) (m : MethodId) (below : List Frame) (meth : Method) (c : Code) (s₁ : State), p.tables.exec = Jvm.exec → c.code = bytes → c.maxLocals = maxL → s.vm.findClass y.cls = some m.cls → meth.name = y.name → meth.sig.returnType = ret → Z.Warmed39 s.vm → s₁.heap = h0 →
      Stand p l e rm s m as' below meth c s₁ [] 0 0 → ∀ G : State → Prop, Go p e below G → Rt p l e rm s m as' below meth c Q rm.cells rm.slots G → G (s₁.setTop (entryFrame m as' maxL))) : Con l Z y bytes maxL ret rm as' h0 Q := fun ws => by
  refine MetFree.of_bodySF (plainFor_of_name hp) hisR ?_
  intro p e s m args below meth c s₁ Bd hml0 hP hK
  obtain ⟨rfl, hZ, hh⟩ := hP
  exact k p e s m below meth c s₁ Bd.exec Bd.bytes hml0 (findClass_of_methodNamed Bd.named) (name_of_methodNamed Bd.named Bd.method).1 Bd.returns hZ (by rw [← hh, Bd.state]; rfl) (Stand.of_body Bd) (Gl p e below s Q rm.cells rm.slots) gl_go (gl_rt Bd.notSynchronized)
section Rets
variable {Q : Option Value → Heap → List Loc → Prop} {kc ks : Nat} {G : State → Prop}
theorem own_retI (rt : Rt p l e R s m args below meth c Q kc ks G) (X : Stand p l e R s m args below meth c T locs cells slots) (hx : p.tables.exec = Jvm.exec) {pc : Nat} {Ls : Array Slot} {rest : List Value} (hret : meth.sig.returnType = some .int) {z : Int32} (hd : decode c.code pc = .ok (.ireturn, 1)) (hc : cells ≤ kc) (hs : slots ≤ ks) (hQ : Q (some (.int z)) T.heap locs) : G (T.setTop (mkF m pc Ls (.int z :: rest))) :=
  rt T locs cells slots _ _ X hc hs (fun h => by rw [hret] at h; cases h) hQ fun fs hr => retOut X hx hret rfl (Or.inl ⟨rfl, Or.inl rfl, _, rfl⟩) hd hr
theorem own_retZ (rt : Rt p l e R s m args below meth c Q kc ks G) (X : Stand p l e R s m args below meth c T locs cells slots) (hx : p.tables.exec = Jvm.exec) {pc : Nat} {Ls : Array Slot} {rest : List Value} {t : FieldType} (hret : meth.sig.returnType = some t) (ht : t = .boolean ∨ t = .byte ∨ t = .char ∨ t = .short) {z : Int32} (hd : decode c.code pc = .ok (.ireturn, 1)) (hc : cells ≤ kc) (hs : slots ≤ ks) (hQ : Q (some (.int (nar t z))) T.heap locs) : G (T.setTop (mkF m pc Ls (.int z :: rest))) :=
  rt T locs cells slots _ _ X hc hs (fun h => by rw [hret] at h; cases h) hQ fun fs hr => retN X hx hret ht hd hr
theorem own_retJ (rt : Rt p l e R s m args below meth c Q kc ks G) (X : Stand p l e R s m args below meth c T locs cells slots) (hx : p.tables.exec = Jvm.exec) {pc : Nat} {Ls : Array Slot} {rest : List Value} (hret : meth.sig.returnType = some .long) {z : Int64} (hd : decode c.code pc = .ok (.lreturn, 1)) (hc : cells ≤ kc) (hs : slots ≤ ks) (hQ : Q (some (.long z)) T.heap locs) : G (T.setTop (mkF m pc Ls (.long z :: rest))) :=
  rt T locs cells slots _ _ X hc hs (fun h => by rw [hret] at h; cases h) hQ fun fs hr => retOut X hx hret rfl (Or.inr (Or.inl ⟨rfl, rfl, _, rfl⟩)) hd hr
theorem own_retA (rt : Rt p l e R s m args below meth c Q kc ks G) (X : Stand p l e R s m args below meth c T locs cells slots) (hx : p.tables.exec = Jvm.exec) {pc : Nat} {Ls : Array Slot} {rest : List Value} {t : FieldType} (hret : meth.sig.returnType = some t) (ht : t.isReference = true) {v : Value} (hv : v.isRef = true) (hd : decode c.code pc = .ok (.areturn, 1)) (hc : cells ≤ kc) (hs : slots ≤ ks) (hQ : Q (some v) T.heap locs) : G (T.setTop (mkF m pc Ls (v :: rest))) :=
  rt T locs cells slots _ _ X hc hs (fun h => by rw [hret] at h; cases h) hQ fun fs hr => retOut X hx hret (by cases t <;> cases v <;> first | rfl | (simp [FieldType.isReference, Value.isRef] at ht hv)) (Or.inr (Or.inr (Or.inr (Or.inr ⟨rfl, ht, hv⟩)))) hd hr
theorem own_retV (rt : Rt p l e R s m args below meth c Q kc ks G) (X : Stand p l e R s m args below meth c T locs cells slots) (hx : p.tables.exec = Jvm.exec) {pc : Nat} {Ls : Array Slot} {rest : List Value} (hret : meth.sig.returnType = none) (hd : decode c.code pc = .ok (.return_, 1)) (hc : cells ≤ kc) (hs : slots ≤ ks) (hQ : Q none T.heap locs) : G (T.setTop (mkF m pc Ls [])) :=
  rt T locs cells slots _ _ X hc hs (fun _ => rfl) hQ fun fs hr => X.returnOut hx hret hd hr
end Rets
section Calls
variable {G : State → Prop}
theorem own_static (go : Go p e below G) (X : Stand p l e R s m args below meth c T locs cells slots) (hx : p.tables.exec = Jvm.exec) (hZ : Z.Warmed39 s.vm) (eT : T.heap = h) {own : String} {index : Nat} {y : MethodName} {bytes : ByteArray} {maxL : Nat} {ret : Option FieldType} {rm : Room} {as' : Array Value} {Q : Option Value → Heap → List Loc → Prop} (hown : s.vm.findClass own = some m.cls) (w1 : (Cond.methodLink own index y).before a0 Z = true) (w2 : (Cond.static y).before a0 Z = true) (w3 : (Cond.initialized y.cls).before a0 Z = true) (w4 : (Cond.code y bytes maxL ret).before a0 Z = true)
    (hy : y.cls ≠ "java/lang/invoke/MethodHandle" ∧ y.cls ≠ "java/lang/invoke/VarHandle") (hM : Con l Z y bytes maxL ret rm as' h Q) (W : Nat) (hf : rm.frames + 1 ≤ R.frames) (hl : W + (maxL + 11) + rm.locals ≤ R.locals) (hc : cells + rm.cells ≤ R.cells) (hs : slots + rm.slots ≤ R.slots)
    {g : JFrame} (hg : g.method = m) (hsize : g.locals.size = c.maxLocals) (argsL rest : List Value) (has : argsL.toArray = as') (hlen : ∀ sig, parseMethodDescriptor y.desc = some sig → argsL.length = sig.parameters.length)
    (hstack : g.stack = argsL.reverse ++ rest) (hW : 2 * g.monitorRoom + (rest.map fun v => v.category).sum ≤ W) (hd : decode c.code g.pc = .ok (.invokestatic index, 3))
    (k : ∀ (T' : State) (L' : List Loc) (v : Option Value), Stand p l e R s m args below meth c T' (locs ++ L') (cells + rm.cells) (slots + rm.slots) → Q v T'.heap L' → G (T'.setTop { g with pc := g.pc + 3, stack := v.toList ++ rest })) : G (T.setTop g) := by
  obtain ⟨v, _, ⟨T1, L1, k1, n1⟩, -, X1, ⟨Lc, hQ, l1, y1, z1⟩, st⟩ := Jvm.LawKit.callS X hx hown (mvT hZ w1) (mvT hZ w2) (mvT hZ w3) (mvT hZ w4) hy (backOf (R := R) (W := W) (hM []) hZ w4 w3 hf hl) hg hsize hlen hstack hW hd (fun _ _ => ⟨has, eT, hc, hs⟩)
  dsimp only [Pt.U, Pt.locs, Pt.cells, Pt.slots] at X1 l1 y1 z1 st hQ
  subst l1 y1 z1
  exact go _ _ st (k T1 Lc v X1 hQ)
theorem own_init (go : Go p e below G) (X : Stand p l e R s m args below meth c T locs cells slots) (hx : p.tables.exec = Jvm.exec) (hZ : Z.Warmed39 s.vm) (eT : T.heap = h) {own : String} {index : Nat} {y : MethodName} {bytes : ByteArray} {maxL : Nat} {ret : Option FieldType} {rm : Room} {as' : Array Value} {Q : Option Value → Heap → List Loc → Prop} (hy1 : y.name = "<init>") (hown : s.vm.findClass own = some m.cls) (w1 : (Cond.methodLink own index y).before a0 Z = true) (w2 : (Cond.instanceMethod y).before a0 Z = true) (w3 : (Cond.initialized y.cls).before a0 Z = true) (w4 : (Cond.code y bytes maxL none).before a0 Z = true)
    (hy : y.cls ≠ "java/lang/invoke/MethodHandle" ∧ y.cls ≠ "java/lang/invoke/VarHandle") (hM : Con l Z y bytes maxL none rm as' h Q) (W : Nat) (hf : rm.frames + 1 ≤ R.frames) (hl : W + (maxL + 11) + rm.locals ≤ R.locals) (hc : cells + rm.cells ≤ R.cells) (hs : slots + rm.slots ≤ R.slots)
    {g : JFrame} (hg : g.method = m) (hsize : g.locals.size = c.maxLocals) (a : Addr) (argsL rest : List Value) (has : (.ref a :: argsL).toArray = as') (hlen : ∀ sig, parseMethodDescriptor y.desc = some sig → argsL.length = sig.parameters.length)
    (hstack : g.stack = argsL.reverse ++ .ref a :: rest) (hW : 2 * g.monitorRoom + (rest.map fun v => v.category).sum ≤ W) (hd : decode c.code g.pc = .ok (.invokespecial index, 3))
    (k : ∀ (T' : State) (L' : List Loc) (v : Option Value), Stand p l e R s m args below meth c T' (locs ++ L') (cells + rm.cells) (slots + rm.slots) → Q v T'.heap L' → G (T'.setTop { g with pc := g.pc + 3, stack := v.toList ++ rest })) : G (T.setTop g) := by
  obtain ⟨v, _, ⟨T1, L1, k1, n1⟩, -, X1, ⟨Lc, hQ, l1, y1, z1⟩, st⟩ := X.specialBack hx hy1 hown (mvT hZ w1) (mvT hZ w2) (mvT hZ w4) hy (backOf (R := R) (W := W) (hM []) hZ w4 w3 hf hl) hg hsize (Steps.refl _) (a := a) hlen hstack hW hd (fun _ _ => ⟨has, eT, hc, hs⟩)
  dsimp only [Pt.U, Pt.locs, Pt.cells, Pt.slots] at X1 l1 y1 z1 st hQ
  subst l1 y1 z1
  exact go _ _ (fun t k => st.trans k) (k T1 Lc v X1 hQ)
theorem own_virtual (go : Go p e below G) (X : Stand p l e R s m args below meth c T locs cells slots) (hx : p.tables.exec = Jvm.exec) (hZ : Z.Warmed39 s.vm) (eT : T.heap = h) {own : String} {index : Nat} {y : MethodName} {bytes : ByteArray} {maxL : Nat} {ret : Option FieldType} {rm : Room} {as' : Array Value} {Q : Option Value → Heap → List Loc → Prop} {C : String} {z : MethodName} (hown : s.vm.findClass own = some m.cls) (w1 : (Cond.methodLink own index y).before a0 Z = true) (w2 : (Cond.declares y).before a0 Z = true) (hnf : NotFace s y) (w3 : (Cond.selects C y z).before a0 Z = true) (w4 : (Cond.instanceMethod z).before a0 Z = true) (w5 : (Cond.initialized z.cls).before a0 Z = true) (w6 : (Cond.code z bytes maxL ret).before a0 Z = true)
    (hy : y.cls ≠ "java/lang/invoke/MethodHandle" ∧ y.cls ≠ "java/lang/invoke/VarHandle") (hM : Con l Z z bytes maxL ret rm as' h Q) (W : Nat) (hf : rm.frames + 1 ≤ R.frames) (hl : W + (maxL + 11) + rm.locals ≤ R.locals) (hc : cells + rm.cells ≤ R.cells) (hs : slots + rm.slots ≤ R.slots)
    {a : Addr} (E : Exa Z h a C) {g : JFrame} (hg : g.method = m) (hsize : g.locals.size = c.maxLocals) (argsL rest : List Value) (has : (.ref a :: argsL).toArray = as') (hlen : ∀ sig, parseMethodDescriptor y.desc = some sig → argsL.length = sig.parameters.length)
    (hstack : g.stack = argsL.reverse ++ .ref a :: rest) (hW : 2 * g.monitorRoom + (rest.map fun v => v.category).sum ≤ W) (hd : decode c.code g.pc = .ok (.invokevirtual index, 3))
    (k : ∀ (T' : State) (L' : List Loc) (v : Option Value), Stand p l e R s m args below meth c T' (locs ++ L') (cells + rm.cells) (slots + rm.slots) → Q v T'.heap L' → G (T'.setTop { g with pc := g.pc + 3, stack := v.toList ++ rest })) : G (T.setTop g) := by
  obtain ⟨cq, kq, qa, qb, qc⟩ := isOf hZ eT E
  obtain ⟨v, _, ⟨T1, L1, k1, n1⟩, -, X1, ⟨Lc, hQ, l1, y1, z1⟩, st⟩ := X.virtualBack hx hown (mvT hZ w1) (mvT hZ w2) hnf (mvT hZ w3) (mvT hZ w4) hy (backOf (R := R) (W := W) (hM []) hZ w6 w5 hf hl) qa qc hg hsize (Steps.refl _) hlen hstack hW hd (fun _ _ => ⟨has, eT, hc, hs⟩)
  dsimp only [Pt.U, Pt.locs, Pt.cells, Pt.slots] at X1 l1 y1 z1 st hQ
  subst l1 y1 z1
  exact go _ _ (fun t k => st.trans k) (k T1 Lc v X1 hQ)
theorem own_private (go : Go p e below G) (X : Stand p l e R s m args below meth c T locs cells slots) (hx : p.tables.exec = Jvm.exec) (hZ : Z.Warmed39 s.vm) (eT : T.heap = h) {own : String} {index : Nat} {y : MethodName} {bytes : ByteArray} {maxL : Nat} {ret : Option FieldType} {rm : Room} {as' : Array Value} {Q : Option Value → Heap → List Loc → Prop} (hown : s.vm.findClass own = some m.cls) (w1 : (Cond.methodLink own index y).before a0 Z = true) (w2 : (Cond.instanceMethod y).before a0 Z = true) (w3 : (Cond.selects y.cls y y).before a0 Z = true) (w4 : (Cond.privateMethod y).before a0 Z = true) (w5 : (Cond.initialized y.cls).before a0 Z = true) (w6 : (Cond.code y bytes maxL ret).before a0 Z = true)
    (hy : y.cls ≠ "java/lang/invoke/MethodHandle" ∧ y.cls ≠ "java/lang/invoke/VarHandle") (hM : Con l Z y bytes maxL ret rm as' h Q) (W : Nat) (hf : rm.frames + 1 ≤ R.frames) (hl : W + (maxL + 11) + rm.locals ≤ R.locals) (hc : cells + rm.cells ≤ R.cells) (hs : slots + rm.slots ≤ R.slots)
    {a : Addr} {C : String} (E : Exa Z h a C) {g : JFrame} (hg : g.method = m) (hsize : g.locals.size = c.maxLocals) (argsL rest : List Value) (has : (.ref a :: argsL).toArray = as') (hlen : ∀ sig, parseMethodDescriptor y.desc = some sig → argsL.length = sig.parameters.length)
    (hstack : g.stack = argsL.reverse ++ .ref a :: rest) (hW : 2 * g.monitorRoom + (rest.map fun v => v.category).sum ≤ W) (hd : decode c.code g.pc = .ok (.invokevirtual index, 3))
    (k : ∀ (T' : State) (L' : List Loc) (v : Option Value), Stand p l e R s m args below meth c T' (locs ++ L') (cells + rm.cells) (slots + rm.slots) → Q v T'.heap L' → G (T'.setTop { g with pc := g.pc + 3, stack := v.toList ++ rest })) : G (T.setTop g) := by
  obtain ⟨cq, q1, q2⟩ := E.cell
  obtain ⟨v, _, ⟨T1, L1, k1, n1⟩, -, X1, ⟨Lc, hQ, l1, y1, z1⟩, st⟩ := X.privateBack hx hown (mvT hZ w1) (mvT hZ w2) (mvT hZ w3) (Cond.privateMethod_at (mvP hZ w4 (args := #[]))) (mvT hZ w6) hy (backOf (R := R) (W := W) (hM []) hZ w6 w5 hf hl) hg hsize (Steps.refl _) (a := a) (by rw [eT]; exact q1) q2 hlen hstack hW hd (fun _ _ => ⟨has, eT, hc, hs⟩)
  dsimp only [Pt.U, Pt.locs, Pt.cells, Pt.slots] at X1 l1 y1 z1 st hQ
  subst l1 y1 z1
  exact go _ _ (fun t k => st.trans k) (k T1 Lc v X1 hQ)
end Calls
end Own

def mOf (q : Int64) : Int64 := (q ^^^ ((q.toUInt64 >>> ((32 : Int32) &&& 0x3f).toInt64.toUInt64).toInt64)) * (-7046029254386353131 : Int64)
def tOf (q : Int64) : Int32 := (((mOf q).toUInt64 >>> ((32 : Int32) &&& 0x3f).toInt64.toUInt64).toInt64).toInt32
theorem own_k31 (k : Int32) (h0 : 0 ≤ k.toInt) (h1 : k.toInt < 31) : ∃ i : Fin 31, k = Int32.ofNat i.1 := by
  refine ⟨⟨k.toInt.toNat, by omega⟩, ?_⟩
  rw [← Int32.toInt_inj]
  show k.toInt = (Int32.ofNat k.toInt.toNat).toInt
  rw [Int32.toInt_ofNat_small (by omega)]
  omega
theorem own_tab : ∀ i : Fin 31, (1073741823 : Int32) &&& (((1 : Int32) <<< (Int32.ofNat i.1 &&& 31)) - 1) = ((1 : Int32) <<< (Int32.ofNat i.1 &&& 31)) - 1 ∧ (((1 : Int32) <<< (Int32.ofNat i.1 &&& 31)) - 1).toInt = ((1 : Int32) <<< (Int32.ofNat i.1 &&& 31)).toInt - 1 ∧ 0 ≤ (((1 : Int32) <<< (Int32.ofNat i.1 &&& 31)) - 1).toInt := by decide +kernel
theorem own_math (p k : Int32) (hk : k = (p &&& 2147483647) % 31) (t : Int32) :
    ¬ (t &&& (((1 : Int32) <<< (k &&& 31)) - 1)) < 0 ∧ (t &&& (((1 : Int32) <<< (k &&& 31)) - 1)) < (1 : Int32) <<< (k &&& 31) ∧ (t &&& (((1 : Int32) <<< (k &&& 31)) - 1)) = (t &&& (1073741824 - 1)) &&& (((1 : Int32) <<< (k &&& 31)) - 1) := by
  have e1 : (p &&& 2147483647).toInt = p.toInt % (2 ^ 31 : Nat) := c_mask p _ 31 (by decide) (by decide)
  have e2 := (c_irem (p &&& 2147483647) 31 31 rfl).1 (by omega)
  rw [← hk] at e2
  obtain ⟨i, rfl⟩ := own_k31 k (by omega) (by omega)
  obtain ⟨t1, t2, t3⟩ := own_tab i
  obtain ⟨b1, b2⟩ := c_and t _ t3
  refine ⟨?_, ?_, ?_⟩
  · rw [Int32.lt_iff_toInt_lt]; show ¬ _ < (0 : Int); omega
  · rw [Int32.lt_iff_toInt_lt]; omega
  · rw [Int32.and_assoc]; show _ = t &&& ((1073741823 : Int32) &&& _); rw [t1]
theorem own_mix (q : Int64) : ((q ^^^ ((q.toUInt64 >>> ((32 : Int32) &&& 0x3f).toInt64.toUInt64).toInt64)) ^^^ ((0 : Int32).toInt64)) * (-7046029254386353131 : Int64) = mOf q := by
  show ((q ^^^ ((q.toUInt64 >>> ((32 : Int32) &&& 0x3f).toInt64.toUInt64).toInt64)) ^^^ (0 : Int64)) * (-7046029254386353131 : Int64) = _
  rw [Int64.xor_zero]; rfl
theorem d1_0 : decode prog_8_method_4_code 0 = .ok (.lload_n 0, 1) := by decide +kernel
theorem d1_1 : decode prog_8_method_4_code 1 = .ok (.lload_n 0, 1) := by decide +kernel
theorem d1_2 : decode prog_8_method_4_code 2 = .ok (.bipush 32, 2) := by decide +kernel
theorem d1_4 : decode prog_8_method_4_code 4 = .ok (.lushr, 1) := by decide +kernel
theorem d1_5 : decode prog_8_method_4_code 5 = .ok (.lxor, 1) := by decide +kernel
theorem d1_6 : decode prog_8_method_4_code 6 = .ok (.ldc2_w 21, 3) := by decide +kernel
theorem d1_9 : decode prog_8_method_4_code 9 = .ok (.lmul, 1) := by decide +kernel
theorem d1_10 : decode prog_8_method_4_code 10 = .ok (.lstore_n 3, 1) := by decide +kernel
theorem d1_11 : decode prog_8_method_4_code 11 = .ok (.lload_n 3, 1) := by decide +kernel
theorem d1_12 : decode prog_8_method_4_code 12 = .ok (.bipush 32, 2) := by decide +kernel
theorem d1_14 : decode prog_8_method_4_code 14 = .ok (.lushr, 1) := by decide +kernel
theorem d1_15 : decode prog_8_method_4_code 15 = .ok (.l2i, 1) := by decide +kernel
theorem d1_16 : decode prog_8_method_4_code 16 = .ok (.iload_n 2, 1) := by decide +kernel
theorem d1_17 : decode prog_8_method_4_code 17 = .ok (.iconst 1, 1) := by decide +kernel
theorem d1_18 : decode prog_8_method_4_code 18 = .ok (.isub, 1) := by decide +kernel
theorem d1_19 : decode prog_8_method_4_code 19 = .ok (.iand, 1) := by decide +kernel
theorem d1_20 : decode prog_8_method_4_code 20 = .ok (.ireturn, 1) := by decide +kernel
theorem d2_0 : decode prog_8_method_3_code 0 = .ok (.lload_n 0, 1) := by decide +kernel
theorem d2_1 : decode prog_8_method_3_code 1 = .ok (.iload_n 2, 1) := by decide +kernel
theorem d2_2 : decode prog_8_method_3_code 2 = .ok (.i2l, 1) := by decide +kernel
theorem d2_3 : decode prog_8_method_3_code 3 = .ok (.lxor, 1) := by decide +kernel
theorem d2_4 : decode prog_8_method_3_code 4 = .ok (.ldc2_w 21, 3) := by decide +kernel
theorem d2_7 : decode prog_8_method_3_code 7 = .ok (.lmul, 1) := by decide +kernel
theorem d2_8 : decode prog_8_method_3_code 8 = .ok (.lreturn, 1) := by decide +kernel
theorem pd_0 : parseMethodDescriptor "(JI)I" = some ⟨[.long, .int], some .int⟩ := by decide +kernel
theorem pd_1 : parseMethodDescriptor "(JI)J" = some ⟨[.long, .int], some .long⟩ := by decide +kernel
theorem pn_1 : plainName "com/example/brevidns/brevidns/OctetHash" = true := by first | (simp [plainName, overriddenIn]; done) | decide +kernel
theorem ef_rm1 (m : MethodId) (x0 : Int64) (x1 : Int32) : entryFrame m #[(.long x0), (.int x1)] 5 = mkF m 0 #[.val (.long x0), .second, .val (.int x1), .unset, .unset] [] := by first | (simp [entryFrame, mkF, argsToLocals, Value.category]; done) | rfl
set_option maxRecDepth 65536 in
set_option maxHeartbeats 40000000 in
theorem rm1 (l : Launch) (Z : State) (a0 : Array Value) (hw : ∀ d ∈ tables_1, d.before a0 Z = true) (u0 : Int64) (u1 : Int32) (h0 : Heap) (n0 : Nat) (Z0 : n0 ≤ h0.size)  :
    Con l Z (⟨"com/example/brevidns/brevidns/OctetHash", "place", "(JI)I"⟩ : MethodName) prog_8_method_4_code 5 (some .int) ({ frames := 0, cells := 0, slots := 0, locals := 0 } : Room) #[(.long u0), (.int u1)] h0 (fun v h L => v = some (.int (tOf u0 &&& (u1 - 1))) ∧ Fr n0 L ∧ h = h0) := by
  refine own_body pn_1 ?_
  intro p e s m below meth c s₁ hx hby hml hown hnm hret hZ e0 X0 G go rt
  have N0 := Fr.nil n0
  rw [ef_rm1 m u0 u1]
  show G (s₁.setTop (mkF m 0 #[.val (.long u0), .second, .val (.int u1), .unset, .unset] []))
  refine go _ _ (fun t' k' => XS.lloadN X0.here hx rfl (hb hby d1_0) rfl  k') ?_
  show G (s₁.setTop (mkF m 1 #[.val (.long u0), .second, .val (.int u1), .unset, .unset] [(.long u0)]))
  refine go _ _ (fun t' k' => XS.lloadN X0.here hx rfl (hb hby d1_1) rfl  k') ?_
  show G (s₁.setTop (mkF m 2 #[.val (.long u0), .second, .val (.int u1), .unset, .unset] [(.long u0), (.long u0)]))
  refine go _ _ (fun t' k' => XS.bipush X0.here hx rfl (hb hby d1_2) k') ?_
  show G (s₁.setTop (mkF m 4 #[.val (.long u0), .second, .val (.int u1), .unset, .unset] [(.int (32 : Int32)), (.long u0), (.long u0)]))
  refine go _ _ (fun t' k' => XS.lushr X0.here hx rfl (hb hby d1_4) rfl k') ?_
  show G (s₁.setTop (mkF m 5 #[.val (.long u0), .second, .val (.int u1), .unset, .unset] [(.long ((u0.toUInt64 >>> ((32 : Int32) &&& 0x3f).toInt64.toUInt64).toInt64)), (.long u0)]))
  refine go _ _ (fun t' k' => XS.lxor X0.here hx rfl (hb hby d1_5) rfl k') ?_
  show G (s₁.setTop (mkF m 6 #[.val (.long u0), .second, .val (.int u1), .unset, .unset] [(.long (u0 ^^^ ((u0.toUInt64 >>> ((32 : Int32) &&& 0x3f).toInt64.toUInt64).toInt64)))]))
  refine go _ _ (fun t' k' => X0.ldc2Long hx hown (mvT hZ (hw _ (List.mem_of_getElem? (i := 5) rfl))) (g := (mkF m 6 #[.val (.long u0), .second, .val (.int u1), .unset, .unset] [(.long (u0 ^^^ ((u0.toUInt64 >>> ((32 : Int32) &&& 0x3f).toInt64.toUInt64).toInt64)))])) rfl (hb hby d1_6) _ k') ?_
  show G (s₁.setTop (mkF m 9 #[.val (.long u0), .second, .val (.int u1), .unset, .unset] [(.long (-7046029254386353131 : Int64)), (.long (u0 ^^^ ((u0.toUInt64 >>> ((32 : Int32) &&& 0x3f).toInt64.toUInt64).toInt64)))]))
  refine go _ _ (fun t' k' => XS.lmul X0.here hx rfl (hb hby d1_9) rfl k') ?_
  show G (s₁.setTop (mkF m 10 #[.val (.long u0), .second, .val (.int u1), .unset, .unset] [(.long ((u0 ^^^ ((u0.toUInt64 >>> ((32 : Int32) &&& 0x3f).toInt64.toUInt64).toInt64)) * (-7046029254386353131 : Int64)))]))
  refine go _ _ (fun t' k' => XS.lstoreN X0.here hx rfl (hb hby d1_10) rfl (l' := #[.val (.long u0), .second, .val (.int u1), .val (.long ((u0 ^^^ ((u0.toUInt64 >>> ((32 : Int32) &&& 0x3f).toInt64.toUInt64).toInt64)) * (-7046029254386353131 : Int64))), .second]) rfl k') ?_
  show G (s₁.setTop (mkF m 11 #[.val (.long u0), .second, .val (.int u1), .val (.long ((u0 ^^^ ((u0.toUInt64 >>> ((32 : Int32) &&& 0x3f).toInt64.toUInt64).toInt64)) * (-7046029254386353131 : Int64))), .second] []))
  refine go _ _ (fun t' k' => XS.lloadN X0.here hx rfl (hb hby d1_11) rfl  k') ?_
  show G (s₁.setTop (mkF m 12 #[.val (.long u0), .second, .val (.int u1), .val (.long ((u0 ^^^ ((u0.toUInt64 >>> ((32 : Int32) &&& 0x3f).toInt64.toUInt64).toInt64)) * (-7046029254386353131 : Int64))), .second] [(.long ((u0 ^^^ ((u0.toUInt64 >>> ((32 : Int32) &&& 0x3f).toInt64.toUInt64).toInt64)) * (-7046029254386353131 : Int64)))]))
  refine go _ _ (fun t' k' => XS.bipush X0.here hx rfl (hb hby d1_12) k') ?_
  show G (s₁.setTop (mkF m 14 #[.val (.long u0), .second, .val (.int u1), .val (.long ((u0 ^^^ ((u0.toUInt64 >>> ((32 : Int32) &&& 0x3f).toInt64.toUInt64).toInt64)) * (-7046029254386353131 : Int64))), .second] [(.int (32 : Int32)), (.long ((u0 ^^^ ((u0.toUInt64 >>> ((32 : Int32) &&& 0x3f).toInt64.toUInt64).toInt64)) * (-7046029254386353131 : Int64)))]))
  refine go _ _ (fun t' k' => XS.lushr X0.here hx rfl (hb hby d1_14) rfl k') ?_
  show G (s₁.setTop (mkF m 15 #[.val (.long u0), .second, .val (.int u1), .val (.long ((u0 ^^^ ((u0.toUInt64 >>> ((32 : Int32) &&& 0x3f).toInt64.toUInt64).toInt64)) * (-7046029254386353131 : Int64))), .second] [(.long ((((u0 ^^^ ((u0.toUInt64 >>> ((32 : Int32) &&& 0x3f).toInt64.toUInt64).toInt64)) * (-7046029254386353131 : Int64)).toUInt64 >>> ((32 : Int32) &&& 0x3f).toInt64.toUInt64).toInt64))]))
  refine go _ _ (fun t' k' => XS.l2i X0.here hx rfl (hb hby d1_15) rfl k') ?_
  show G (s₁.setTop (mkF m 16 #[.val (.long u0), .second, .val (.int u1), .val (.long ((u0 ^^^ ((u0.toUInt64 >>> ((32 : Int32) &&& 0x3f).toInt64.toUInt64).toInt64)) * (-7046029254386353131 : Int64))), .second] [(.int (((((u0 ^^^ ((u0.toUInt64 >>> ((32 : Int32) &&& 0x3f).toInt64.toUInt64).toInt64)) * (-7046029254386353131 : Int64)).toUInt64 >>> ((32 : Int32) &&& 0x3f).toInt64.toUInt64).toInt64).toInt32))]))
  refine go _ _ (fun t' k' => XS.iloadN X0.here hx rfl (hb hby d1_16) rfl  k') ?_
  show G (s₁.setTop (mkF m 17 #[.val (.long u0), .second, .val (.int u1), .val (.long ((u0 ^^^ ((u0.toUInt64 >>> ((32 : Int32) &&& 0x3f).toInt64.toUInt64).toInt64)) * (-7046029254386353131 : Int64))), .second] [(.int u1), (.int (((((u0 ^^^ ((u0.toUInt64 >>> ((32 : Int32) &&& 0x3f).toInt64.toUInt64).toInt64)) * (-7046029254386353131 : Int64)).toUInt64 >>> ((32 : Int32) &&& 0x3f).toInt64.toUInt64).toInt64).toInt32))]))
  refine go _ _ (fun t' k' => XS.iconst X0.here hx rfl (hb hby d1_17) k') ?_
  show G (s₁.setTop (mkF m 18 #[.val (.long u0), .second, .val (.int u1), .val (.long ((u0 ^^^ ((u0.toUInt64 >>> ((32 : Int32) &&& 0x3f).toInt64.toUInt64).toInt64)) * (-7046029254386353131 : Int64))), .second] [(.int (1 : Int32)), (.int u1), (.int (((((u0 ^^^ ((u0.toUInt64 >>> ((32 : Int32) &&& 0x3f).toInt64.toUInt64).toInt64)) * (-7046029254386353131 : Int64)).toUInt64 >>> ((32 : Int32) &&& 0x3f).toInt64.toUInt64).toInt64).toInt32))]))
  refine go _ _ (fun t' k' => XS.isub X0.here hx rfl (hb hby d1_18) rfl k') ?_
  show G (s₁.setTop (mkF m 19 #[.val (.long u0), .second, .val (.int u1), .val (.long ((u0 ^^^ ((u0.toUInt64 >>> ((32 : Int32) &&& 0x3f).toInt64.toUInt64).toInt64)) * (-7046029254386353131 : Int64))), .second] [(.int (u1 - (1 : Int32))), (.int (((((u0 ^^^ ((u0.toUInt64 >>> ((32 : Int32) &&& 0x3f).toInt64.toUInt64).toInt64)) * (-7046029254386353131 : Int64)).toUInt64 >>> ((32 : Int32) &&& 0x3f).toInt64.toUInt64).toInt64).toInt32))]))
  refine go _ _ (fun t' k' => XS.iand X0.here hx rfl (hb hby d1_19) rfl k') ?_
  show G (s₁.setTop (mkF m 20 #[.val (.long u0), .second, .val (.int u1), .val (.long ((u0 ^^^ ((u0.toUInt64 >>> ((32 : Int32) &&& 0x3f).toInt64.toUInt64).toInt64)) * (-7046029254386353131 : Int64))), .second] [(.int ((((((u0 ^^^ ((u0.toUInt64 >>> ((32 : Int32) &&& 0x3f).toInt64.toUInt64).toInt64)) * (-7046029254386353131 : Int64)).toUInt64 >>> ((32 : Int32) &&& 0x3f).toInt64.toUInt64).toInt64).toInt32) &&& (u1 - (1 : Int32))))]))
  refine own_retI rt X0 hx hret (hb hby d1_20) (by decide) (by decide) ?_
  exact ⟨rfl, N0, e0⟩
theorem pn_2 : plainName "com/example/brevidns/brevidns/OctetHash" = true := by first | (simp [plainName, overriddenIn]; done) | decide +kernel
theorem ef_rm2 (m : MethodId) (x0 : Int64) (x1 : Int32) : entryFrame m #[(.long x0), (.int x1)] 3 = mkF m 0 #[.val (.long x0), .second, .val (.int x1)] [] := by first | (simp [entryFrame, mkF, argsToLocals, Value.category]; done) | rfl
set_option maxRecDepth 65536 in
set_option maxHeartbeats 40000000 in
theorem rm2 (l : Launch) (Z : State) (a0 : Array Value) (hw : ∀ d ∈ tables_1, d.before a0 Z = true) (u0 : Int64) (u1 : Int32) (h0 : Heap) (n0 : Nat) (Z0 : n0 ≤ h0.size)  :
    Con l Z (⟨"com/example/brevidns/brevidns/OctetHash", "mix", "(JI)J"⟩ : MethodName) prog_8_method_3_code 3 (some .long) ({ frames := 0, cells := 0, slots := 0, locals := 0 } : Room) #[(.long u0), (.int u1)] h0 (fun v h L => v = some (.long ((u0 ^^^ u1.toInt64) * (-7046029254386353131 : Int64))) ∧ Fr n0 L ∧ h = h0) := by
  refine own_body pn_2 ?_
  intro p e s m below meth c s₁ hx hby hml hown hnm hret hZ e0 X0 G go rt
  have N0 := Fr.nil n0
  rw [ef_rm2 m u0 u1]
  show G (s₁.setTop (mkF m 0 #[.val (.long u0), .second, .val (.int u1)] []))
  refine go _ _ (fun t' k' => XS.lloadN X0.here hx rfl (hb hby d2_0) rfl  k') ?_
  show G (s₁.setTop (mkF m 1 #[.val (.long u0), .second, .val (.int u1)] [(.long u0)]))
  refine go _ _ (fun t' k' => XS.iloadN X0.here hx rfl (hb hby d2_1) rfl  k') ?_
  show G (s₁.setTop (mkF m 2 #[.val (.long u0), .second, .val (.int u1)] [(.int u1), (.long u0)]))
  refine go _ _ (fun t' k' => XS.i2l X0.here hx rfl (hb hby d2_2) rfl k') ?_
  show G (s₁.setTop (mkF m 3 #[.val (.long u0), .second, .val (.int u1)] [(.long (u1.toInt64)), (.long u0)]))
  refine go _ _ (fun t' k' => XS.lxor X0.here hx rfl (hb hby d2_3) rfl k') ?_
  show G (s₁.setTop (mkF m 4 #[.val (.long u0), .second, .val (.int u1)] [(.long (u0 ^^^ (u1.toInt64)))]))
  refine go _ _ (fun t' k' => X0.ldc2Long hx hown (mvT hZ (hw _ (List.mem_of_getElem? (i := 5) rfl))) (g := (mkF m 4 #[.val (.long u0), .second, .val (.int u1)] [(.long (u0 ^^^ (u1.toInt64)))])) rfl (hb hby d2_4) _ k') ?_
  show G (s₁.setTop (mkF m 7 #[.val (.long u0), .second, .val (.int u1)] [(.long (-7046029254386353131 : Int64)), (.long (u0 ^^^ (u1.toInt64)))]))
  refine go _ _ (fun t' k' => XS.lmul X0.here hx rfl (hb hby d2_7) rfl k') ?_
  show G (s₁.setTop (mkF m 8 #[.val (.long u0), .second, .val (.int u1)] [(.long ((u0 ^^^ (u1.toInt64)) * (-7046029254386353131 : Int64)))]))
  refine own_retJ rt X0 hx hret (hb hby d2_8) (by decide) (by decide) ?_
  exact ⟨rfl, N0, e0⟩
theorem pn_0 : plainName "com/example/brevidns/brevidns/OctetHashPlacePinLaw" = true := by first | (simp [plainName, overriddenIn]; done) | decide +kernel
theorem ef_rm0 (m : MethodId) (x0 : Int64) (x1 : Int32) : entryFrame m #[(.long x0), (.int x1)] maxLocals = mkF m 0 #[.val (.long x0), .second, .val (.int x1), .unset, .unset, .unset, .unset, .unset, .unset, .unset, .unset, .unset, .unset] [] := by first | (simp [entryFrame, mkF, argsToLocals, Value.category, maxLocals]; done) | rfl
set_option maxRecDepth 65536 in
set_option maxHeartbeats 40000000 in
theorem rm0 (l : Launch) (Z : State) (a0 : Array Value) (hw : ∀ d ∈ tables_1, d.before a0 Z = true) (u0 : Int64) (u1 : Int32) (h0 : Heap) (n0 : Nat) (Z0 : n0 ≤ h0.size)  :
    Con l Z x code maxLocals ret room_1 #[(.long u0), (.int u1)] h0 (fun v h L => v = some (.int 1) ∧ Fr n0 L) := by
  refine own_body pn_0 ?_
  intro p e s m below meth c s₁ hx hby hml hown hnm hret hZ e0 X0 G go rt
  have N0 := Fr.nil n0
  rw [ef_rm0 m u0 u1]
  show G (s₁.setTop (mkF m 0 #[.val (.long u0), .second, .val (.int u1), .unset, .unset, .unset, .unset, .unset, .unset, .unset, .unset, .unset, .unset] []))
  refine go _ _ (fun t' k' => XS.iloadN X0.here hx rfl (hb hby at_0) rfl  k') ?_
  show G (s₁.setTop (mkF m 1 #[.val (.long u0), .second, .val (.int u1), .unset, .unset, .unset, .unset, .unset, .unset, .unset, .unset, .unset, .unset] [(.int u1)]))
  refine go _ _ (fun t' k' => X0.ldcInt hx hown (mvT hZ (hw _ (List.mem_of_getElem? (i := 0) rfl))) (g := (mkF m 1 #[.val (.long u0), .second, .val (.int u1), .unset, .unset, .unset, .unset, .unset, .unset, .unset, .unset, .unset, .unset] [(.int u1)])) rfl (hb hby at_1) _ k') ?_
  show G (s₁.setTop (mkF m 3 #[.val (.long u0), .second, .val (.int u1), .unset, .unset, .unset, .unset, .unset, .unset, .unset, .unset, .unset, .unset] [(.int (2147483647 : Int32)), (.int u1)]))
  refine go _ _ (fun t' k' => XS.iand X0.here hx rfl (hb hby at_3) rfl k') ?_
  show G (s₁.setTop (mkF m 4 #[.val (.long u0), .second, .val (.int u1), .unset, .unset, .unset, .unset, .unset, .unset, .unset, .unset, .unset, .unset] [(.int (u1 &&& (2147483647 : Int32)))]))
  refine go _ _ (fun t' k' => XS.bipush X0.here hx rfl (hb hby at_4) k') ?_
  show G (s₁.setTop (mkF m 6 #[.val (.long u0), .second, .val (.int u1), .unset, .unset, .unset, .unset, .unset, .unset, .unset, .unset, .unset, .unset] [(.int (31 : Int32)), (.int (u1 &&& (2147483647 : Int32)))]))
  refine go _ _ (fun t' k' => iremM X0 hx rfl (hb hby at_6) rfl (by decide) k') ?_
  show G (s₁.setTop (mkF m 7 #[.val (.long u0), .second, .val (.int u1), .unset, .unset, .unset, .unset, .unset, .unset, .unset, .unset, .unset, .unset] [(.int ((u1 &&& (2147483647 : Int32)) % (31 : Int32)))]))
  refine go _ _ (fun t' k' => XS.istoreN X0.here hx rfl (hb hby at_7) rfl (l' := #[.val (.long u0), .second, .val (.int u1), .val (.int ((u1 &&& (2147483647 : Int32)) % (31 : Int32))), .unset, .unset, .unset, .unset, .unset, .unset, .unset, .unset, .unset]) rfl k') ?_
  show G (s₁.setTop (mkF m 8 #[.val (.long u0), .second, .val (.int u1), .val (.int ((u1 &&& (2147483647 : Int32)) % (31 : Int32))), .unset, .unset, .unset, .unset, .unset, .unset, .unset, .unset, .unset] []))
  obtain ⟨kk, hkk⟩ : ∃ z, z = ((u1 &&& (2147483647 : Int32)) % (31 : Int32)) := ⟨_, rfl⟩
  rw [← hkk]
  show G (s₁.setTop (mkF m 8 #[.val (.long u0), .second, .val (.int u1), .val (.int kk), .unset, .unset, .unset, .unset, .unset, .unset, .unset, .unset, .unset] []))
  refine go _ _ (fun t' k' => XS.iconst X0.here hx rfl (hb hby at_8) k') ?_
  show G (s₁.setTop (mkF m 9 #[.val (.long u0), .second, .val (.int u1), .val (.int kk), .unset, .unset, .unset, .unset, .unset, .unset, .unset, .unset, .unset] [(.int (1 : Int32))]))
  refine go _ _ (fun t' k' => XS.iloadN X0.here hx rfl (hb hby at_9) rfl  k') ?_
  show G (s₁.setTop (mkF m 10 #[.val (.long u0), .second, .val (.int u1), .val (.int kk), .unset, .unset, .unset, .unset, .unset, .unset, .unset, .unset, .unset] [(.int kk), (.int (1 : Int32))]))
  refine go _ _ (fun t' k' => XS.ishl X0.here hx rfl (hb hby at_10) rfl k') ?_
  show G (s₁.setTop (mkF m 11 #[.val (.long u0), .second, .val (.int u1), .val (.int kk), .unset, .unset, .unset, .unset, .unset, .unset, .unset, .unset, .unset] [(.int ((1 : Int32) <<< (kk &&& 31)))]))
  refine go _ _ (fun t' k' => XS.istore X0.here hx rfl (hb hby at_11) rfl (l' := #[.val (.long u0), .second, .val (.int u1), .val (.int kk), .val (.int ((1 : Int32) <<< (kk &&& 31))), .unset, .unset, .unset, .unset, .unset, .unset, .unset, .unset]) rfl k') ?_
  show G (s₁.setTop (mkF m 13 #[.val (.long u0), .second, .val (.int u1), .val (.int kk), .val (.int ((1 : Int32) <<< (kk &&& 31))), .unset, .unset, .unset, .unset, .unset, .unset, .unset, .unset] []))
  refine go _ _ (fun t' k' => XS.lloadN X0.here hx rfl (hb hby at_13) rfl  k') ?_
  show G (s₁.setTop (mkF m 14 #[.val (.long u0), .second, .val (.int u1), .val (.int kk), .val (.int ((1 : Int32) <<< (kk &&& 31))), .unset, .unset, .unset, .unset, .unset, .unset, .unset, .unset] [(.long u0)]))
  refine go _ _ (fun t' k' => XS.iload X0.here hx rfl (hb hby at_14) rfl  k') ?_
  show G (s₁.setTop (mkF m 16 #[.val (.long u0), .second, .val (.int u1), .val (.int kk), .val (.int ((1 : Int32) <<< (kk &&& 31))), .unset, .unset, .unset, .unset, .unset, .unset, .unset, .unset] [(.int ((1 : Int32) <<< (kk &&& 31))), (.long u0)]))
  refine own_static go X0 hx hZ e0 hown (hw _ (List.mem_of_getElem? (i := 1) rfl)) (hw _ (List.mem_of_getElem? (i := 2) rfl)) (hw _ (List.mem_of_getElem? (i := 3) rfl)) (hw _ (List.mem_of_getElem? (i := 4) rfl)) (by decide) (rm1 l Z a0 hw u0 ((1 : Int32) <<< (kk &&& 31)) h0 n0 Z0) 0 (by decide) (by decide) (by decide) (by decide) (g := (mkF m 16 #[.val (.long u0), .second, .val (.int u1), .val (.int kk), .val (.int ((1 : Int32) <<< (kk &&& 31))), .unset, .unset, .unset, .unset, .unset, .unset, .unset, .unset] [(.int ((1 : Int32) <<< (kk &&& 31))), (.long u0)])) rfl (by rw [hml]; rfl) [(.long u0), (.int ((1 : Int32) <<< (kk &&& 31)))] [] rfl (lenOf pd_0 rfl) rfl (by show 2 * 0 + _ ≤ _; exact Nat.le_of_eq rfl) (hb hby at_16) ?_
  intro T1 L1 v1 X1 q1
  obtain ⟨rfl, N1, hh1⟩ := q1
  have N2 := Fr.app N0 N1
  show G (T1.setTop (mkF m 19 #[.val (.long u0), .second, .val (.int u1), .val (.int kk), .val (.int ((1 : Int32) <<< (kk &&& 31))), .unset, .unset, .unset, .unset, .unset, .unset, .unset, .unset] [(.int (tOf u0 &&& (((1 : Int32) <<< (kk &&& 31)) - (1 : Int32))))]))
  refine go _ _ (fun t' k' => XS.istore X1.here hx rfl (hb hby at_19) rfl (l' := #[.val (.long u0), .second, .val (.int u1), .val (.int kk), .val (.int ((1 : Int32) <<< (kk &&& 31))), .val (.int (tOf u0 &&& (((1 : Int32) <<< (kk &&& 31)) - (1 : Int32)))), .unset, .unset, .unset, .unset, .unset, .unset, .unset]) rfl k') ?_
  show G (T1.setTop (mkF m 21 #[.val (.long u0), .second, .val (.int u1), .val (.int kk), .val (.int ((1 : Int32) <<< (kk &&& 31))), .val (.int (tOf u0 &&& (((1 : Int32) <<< (kk &&& 31)) - (1 : Int32)))), .unset, .unset, .unset, .unset, .unset, .unset, .unset] []))
  refine go _ _ (fun t' k' => XS.lloadN X1.here hx rfl (hb hby at_21) rfl  k') ?_
  show G (T1.setTop (mkF m 22 #[.val (.long u0), .second, .val (.int u1), .val (.int kk), .val (.int ((1 : Int32) <<< (kk &&& 31))), .val (.int (tOf u0 &&& (((1 : Int32) <<< (kk &&& 31)) - (1 : Int32)))), .unset, .unset, .unset, .unset, .unset, .unset, .unset] [(.long u0)]))
  refine go _ _ (fun t' k' => X1.ldcInt hx hown (mvT hZ (hw _ (List.mem_of_getElem? (i := 6) rfl))) (g := (mkF m 22 #[.val (.long u0), .second, .val (.int u1), .val (.int kk), .val (.int ((1 : Int32) <<< (kk &&& 31))), .val (.int (tOf u0 &&& (((1 : Int32) <<< (kk &&& 31)) - (1 : Int32)))), .unset, .unset, .unset, .unset, .unset, .unset, .unset] [(.long u0)])) rfl (hb hby at_22) _ k') ?_
  show G (T1.setTop (mkF m 24 #[.val (.long u0), .second, .val (.int u1), .val (.int kk), .val (.int ((1 : Int32) <<< (kk &&& 31))), .val (.int (tOf u0 &&& (((1 : Int32) <<< (kk &&& 31)) - (1 : Int32)))), .unset, .unset, .unset, .unset, .unset, .unset, .unset] [(.int (1073741824 : Int32)), (.long u0)]))
  refine own_static go X1 hx hZ hh1 hown (hw _ (List.mem_of_getElem? (i := 1) rfl)) (hw _ (List.mem_of_getElem? (i := 2) rfl)) (hw _ (List.mem_of_getElem? (i := 3) rfl)) (hw _ (List.mem_of_getElem? (i := 4) rfl)) (by decide) (rm1 l Z a0 hw u0 (1073741824 : Int32) h0 n0 Z0) 0 (by decide) (by decide) (by decide) (by decide) (g := (mkF m 24 #[.val (.long u0), .second, .val (.int u1), .val (.int kk), .val (.int ((1 : Int32) <<< (kk &&& 31))), .val (.int (tOf u0 &&& (((1 : Int32) <<< (kk &&& 31)) - (1 : Int32)))), .unset, .unset, .unset, .unset, .unset, .unset, .unset] [(.int (1073741824 : Int32)), (.long u0)])) rfl (by rw [hml]; rfl) [(.long u0), (.int (1073741824 : Int32))] [] rfl (lenOf pd_0 rfl) rfl (by show 2 * 0 + _ ≤ _; exact Nat.le_of_eq rfl) (hb hby at_24) ?_
  intro T3 L3 v3 X3 q3
  obtain ⟨rfl, N3, hh3⟩ := q3
  have N4 := Fr.app N2 N3
  show G (T3.setTop (mkF m 27 #[.val (.long u0), .second, .val (.int u1), .val (.int kk), .val (.int ((1 : Int32) <<< (kk &&& 31))), .val (.int (tOf u0 &&& (((1 : Int32) <<< (kk &&& 31)) - (1 : Int32)))), .unset, .unset, .unset, .unset, .unset, .unset, .unset] [(.int (tOf u0 &&& ((1073741824 : Int32) - (1 : Int32))))]))
  refine go _ _ (fun t' k' => XS.istore X3.here hx rfl (hb hby at_27) rfl (l' := #[.val (.long u0), .second, .val (.int u1), .val (.int kk), .val (.int ((1 : Int32) <<< (kk &&& 31))), .val (.int (tOf u0 &&& (((1 : Int32) <<< (kk &&& 31)) - (1 : Int32)))), .val (.int (tOf u0 &&& ((1073741824 : Int32) - (1 : Int32)))), .unset, .unset, .unset, .unset, .unset, .unset]) rfl k') ?_
  show G (T3.setTop (mkF m 29 #[.val (.long u0), .second, .val (.int u1), .val (.int kk), .val (.int ((1 : Int32) <<< (kk &&& 31))), .val (.int (tOf u0 &&& (((1 : Int32) <<< (kk &&& 31)) - (1 : Int32)))), .val (.int (tOf u0 &&& ((1073741824 : Int32) - (1 : Int32)))), .unset, .unset, .unset, .unset, .unset, .unset] []))
  refine go _ _ (fun t' k' => XS.lloadN X3.here hx rfl (hb hby at_29) rfl  k') ?_
  show G (T3.setTop (mkF m 30 #[.val (.long u0), .second, .val (.int u1), .val (.int kk), .val (.int ((1 : Int32) <<< (kk &&& 31))), .val (.int (tOf u0 &&& (((1 : Int32) <<< (kk &&& 31)) - (1 : Int32)))), .val (.int (tOf u0 &&& ((1073741824 : Int32) - (1 : Int32)))), .unset, .unset, .unset, .unset, .unset, .unset] [(.long u0)]))
  refine go _ _ (fun t' k' => XS.lloadN X3.here hx rfl (hb hby at_30) rfl  k') ?_
  show G (T3.setTop (mkF m 31 #[.val (.long u0), .second, .val (.int u1), .val (.int kk), .val (.int ((1 : Int32) <<< (kk &&& 31))), .val (.int (tOf u0 &&& (((1 : Int32) <<< (kk &&& 31)) - (1 : Int32)))), .val (.int (tOf u0 &&& ((1073741824 : Int32) - (1 : Int32)))), .unset, .unset, .unset, .unset, .unset, .unset] [(.long u0), (.long u0)]))
  refine go _ _ (fun t' k' => XS.bipush X3.here hx rfl (hb hby at_31) k') ?_
  show G (T3.setTop (mkF m 33 #[.val (.long u0), .second, .val (.int u1), .val (.int kk), .val (.int ((1 : Int32) <<< (kk &&& 31))), .val (.int (tOf u0 &&& (((1 : Int32) <<< (kk &&& 31)) - (1 : Int32)))), .val (.int (tOf u0 &&& ((1073741824 : Int32) - (1 : Int32)))), .unset, .unset, .unset, .unset, .unset, .unset] [(.int (32 : Int32)), (.long u0), (.long u0)]))
  refine go _ _ (fun t' k' => XS.lushr X3.here hx rfl (hb hby at_33) rfl k') ?_
  show G (T3.setTop (mkF m 34 #[.val (.long u0), .second, .val (.int u1), .val (.int kk), .val (.int ((1 : Int32) <<< (kk &&& 31))), .val (.int (tOf u0 &&& (((1 : Int32) <<< (kk &&& 31)) - (1 : Int32)))), .val (.int (tOf u0 &&& ((1073741824 : Int32) - (1 : Int32)))), .unset, .unset, .unset, .unset, .unset, .unset] [(.long ((u0.toUInt64 >>> ((32 : Int32) &&& 0x3f).toInt64.toUInt64).toInt64)), (.long u0)]))
  refine go _ _ (fun t' k' => XS.lxor X3.here hx rfl (hb hby at_34) rfl k') ?_
  show G (T3.setTop (mkF m 35 #[.val (.long u0), .second, .val (.int u1), .val (.int kk), .val (.int ((1 : Int32) <<< (kk &&& 31))), .val (.int (tOf u0 &&& (((1 : Int32) <<< (kk &&& 31)) - (1 : Int32)))), .val (.int (tOf u0 &&& ((1073741824 : Int32) - (1 : Int32)))), .unset, .unset, .unset, .unset, .unset, .unset] [(.long (u0 ^^^ ((u0.toUInt64 >>> ((32 : Int32) &&& 0x3f).toInt64.toUInt64).toInt64)))]))
  refine go _ _ (fun t' k' => XS.iconst X3.here hx rfl (hb hby at_35) k') ?_
  show G (T3.setTop (mkF m 36 #[.val (.long u0), .second, .val (.int u1), .val (.int kk), .val (.int ((1 : Int32) <<< (kk &&& 31))), .val (.int (tOf u0 &&& (((1 : Int32) <<< (kk &&& 31)) - (1 : Int32)))), .val (.int (tOf u0 &&& ((1073741824 : Int32) - (1 : Int32)))), .unset, .unset, .unset, .unset, .unset, .unset] [(.int (0 : Int32)), (.long (u0 ^^^ ((u0.toUInt64 >>> ((32 : Int32) &&& 0x3f).toInt64.toUInt64).toInt64)))]))
  refine own_static go X3 hx hZ hh3 hown (hw _ (List.mem_of_getElem? (i := 7) rfl)) (hw _ (List.mem_of_getElem? (i := 8) rfl)) (hw _ (List.mem_of_getElem? (i := 3) rfl)) (hw _ (List.mem_of_getElem? (i := 9) rfl)) (by decide) (rm2 l Z a0 hw (u0 ^^^ ((u0.toUInt64 >>> ((32 : Int32) &&& 0x3f).toInt64.toUInt64).toInt64)) (0 : Int32) h0 n0 Z0) 0 (by decide) (by decide) (by decide) (by decide) (g := (mkF m 36 #[.val (.long u0), .second, .val (.int u1), .val (.int kk), .val (.int ((1 : Int32) <<< (kk &&& 31))), .val (.int (tOf u0 &&& (((1 : Int32) <<< (kk &&& 31)) - (1 : Int32)))), .val (.int (tOf u0 &&& ((1073741824 : Int32) - (1 : Int32)))), .unset, .unset, .unset, .unset, .unset, .unset] [(.int (0 : Int32)), (.long (u0 ^^^ ((u0.toUInt64 >>> ((32 : Int32) &&& 0x3f).toInt64.toUInt64).toInt64)))])) rfl (by rw [hml]; rfl) [(.long (u0 ^^^ ((u0.toUInt64 >>> ((32 : Int32) &&& 0x3f).toInt64.toUInt64).toInt64))), (.int (0 : Int32))] [] rfl (lenOf pd_1 rfl) rfl (by show 2 * 0 + _ ≤ _; exact Nat.le_of_eq rfl) (hb hby at_36) ?_
  intro T5 L5 v5 X5 q5
  obtain ⟨rfl, N5, hh5⟩ := q5
  have N6 := Fr.app N4 N5
  show G (T5.setTop (mkF m 39 #[.val (.long u0), .second, .val (.int u1), .val (.int kk), .val (.int ((1 : Int32) <<< (kk &&& 31))), .val (.int (tOf u0 &&& (((1 : Int32) <<< (kk &&& 31)) - (1 : Int32)))), .val (.int (tOf u0 &&& ((1073741824 : Int32) - (1 : Int32)))), .unset, .unset, .unset, .unset, .unset, .unset] [(.long (((u0 ^^^ ((u0.toUInt64 >>> ((32 : Int32) &&& 0x3f).toInt64.toUInt64).toInt64)) ^^^ ((0 : Int32).toInt64)) * (-7046029254386353131 : Int64)))]))
  refine go _ _ (fun t' k' => XS.lstore X5.here hx rfl (hb hby at_39) rfl (l' := #[.val (.long u0), .second, .val (.int u1), .val (.int kk), .val (.int ((1 : Int32) <<< (kk &&& 31))), .val (.int (tOf u0 &&& (((1 : Int32) <<< (kk &&& 31)) - (1 : Int32)))), .val (.int (tOf u0 &&& ((1073741824 : Int32) - (1 : Int32)))), .val (.long (((u0 ^^^ ((u0.toUInt64 >>> ((32 : Int32) &&& 0x3f).toInt64.toUInt64).toInt64)) ^^^ ((0 : Int32).toInt64)) * (-7046029254386353131 : Int64))), .second, .unset, .unset, .unset, .unset]) rfl k') ?_
  show G (T5.setTop (mkF m 41 #[.val (.long u0), .second, .val (.int u1), .val (.int kk), .val (.int ((1 : Int32) <<< (kk &&& 31))), .val (.int (tOf u0 &&& (((1 : Int32) <<< (kk &&& 31)) - (1 : Int32)))), .val (.int (tOf u0 &&& ((1073741824 : Int32) - (1 : Int32)))), .val (.long (((u0 ^^^ ((u0.toUInt64 >>> ((32 : Int32) &&& 0x3f).toInt64.toUInt64).toInt64)) ^^^ ((0 : Int32).toInt64)) * (-7046029254386353131 : Int64))), .second, .unset, .unset, .unset, .unset] []))
  rw [own_mix u0]
  show G (T5.setTop (mkF m 41 #[.val (.long u0), .second, .val (.int u1), .val (.int kk), .val (.int ((1 : Int32) <<< (kk &&& 31))), .val (.int (tOf u0 &&& (((1 : Int32) <<< (kk &&& 31)) - (1 : Int32)))), .val (.int (tOf u0 &&& ((1073741824 : Int32) - (1 : Int32)))), .val (.long (mOf u0)), .second, .unset, .unset, .unset, .unset] []))
  obtain ⟨m1, m2, m3⟩ := own_math u1 kk hkk (tOf u0)
  refine go _ _ (fun t' k' => XS.lload X5.here hx rfl (hb hby at_41) rfl  k') ?_
  show G (T5.setTop (mkF m 43 #[.val (.long u0), .second, .val (.int u1), .val (.int kk), .val (.int ((1 : Int32) <<< (kk &&& 31))), .val (.int (tOf u0 &&& (((1 : Int32) <<< (kk &&& 31)) - (1 : Int32)))), .val (.int (tOf u0 &&& ((1073741824 : Int32) - (1 : Int32)))), .val (.long (mOf u0)), .second, .unset, .unset, .unset, .unset] [(.long (mOf u0))]))
  refine go _ _ (fun t' k' => XS.bipush X5.here hx rfl (hb hby at_43) k') ?_
  show G (T5.setTop (mkF m 45 #[.val (.long u0), .second, .val (.int u1), .val (.int kk), .val (.int ((1 : Int32) <<< (kk &&& 31))), .val (.int (tOf u0 &&& (((1 : Int32) <<< (kk &&& 31)) - (1 : Int32)))), .val (.int (tOf u0 &&& ((1073741824 : Int32) - (1 : Int32)))), .val (.long (mOf u0)), .second, .unset, .unset, .unset, .unset] [(.int (32 : Int32)), (.long (mOf u0))]))
  refine go _ _ (fun t' k' => XS.lushr X5.here hx rfl (hb hby at_45) rfl k') ?_
  show G (T5.setTop (mkF m 46 #[.val (.long u0), .second, .val (.int u1), .val (.int kk), .val (.int ((1 : Int32) <<< (kk &&& 31))), .val (.int (tOf u0 &&& (((1 : Int32) <<< (kk &&& 31)) - (1 : Int32)))), .val (.int (tOf u0 &&& ((1073741824 : Int32) - (1 : Int32)))), .val (.long (mOf u0)), .second, .unset, .unset, .unset, .unset] [(.long (((mOf u0).toUInt64 >>> ((32 : Int32) &&& 0x3f).toInt64.toUInt64).toInt64))]))
  refine go _ _ (fun t' k' => XS.l2i X5.here hx rfl (hb hby at_46) rfl k') ?_
  show G (T5.setTop (mkF m 47 #[.val (.long u0), .second, .val (.int u1), .val (.int kk), .val (.int ((1 : Int32) <<< (kk &&& 31))), .val (.int (tOf u0 &&& (((1 : Int32) <<< (kk &&& 31)) - (1 : Int32)))), .val (.int (tOf u0 &&& ((1073741824 : Int32) - (1 : Int32)))), .val (.long (mOf u0)), .second, .unset, .unset, .unset, .unset] [(.int ((((mOf u0).toUInt64 >>> ((32 : Int32) &&& 0x3f).toInt64.toUInt64).toInt64).toInt32))]))
  refine go _ _ (fun t' k' => X5.ldcInt hx hown (mvT hZ (hw _ (List.mem_of_getElem? (i := 10) rfl))) (g := (mkF m 47 #[.val (.long u0), .second, .val (.int u1), .val (.int kk), .val (.int ((1 : Int32) <<< (kk &&& 31))), .val (.int (tOf u0 &&& (((1 : Int32) <<< (kk &&& 31)) - (1 : Int32)))), .val (.int (tOf u0 &&& ((1073741824 : Int32) - (1 : Int32)))), .val (.long (mOf u0)), .second, .unset, .unset, .unset, .unset] [(.int ((((mOf u0).toUInt64 >>> ((32 : Int32) &&& 0x3f).toInt64.toUInt64).toInt64).toInt32))])) rfl (hb hby at_47) _ k') ?_
  show G (T5.setTop (mkF m 49 #[.val (.long u0), .second, .val (.int u1), .val (.int kk), .val (.int ((1 : Int32) <<< (kk &&& 31))), .val (.int (tOf u0 &&& (((1 : Int32) <<< (kk &&& 31)) - (1 : Int32)))), .val (.int (tOf u0 &&& ((1073741824 : Int32) - (1 : Int32)))), .val (.long (mOf u0)), .second, .unset, .unset, .unset, .unset] [(.int (1073741823 : Int32)), (.int ((((mOf u0).toUInt64 >>> ((32 : Int32) &&& 0x3f).toInt64.toUInt64).toInt64).toInt32))]))
  refine go _ _ (fun t' k' => XS.iand X5.here hx rfl (hb hby at_49) rfl k') ?_
  show G (T5.setTop (mkF m 50 #[.val (.long u0), .second, .val (.int u1), .val (.int kk), .val (.int ((1 : Int32) <<< (kk &&& 31))), .val (.int (tOf u0 &&& (((1 : Int32) <<< (kk &&& 31)) - (1 : Int32)))), .val (.int (tOf u0 &&& ((1073741824 : Int32) - (1 : Int32)))), .val (.long (mOf u0)), .second, .unset, .unset, .unset, .unset] [(.int (((((mOf u0).toUInt64 >>> ((32 : Int32) &&& 0x3f).toInt64.toUInt64).toInt64).toInt32) &&& (1073741823 : Int32)))]))
  refine go _ _ (fun t' k' => XS.istore X5.here hx rfl (hb hby at_50) rfl (l' := #[.val (.long u0), .second, .val (.int u1), .val (.int kk), .val (.int ((1 : Int32) <<< (kk &&& 31))), .val (.int (tOf u0 &&& (((1 : Int32) <<< (kk &&& 31)) - (1 : Int32)))), .val (.int (tOf u0 &&& ((1073741824 : Int32) - (1 : Int32)))), .val (.long (mOf u0)), .second, .val (.int (((((mOf u0).toUInt64 >>> ((32 : Int32) &&& 0x3f).toInt64.toUInt64).toInt64).toInt32) &&& (1073741823 : Int32))), .unset, .unset, .unset]) rfl k') ?_
  show G (T5.setTop (mkF m 52 #[.val (.long u0), .second, .val (.int u1), .val (.int kk), .val (.int ((1 : Int32) <<< (kk &&& 31))), .val (.int (tOf u0 &&& (((1 : Int32) <<< (kk &&& 31)) - (1 : Int32)))), .val (.int (tOf u0 &&& ((1073741824 : Int32) - (1 : Int32)))), .val (.long (mOf u0)), .second, .val (.int (((((mOf u0).toUInt64 >>> ((32 : Int32) &&& 0x3f).toInt64.toUInt64).toInt64).toInt32) &&& (1073741823 : Int32))), .unset, .unset, .unset] []))
  refine go _ _ (fun t' k' => XS.iload X5.here hx rfl (hb hby at_52) rfl  k') ?_
  show G (T5.setTop (mkF m 54 #[.val (.long u0), .second, .val (.int u1), .val (.int kk), .val (.int ((1 : Int32) <<< (kk &&& 31))), .val (.int (tOf u0 &&& (((1 : Int32) <<< (kk &&& 31)) - (1 : Int32)))), .val (.int (tOf u0 &&& ((1073741824 : Int32) - (1 : Int32)))), .val (.long (mOf u0)), .second, .val (.int (((((mOf u0).toUInt64 >>> ((32 : Int32) &&& 0x3f).toInt64.toUInt64).toInt64).toInt32) &&& (1073741823 : Int32))), .unset, .unset, .unset] [(.int (tOf u0 &&& (((1 : Int32) <<< (kk &&& 31)) - (1 : Int32))))]))
  refine go _ _ (fun t' k' => XS.ifNo X5.here hx rfl (hb hby at_54) rfl (Free.XT.i0_lt_f m1) k') ?_
  show G (T5.setTop (mkF m 57 #[.val (.long u0), .second, .val (.int u1), .val (.int kk), .val (.int ((1 : Int32) <<< (kk &&& 31))), .val (.int (tOf u0 &&& (((1 : Int32) <<< (kk &&& 31)) - (1 : Int32)))), .val (.int (tOf u0 &&& ((1073741824 : Int32) - (1 : Int32)))), .val (.long (mOf u0)), .second, .val (.int (((((mOf u0).toUInt64 >>> ((32 : Int32) &&& 0x3f).toInt64.toUInt64).toInt64).toInt32) &&& (1073741823 : Int32))), .unset, .unset, .unset] []))
  refine go _ _ (fun t' k' => XS.iload X5.here hx rfl (hb hby at_57) rfl  k') ?_
  show G (T5.setTop (mkF m 59 #[.val (.long u0), .second, .val (.int u1), .val (.int kk), .val (.int ((1 : Int32) <<< (kk &&& 31))), .val (.int (tOf u0 &&& (((1 : Int32) <<< (kk &&& 31)) - (1 : Int32)))), .val (.int (tOf u0 &&& ((1073741824 : Int32) - (1 : Int32)))), .val (.long (mOf u0)), .second, .val (.int (((((mOf u0).toUInt64 >>> ((32 : Int32) &&& 0x3f).toInt64.toUInt64).toInt64).toInt32) &&& (1073741823 : Int32))), .unset, .unset, .unset] [(.int (tOf u0 &&& (((1 : Int32) <<< (kk &&& 31)) - (1 : Int32))))]))
  refine go _ _ (fun t' k' => XS.iload X5.here hx rfl (hb hby at_59) rfl  k') ?_
  show G (T5.setTop (mkF m 61 #[.val (.long u0), .second, .val (.int u1), .val (.int kk), .val (.int ((1 : Int32) <<< (kk &&& 31))), .val (.int (tOf u0 &&& (((1 : Int32) <<< (kk &&& 31)) - (1 : Int32)))), .val (.int (tOf u0 &&& ((1073741824 : Int32) - (1 : Int32)))), .val (.long (mOf u0)), .second, .val (.int (((((mOf u0).toUInt64 >>> ((32 : Int32) &&& 0x3f).toInt64.toUInt64).toInt64).toInt32) &&& (1073741823 : Int32))), .unset, .unset, .unset] [(.int ((1 : Int32) <<< (kk &&& 31))), (.int (tOf u0 &&& (((1 : Int32) <<< (kk &&& 31)) - (1 : Int32))))]))
  refine go _ _ (fun t' k' => XS.icmpNo X5.here hx rfl (hb hby at_61) rfl (Free.XT.ii_ge_f m2) k') ?_
  show G (T5.setTop (mkF m 64 #[.val (.long u0), .second, .val (.int u1), .val (.int kk), .val (.int ((1 : Int32) <<< (kk &&& 31))), .val (.int (tOf u0 &&& (((1 : Int32) <<< (kk &&& 31)) - (1 : Int32)))), .val (.int (tOf u0 &&& ((1073741824 : Int32) - (1 : Int32)))), .val (.long (mOf u0)), .second, .val (.int (((((mOf u0).toUInt64 >>> ((32 : Int32) &&& 0x3f).toInt64.toUInt64).toInt64).toInt32) &&& (1073741823 : Int32))), .unset, .unset, .unset] []))
  refine go _ _ (fun t' k' => XS.iconst X5.here hx rfl (hb hby at_64) k') ?_
  show G (T5.setTop (mkF m 65 #[.val (.long u0), .second, .val (.int u1), .val (.int kk), .val (.int ((1 : Int32) <<< (kk &&& 31))), .val (.int (tOf u0 &&& (((1 : Int32) <<< (kk &&& 31)) - (1 : Int32)))), .val (.int (tOf u0 &&& ((1073741824 : Int32) - (1 : Int32)))), .val (.long (mOf u0)), .second, .val (.int (((((mOf u0).toUInt64 >>> ((32 : Int32) &&& 0x3f).toInt64.toUInt64).toInt64).toInt32) &&& (1073741823 : Int32))), .unset, .unset, .unset] [(.int (1 : Int32))]))
  refine go _ _ (fun t' k' => XS.goto X5.here hx rfl (pc0 := 65) (pc' := 69) rfl (hb hby at_65) (by decide) (by decide) k') ?_
  show G (T5.setTop (mkF m 69 #[.val (.long u0), .second, .val (.int u1), .val (.int kk), .val (.int ((1 : Int32) <<< (kk &&& 31))), .val (.int (tOf u0 &&& (((1 : Int32) <<< (kk &&& 31)) - (1 : Int32)))), .val (.int (tOf u0 &&& ((1073741824 : Int32) - (1 : Int32)))), .val (.long (mOf u0)), .second, .val (.int (((((mOf u0).toUInt64 >>> ((32 : Int32) &&& 0x3f).toInt64.toUInt64).toInt64).toInt32) &&& (1073741823 : Int32))), .unset, .unset, .unset] [(.int (1 : Int32))]))
  refine go _ _ (fun t' k' => XS.istore X5.here hx rfl (hb hby at_69) rfl (l' := #[.val (.long u0), .second, .val (.int u1), .val (.int kk), .val (.int ((1 : Int32) <<< (kk &&& 31))), .val (.int (tOf u0 &&& (((1 : Int32) <<< (kk &&& 31)) - (1 : Int32)))), .val (.int (tOf u0 &&& ((1073741824 : Int32) - (1 : Int32)))), .val (.long (mOf u0)), .second, .val (.int (((((mOf u0).toUInt64 >>> ((32 : Int32) &&& 0x3f).toInt64.toUInt64).toInt64).toInt32) &&& (1073741823 : Int32))), .val (.int (1 : Int32)), .unset, .unset]) rfl k') ?_
  show G (T5.setTop (mkF m 71 #[.val (.long u0), .second, .val (.int u1), .val (.int kk), .val (.int ((1 : Int32) <<< (kk &&& 31))), .val (.int (tOf u0 &&& (((1 : Int32) <<< (kk &&& 31)) - (1 : Int32)))), .val (.int (tOf u0 &&& ((1073741824 : Int32) - (1 : Int32)))), .val (.long (mOf u0)), .second, .val (.int (((((mOf u0).toUInt64 >>> ((32 : Int32) &&& 0x3f).toInt64.toUInt64).toInt64).toInt32) &&& (1073741823 : Int32))), .val (.int (1 : Int32)), .unset, .unset] []))
  refine go _ _ (fun t' k' => XS.iload X5.here hx rfl (hb hby at_71) rfl  k') ?_
  show G (T5.setTop (mkF m 73 #[.val (.long u0), .second, .val (.int u1), .val (.int kk), .val (.int ((1 : Int32) <<< (kk &&& 31))), .val (.int (tOf u0 &&& (((1 : Int32) <<< (kk &&& 31)) - (1 : Int32)))), .val (.int (tOf u0 &&& ((1073741824 : Int32) - (1 : Int32)))), .val (.long (mOf u0)), .second, .val (.int (((((mOf u0).toUInt64 >>> ((32 : Int32) &&& 0x3f).toInt64.toUInt64).toInt64).toInt32) &&& (1073741823 : Int32))), .val (.int (1 : Int32)), .unset, .unset] [(.int (tOf u0 &&& (((1 : Int32) <<< (kk &&& 31)) - (1 : Int32))))]))
  refine go _ _ (fun t' k' => XS.iload X5.here hx rfl (hb hby at_73) rfl  k') ?_
  show G (T5.setTop (mkF m 75 #[.val (.long u0), .second, .val (.int u1), .val (.int kk), .val (.int ((1 : Int32) <<< (kk &&& 31))), .val (.int (tOf u0 &&& (((1 : Int32) <<< (kk &&& 31)) - (1 : Int32)))), .val (.int (tOf u0 &&& ((1073741824 : Int32) - (1 : Int32)))), .val (.long (mOf u0)), .second, .val (.int (((((mOf u0).toUInt64 >>> ((32 : Int32) &&& 0x3f).toInt64.toUInt64).toInt64).toInt32) &&& (1073741823 : Int32))), .val (.int (1 : Int32)), .unset, .unset] [(.int (tOf u0 &&& ((1073741824 : Int32) - (1 : Int32)))), (.int (tOf u0 &&& (((1 : Int32) <<< (kk &&& 31)) - (1 : Int32))))]))
  refine go _ _ (fun t' k' => XS.iload X5.here hx rfl (hb hby at_75) rfl  k') ?_
  show G (T5.setTop (mkF m 77 #[.val (.long u0), .second, .val (.int u1), .val (.int kk), .val (.int ((1 : Int32) <<< (kk &&& 31))), .val (.int (tOf u0 &&& (((1 : Int32) <<< (kk &&& 31)) - (1 : Int32)))), .val (.int (tOf u0 &&& ((1073741824 : Int32) - (1 : Int32)))), .val (.long (mOf u0)), .second, .val (.int (((((mOf u0).toUInt64 >>> ((32 : Int32) &&& 0x3f).toInt64.toUInt64).toInt64).toInt32) &&& (1073741823 : Int32))), .val (.int (1 : Int32)), .unset, .unset] [(.int ((1 : Int32) <<< (kk &&& 31))), (.int (tOf u0 &&& ((1073741824 : Int32) - (1 : Int32)))), (.int (tOf u0 &&& (((1 : Int32) <<< (kk &&& 31)) - (1 : Int32))))]))
  refine go _ _ (fun t' k' => XS.iconst X5.here hx rfl (hb hby at_77) k') ?_
  show G (T5.setTop (mkF m 78 #[.val (.long u0), .second, .val (.int u1), .val (.int kk), .val (.int ((1 : Int32) <<< (kk &&& 31))), .val (.int (tOf u0 &&& (((1 : Int32) <<< (kk &&& 31)) - (1 : Int32)))), .val (.int (tOf u0 &&& ((1073741824 : Int32) - (1 : Int32)))), .val (.long (mOf u0)), .second, .val (.int (((((mOf u0).toUInt64 >>> ((32 : Int32) &&& 0x3f).toInt64.toUInt64).toInt64).toInt32) &&& (1073741823 : Int32))), .val (.int (1 : Int32)), .unset, .unset] [(.int (1 : Int32)), (.int ((1 : Int32) <<< (kk &&& 31))), (.int (tOf u0 &&& ((1073741824 : Int32) - (1 : Int32)))), (.int (tOf u0 &&& (((1 : Int32) <<< (kk &&& 31)) - (1 : Int32))))]))
  refine go _ _ (fun t' k' => XS.isub X5.here hx rfl (hb hby at_78) rfl k') ?_
  show G (T5.setTop (mkF m 79 #[.val (.long u0), .second, .val (.int u1), .val (.int kk), .val (.int ((1 : Int32) <<< (kk &&& 31))), .val (.int (tOf u0 &&& (((1 : Int32) <<< (kk &&& 31)) - (1 : Int32)))), .val (.int (tOf u0 &&& ((1073741824 : Int32) - (1 : Int32)))), .val (.long (mOf u0)), .second, .val (.int (((((mOf u0).toUInt64 >>> ((32 : Int32) &&& 0x3f).toInt64.toUInt64).toInt64).toInt32) &&& (1073741823 : Int32))), .val (.int (1 : Int32)), .unset, .unset] [(.int (((1 : Int32) <<< (kk &&& 31)) - (1 : Int32))), (.int (tOf u0 &&& ((1073741824 : Int32) - (1 : Int32)))), (.int (tOf u0 &&& (((1 : Int32) <<< (kk &&& 31)) - (1 : Int32))))]))
  refine go _ _ (fun t' k' => XS.iand X5.here hx rfl (hb hby at_79) rfl k') ?_
  show G (T5.setTop (mkF m 80 #[.val (.long u0), .second, .val (.int u1), .val (.int kk), .val (.int ((1 : Int32) <<< (kk &&& 31))), .val (.int (tOf u0 &&& (((1 : Int32) <<< (kk &&& 31)) - (1 : Int32)))), .val (.int (tOf u0 &&& ((1073741824 : Int32) - (1 : Int32)))), .val (.long (mOf u0)), .second, .val (.int (((((mOf u0).toUInt64 >>> ((32 : Int32) &&& 0x3f).toInt64.toUInt64).toInt64).toInt32) &&& (1073741823 : Int32))), .val (.int (1 : Int32)), .unset, .unset] [(.int ((tOf u0 &&& ((1073741824 : Int32) - (1 : Int32))) &&& (((1 : Int32) <<< (kk &&& 31)) - (1 : Int32)))), (.int (tOf u0 &&& (((1 : Int32) <<< (kk &&& 31)) - (1 : Int32))))]))
  refine go _ _ (fun t' k' => XS.icmpNo X5.here hx rfl (hb hby at_80) rfl (Free.XT.ii_ne_f m3) k') ?_
  show G (T5.setTop (mkF m 83 #[.val (.long u0), .second, .val (.int u1), .val (.int kk), .val (.int ((1 : Int32) <<< (kk &&& 31))), .val (.int (tOf u0 &&& (((1 : Int32) <<< (kk &&& 31)) - (1 : Int32)))), .val (.int (tOf u0 &&& ((1073741824 : Int32) - (1 : Int32)))), .val (.long (mOf u0)), .second, .val (.int (((((mOf u0).toUInt64 >>> ((32 : Int32) &&& 0x3f).toInt64.toUInt64).toInt64).toInt32) &&& (1073741823 : Int32))), .val (.int (1 : Int32)), .unset, .unset] []))
  refine go _ _ (fun t' k' => XS.iconst X5.here hx rfl (hb hby at_83) k') ?_
  show G (T5.setTop (mkF m 84 #[.val (.long u0), .second, .val (.int u1), .val (.int kk), .val (.int ((1 : Int32) <<< (kk &&& 31))), .val (.int (tOf u0 &&& (((1 : Int32) <<< (kk &&& 31)) - (1 : Int32)))), .val (.int (tOf u0 &&& ((1073741824 : Int32) - (1 : Int32)))), .val (.long (mOf u0)), .second, .val (.int (((((mOf u0).toUInt64 >>> ((32 : Int32) &&& 0x3f).toInt64.toUInt64).toInt64).toInt32) &&& (1073741823 : Int32))), .val (.int (1 : Int32)), .unset, .unset] [(.int (1 : Int32))]))
  refine go _ _ (fun t' k' => XS.goto X5.here hx rfl (pc0 := 84) (pc' := 88) rfl (hb hby at_84) (by decide) (by decide) k') ?_
  show G (T5.setTop (mkF m 88 #[.val (.long u0), .second, .val (.int u1), .val (.int kk), .val (.int ((1 : Int32) <<< (kk &&& 31))), .val (.int (tOf u0 &&& (((1 : Int32) <<< (kk &&& 31)) - (1 : Int32)))), .val (.int (tOf u0 &&& ((1073741824 : Int32) - (1 : Int32)))), .val (.long (mOf u0)), .second, .val (.int (((((mOf u0).toUInt64 >>> ((32 : Int32) &&& 0x3f).toInt64.toUInt64).toInt64).toInt32) &&& (1073741823 : Int32))), .val (.int (1 : Int32)), .unset, .unset] [(.int (1 : Int32))]))
  refine go _ _ (fun t' k' => XS.istore X5.here hx rfl (hb hby at_88) rfl (l' := #[.val (.long u0), .second, .val (.int u1), .val (.int kk), .val (.int ((1 : Int32) <<< (kk &&& 31))), .val (.int (tOf u0 &&& (((1 : Int32) <<< (kk &&& 31)) - (1 : Int32)))), .val (.int (tOf u0 &&& ((1073741824 : Int32) - (1 : Int32)))), .val (.long (mOf u0)), .second, .val (.int (((((mOf u0).toUInt64 >>> ((32 : Int32) &&& 0x3f).toInt64.toUInt64).toInt64).toInt32) &&& (1073741823 : Int32))), .val (.int (1 : Int32)), .val (.int (1 : Int32)), .unset]) rfl k') ?_
  show G (T5.setTop (mkF m 90 #[.val (.long u0), .second, .val (.int u1), .val (.int kk), .val (.int ((1 : Int32) <<< (kk &&& 31))), .val (.int (tOf u0 &&& (((1 : Int32) <<< (kk &&& 31)) - (1 : Int32)))), .val (.int (tOf u0 &&& ((1073741824 : Int32) - (1 : Int32)))), .val (.long (mOf u0)), .second, .val (.int (((((mOf u0).toUInt64 >>> ((32 : Int32) &&& 0x3f).toInt64.toUInt64).toInt64).toInt32) &&& (1073741823 : Int32))), .val (.int (1 : Int32)), .val (.int (1 : Int32)), .unset] []))
  refine go _ _ (fun t' k' => XS.iload X5.here hx rfl (hb hby at_90) rfl  k') ?_
  show G (T5.setTop (mkF m 92 #[.val (.long u0), .second, .val (.int u1), .val (.int kk), .val (.int ((1 : Int32) <<< (kk &&& 31))), .val (.int (tOf u0 &&& (((1 : Int32) <<< (kk &&& 31)) - (1 : Int32)))), .val (.int (tOf u0 &&& ((1073741824 : Int32) - (1 : Int32)))), .val (.long (mOf u0)), .second, .val (.int (((((mOf u0).toUInt64 >>> ((32 : Int32) &&& 0x3f).toInt64.toUInt64).toInt64).toInt32) &&& (1073741823 : Int32))), .val (.int (1 : Int32)), .val (.int (1 : Int32)), .unset] [(.int (tOf u0 &&& ((1073741824 : Int32) - (1 : Int32))))]))
  refine go _ _ (fun t' k' => XS.iload X5.here hx rfl (hb hby at_92) rfl  k') ?_
  show G (T5.setTop (mkF m 94 #[.val (.long u0), .second, .val (.int u1), .val (.int kk), .val (.int ((1 : Int32) <<< (kk &&& 31))), .val (.int (tOf u0 &&& (((1 : Int32) <<< (kk &&& 31)) - (1 : Int32)))), .val (.int (tOf u0 &&& ((1073741824 : Int32) - (1 : Int32)))), .val (.long (mOf u0)), .second, .val (.int (((((mOf u0).toUInt64 >>> ((32 : Int32) &&& 0x3f).toInt64.toUInt64).toInt64).toInt32) &&& (1073741823 : Int32))), .val (.int (1 : Int32)), .val (.int (1 : Int32)), .unset] [(.int (((((mOf u0).toUInt64 >>> ((32 : Int32) &&& 0x3f).toInt64.toUInt64).toInt64).toInt32) &&& (1073741823 : Int32))), (.int (tOf u0 &&& ((1073741824 : Int32) - (1 : Int32))))]))
  refine go _ _ (fun t' k' => XS.icmpNo X5.here hx rfl (hb hby at_94) rfl (Free.XT.ii_ne_f rfl) k') ?_
  show G (T5.setTop (mkF m 97 #[.val (.long u0), .second, .val (.int u1), .val (.int kk), .val (.int ((1 : Int32) <<< (kk &&& 31))), .val (.int (tOf u0 &&& (((1 : Int32) <<< (kk &&& 31)) - (1 : Int32)))), .val (.int (tOf u0 &&& ((1073741824 : Int32) - (1 : Int32)))), .val (.long (mOf u0)), .second, .val (.int (((((mOf u0).toUInt64 >>> ((32 : Int32) &&& 0x3f).toInt64.toUInt64).toInt64).toInt32) &&& (1073741823 : Int32))), .val (.int (1 : Int32)), .val (.int (1 : Int32)), .unset] []))
  refine go _ _ (fun t' k' => XS.iconst X5.here hx rfl (hb hby at_97) k') ?_
  show G (T5.setTop (mkF m 98 #[.val (.long u0), .second, .val (.int u1), .val (.int kk), .val (.int ((1 : Int32) <<< (kk &&& 31))), .val (.int (tOf u0 &&& (((1 : Int32) <<< (kk &&& 31)) - (1 : Int32)))), .val (.int (tOf u0 &&& ((1073741824 : Int32) - (1 : Int32)))), .val (.long (mOf u0)), .second, .val (.int (((((mOf u0).toUInt64 >>> ((32 : Int32) &&& 0x3f).toInt64.toUInt64).toInt64).toInt32) &&& (1073741823 : Int32))), .val (.int (1 : Int32)), .val (.int (1 : Int32)), .unset] [(.int (1 : Int32))]))
  refine go _ _ (fun t' k' => XS.goto X5.here hx rfl (pc0 := 98) (pc' := 102) rfl (hb hby at_98) (by decide) (by decide) k') ?_
  show G (T5.setTop (mkF m 102 #[.val (.long u0), .second, .val (.int u1), .val (.int kk), .val (.int ((1 : Int32) <<< (kk &&& 31))), .val (.int (tOf u0 &&& (((1 : Int32) <<< (kk &&& 31)) - (1 : Int32)))), .val (.int (tOf u0 &&& ((1073741824 : Int32) - (1 : Int32)))), .val (.long (mOf u0)), .second, .val (.int (((((mOf u0).toUInt64 >>> ((32 : Int32) &&& 0x3f).toInt64.toUInt64).toInt64).toInt32) &&& (1073741823 : Int32))), .val (.int (1 : Int32)), .val (.int (1 : Int32)), .unset] [(.int (1 : Int32))]))
  refine go _ _ (fun t' k' => XS.istore X5.here hx rfl (hb hby at_102) rfl (l' := #[.val (.long u0), .second, .val (.int u1), .val (.int kk), .val (.int ((1 : Int32) <<< (kk &&& 31))), .val (.int (tOf u0 &&& (((1 : Int32) <<< (kk &&& 31)) - (1 : Int32)))), .val (.int (tOf u0 &&& ((1073741824 : Int32) - (1 : Int32)))), .val (.long (mOf u0)), .second, .val (.int (((((mOf u0).toUInt64 >>> ((32 : Int32) &&& 0x3f).toInt64.toUInt64).toInt64).toInt32) &&& (1073741823 : Int32))), .val (.int (1 : Int32)), .val (.int (1 : Int32)), .val (.int (1 : Int32))]) rfl k') ?_
  show G (T5.setTop (mkF m 104 #[.val (.long u0), .second, .val (.int u1), .val (.int kk), .val (.int ((1 : Int32) <<< (kk &&& 31))), .val (.int (tOf u0 &&& (((1 : Int32) <<< (kk &&& 31)) - (1 : Int32)))), .val (.int (tOf u0 &&& ((1073741824 : Int32) - (1 : Int32)))), .val (.long (mOf u0)), .second, .val (.int (((((mOf u0).toUInt64 >>> ((32 : Int32) &&& 0x3f).toInt64.toUInt64).toInt64).toInt32) &&& (1073741823 : Int32))), .val (.int (1 : Int32)), .val (.int (1 : Int32)), .val (.int (1 : Int32))] []))
  refine go _ _ (fun t' k' => XS.iload X5.here hx rfl (hb hby at_104) rfl  k') ?_
  show G (T5.setTop (mkF m 106 #[.val (.long u0), .second, .val (.int u1), .val (.int kk), .val (.int ((1 : Int32) <<< (kk &&& 31))), .val (.int (tOf u0 &&& (((1 : Int32) <<< (kk &&& 31)) - (1 : Int32)))), .val (.int (tOf u0 &&& ((1073741824 : Int32) - (1 : Int32)))), .val (.long (mOf u0)), .second, .val (.int (((((mOf u0).toUInt64 >>> ((32 : Int32) &&& 0x3f).toInt64.toUInt64).toInt64).toInt32) &&& (1073741823 : Int32))), .val (.int (1 : Int32)), .val (.int (1 : Int32)), .val (.int (1 : Int32))] [(.int (1 : Int32))]))
  refine go _ _ (fun t' k' => XS.ifNo X5.here hx rfl (hb hby at_106) rfl (Free.XT.i0_eq_f (by decide)) k') ?_
  show G (T5.setTop (mkF m 109 #[.val (.long u0), .second, .val (.int u1), .val (.int kk), .val (.int ((1 : Int32) <<< (kk &&& 31))), .val (.int (tOf u0 &&& (((1 : Int32) <<< (kk &&& 31)) - (1 : Int32)))), .val (.int (tOf u0 &&& ((1073741824 : Int32) - (1 : Int32)))), .val (.long (mOf u0)), .second, .val (.int (((((mOf u0).toUInt64 >>> ((32 : Int32) &&& 0x3f).toInt64.toUInt64).toInt64).toInt32) &&& (1073741823 : Int32))), .val (.int (1 : Int32)), .val (.int (1 : Int32)), .val (.int (1 : Int32))] []))
  refine go _ _ (fun t' k' => XS.iload X5.here hx rfl (hb hby at_109) rfl  k') ?_
  show G (T5.setTop (mkF m 111 #[.val (.long u0), .second, .val (.int u1), .val (.int kk), .val (.int ((1 : Int32) <<< (kk &&& 31))), .val (.int (tOf u0 &&& (((1 : Int32) <<< (kk &&& 31)) - (1 : Int32)))), .val (.int (tOf u0 &&& ((1073741824 : Int32) - (1 : Int32)))), .val (.long (mOf u0)), .second, .val (.int (((((mOf u0).toUInt64 >>> ((32 : Int32) &&& 0x3f).toInt64.toUInt64).toInt64).toInt32) &&& (1073741823 : Int32))), .val (.int (1 : Int32)), .val (.int (1 : Int32)), .val (.int (1 : Int32))] [(.int (1 : Int32))]))
  refine go _ _ (fun t' k' => XS.ifNo X5.here hx rfl (hb hby at_111) rfl (Free.XT.i0_eq_f (by decide)) k') ?_
  show G (T5.setTop (mkF m 114 #[.val (.long u0), .second, .val (.int u1), .val (.int kk), .val (.int ((1 : Int32) <<< (kk &&& 31))), .val (.int (tOf u0 &&& (((1 : Int32) <<< (kk &&& 31)) - (1 : Int32)))), .val (.int (tOf u0 &&& ((1073741824 : Int32) - (1 : Int32)))), .val (.long (mOf u0)), .second, .val (.int (((((mOf u0).toUInt64 >>> ((32 : Int32) &&& 0x3f).toInt64.toUInt64).toInt64).toInt32) &&& (1073741823 : Int32))), .val (.int (1 : Int32)), .val (.int (1 : Int32)), .val (.int (1 : Int32))] []))
  refine go _ _ (fun t' k' => XS.iload X5.here hx rfl (hb hby at_114) rfl  k') ?_
  show G (T5.setTop (mkF m 116 #[.val (.long u0), .second, .val (.int u1), .val (.int kk), .val (.int ((1 : Int32) <<< (kk &&& 31))), .val (.int (tOf u0 &&& (((1 : Int32) <<< (kk &&& 31)) - (1 : Int32)))), .val (.int (tOf u0 &&& ((1073741824 : Int32) - (1 : Int32)))), .val (.long (mOf u0)), .second, .val (.int (((((mOf u0).toUInt64 >>> ((32 : Int32) &&& 0x3f).toInt64.toUInt64).toInt64).toInt32) &&& (1073741823 : Int32))), .val (.int (1 : Int32)), .val (.int (1 : Int32)), .val (.int (1 : Int32))] [(.int (1 : Int32))]))
  refine go _ _ (fun t' k' => XS.ifNo X5.here hx rfl (hb hby at_116) rfl (Free.XT.i0_eq_f (by decide)) k') ?_
  show G (T5.setTop (mkF m 119 #[.val (.long u0), .second, .val (.int u1), .val (.int kk), .val (.int ((1 : Int32) <<< (kk &&& 31))), .val (.int (tOf u0 &&& (((1 : Int32) <<< (kk &&& 31)) - (1 : Int32)))), .val (.int (tOf u0 &&& ((1073741824 : Int32) - (1 : Int32)))), .val (.long (mOf u0)), .second, .val (.int (((((mOf u0).toUInt64 >>> ((32 : Int32) &&& 0x3f).toInt64.toUInt64).toInt64).toInt32) &&& (1073741823 : Int32))), .val (.int (1 : Int32)), .val (.int (1 : Int32)), .val (.int (1 : Int32))] []))
  refine go _ _ (fun t' k' => XS.iconst X5.here hx rfl (hb hby at_119) k') ?_
  show G (T5.setTop (mkF m 120 #[.val (.long u0), .second, .val (.int u1), .val (.int kk), .val (.int ((1 : Int32) <<< (kk &&& 31))), .val (.int (tOf u0 &&& (((1 : Int32) <<< (kk &&& 31)) - (1 : Int32)))), .val (.int (tOf u0 &&& ((1073741824 : Int32) - (1 : Int32)))), .val (.long (mOf u0)), .second, .val (.int (((((mOf u0).toUInt64 >>> ((32 : Int32) &&& 0x3f).toInt64.toUInt64).toInt64).toInt32) &&& (1073741823 : Int32))), .val (.int (1 : Int32)), .val (.int (1 : Int32)), .val (.int (1 : Int32))] [(.int (1 : Int32))]))
  refine go _ _ (fun t' k' => XS.goto X5.here hx rfl (pc0 := 120) (pc' := 124) rfl (hb hby at_120) (by decide) (by decide) k') ?_
  show G (T5.setTop (mkF m 124 #[.val (.long u0), .second, .val (.int u1), .val (.int kk), .val (.int ((1 : Int32) <<< (kk &&& 31))), .val (.int (tOf u0 &&& (((1 : Int32) <<< (kk &&& 31)) - (1 : Int32)))), .val (.int (tOf u0 &&& ((1073741824 : Int32) - (1 : Int32)))), .val (.long (mOf u0)), .second, .val (.int (((((mOf u0).toUInt64 >>> ((32 : Int32) &&& 0x3f).toInt64.toUInt64).toInt64).toInt32) &&& (1073741823 : Int32))), .val (.int (1 : Int32)), .val (.int (1 : Int32)), .val (.int (1 : Int32))] [(.int (1 : Int32))]))
  refine own_retZ rt X5 hx (t := .boolean) hret (by simp) (hb hby at_124) (by decide) (by decide) ?_
  exact ⟨rfl, N6⟩
set_option maxRecDepth 65536 in
set_option maxHeartbeats 40000000 in
theorem comes_1 {Post : Tables → Env → Array Value → State → Outcome → State → Prop} (hpost : ∀ tb e args s v u, (limb_1_1.after args s (.returned v) u = true ∧ limb_1_2.after args s (.returned v) u = true ∧ True) → FrameEnd s (.returned v) u (Jvm.fieldLocs frame_1_writes args s ++ Jvm.arrayLocs frame_1_arrays args s ++ Jvm.staticLocs frame_1_statics s) 0 0 → Post tb e args s (.returned v) u) :
    ArmFor flags0 classFile x code maxLocals ret World_1 tables_1 room_1 Calls_1 rest_1 Pre_1 Post := by
  intro l hfl _ _ p e ha hc hk s m args below hf hA hF happ hP
  obtain ⟨hcalls, hrest, hpre⟩ := hP
  obtain ⟨-, -, -, hnamed, -, -, -, hat⟩ := (Spec.applies_iff hf).mp happ
  obtain ⟨hg, hn⟩ := and_e (Cond.before_iff.mp (show (Jvm.Cond.and given_1 narrow_1).before args s = true from hpre))
  obtain ⟨k0, hg0⟩ := and_e hg
  obtain ⟨ka0, hg1⟩ := and_e hg0
  have ka1 := hg1
  obtain ⟨w0, w1, rfl⟩ : ∃ w0 w1 : Value, args = #[w0, w1] := by
    have hs : args.size = 2 := by simpa [Cond.value, given_1] using k0
    obtain ⟨L⟩ := args
    match L, hs with
    | [w0, w1], _ => exact ⟨w0, w1, rfl⟩
  have hw := fun d (hd : d ∈ tables_1) => atoms_spec (ws := Jvm.Cond.code x code maxLocals ret :: tables_1) hat d (List.mem_cons_of_mem _ hd)
  have hfit : Fit s := fun {y c} hc i hi => by
    obtain ⟨ha, rfl⟩ := Array.getElem?_eq_some_iff.mp hc
    have q := List.all_eq_true.mp ((Array.all_eq_true_iff_forall_mem.mp hF) _ (Array.getElem_mem ha)) i (List.mem_range.mpr hi)
    simpa [Array.getElem?_eq_getElem hi] using q
  obtain ⟨i0, ie0⟩ := isL_v ka0
  obtain rfl : w0 = (.long i0) := Option.some.inj ie0
  obtain ⟨i1, ie1⟩ := is_v ka1
  obtain rfl : w1 = (.int i1) := Option.some.inj ie1
  obtain ⟨n, o, h1, h2, h3, _, L, rfl, ⟨rfl, N⟩, hq⟩ := rm0 l s _ hw i0 i1 s.heap s.heap.size (Nat.le_refl _)  tables_1 p e ha hc hk s m _ below hf ((Spec.applies_iff_loose hf).mp happ).1 ⟨rfl, State.Warmed39.refl s, rfl⟩ trivial
  refine ⟨n, _, h1, h2, h3, hpost _ _ _ _ _ _ ⟨Cond.after_iff.mpr rfl, Cond.after_iff.mpr (eq_i res_at (Term.int_eval (1)) rfl), trivial⟩ ⟨hq.1, hq.2.1, (hq.2.2.sift fun y hy => Or.inr (N y hy)).mono (by decide) (by decide)⟩⟩
theorem main_1_1 : Claimed_1_1 := comes_1 fun _ _ _ _ _ _ h hF => ⟨h.1, hF⟩
theorem main_1_2 : Claimed_1_2 := comes_1 fun _ _ _ _ _ _ h hF => ⟨h.2.1, hF⟩
end Jvm.Pilot.@@N@@
namespace Jvm.Pilot.@@N@@
open Jvm Jvm.ClassFile Sem Op Lib Jvm.Free Jvm.Stand Jvm.Pilot.@@N@@.Jvm.D
/-! MADE BY PROGRAM (witnessworld.py) out of the Statement's table words and the real class files: 9 classes; the members and pool entries that the words name. The judged class is class 1, her method 1. -/
namespace start1
open Jvm.ClassFile
def u (s : String) : CpInfo := .utf8 (stringToUtf16 s)
/-- a pool by its gaps: so many unusable entries, then the entry; so many at the end -/
def gap : Nat → List CpInfo → List CpInfo
  | 0, r => r
  | n + 1, r => .unusable :: gap n r
def poolList (es : List (Nat × CpInfo)) (last : Nat) : List CpInfo := es.foldr (fun e r => gap e.1 (e.2 :: r)) (gap last [])
def pool (es : List (Nat × CpInfo)) (last : Nat) : Array CpInfo := ⟨poolList es last⟩
def fileOf (pool : Array CpInfo) (this : Nat) (attrs : Array Attribute := #[]) (ms : Array MethodInfo := #[]) (fl : Nat := 33) (sup : Nat := 0) (ifs : Array Nat := #[]) (fds : Array FieldInfo := #[]) : ClassFile where
  minorVersion := 0
  majorVersion := 65
  constantPool := pool
  accessFlags := fl
  thisClass := this
  superClass := sup
  interfaces := ifs
  fields := fds
  methods := ms
  attributes := attrs
def plain (name : String) (sup : Option ClassId) : Class where
  name := name
  kind := .ordinary
  loader := none
  accessFlags := 33
  super := sup
  interfaces := #[]
  cf := none
  fields := #[]
  methods := #[]
  instanceTypes := #[]
  staticTypes := #[]
  resolved := #[]
  callSites := []
  init := .initialized
  statics := none
  mirror := none

def pool0 : Array CpInfo := pool [(5, u "<init>"), (0, u "()V"), (1, .class_ 10), (1, u "java/lang/Object")] 113

def k0m0 : Method := { name := "<init>", desc := "()V", sig := { parameters := [], returnType := none }, accessFlags := 1, code := none }
/-- java/lang/Object -/
def k0 : Class := { plain "java/lang/Object" none with
  accessFlags := 33
  interfaces := #[]
  cf := some (fileOf pool0 8 #[] #[{ accessFlags := 1, nameIndex := 5, descriptorIndex := 6, attributes := #[] }] 33 0 #[] #[])
  fields := #[]
  methods := #[k0m0]
  instanceTypes := #[]
  staticTypes := #[]
  resolved := Array.replicate 124 none
  statics := none }

def pool1 : Array CpInfo := pool [(2, .class_ 4), (1, u "java/lang/Object"), (0, u "<init>"), (0, u "()V"), (0, .integer 2147483647), (0, .methodref 9 10), (0, .class_ 11), (0, .nameAndType 12 13), (0, u "com/example/brevidns/brevidns/OctetHash"), (0, u "place"), (0, u "(JI)I"), (0, .integer 1073741824), (0, .methodref 9 16), (0, .nameAndType 17 18), (0, u "mix"), (0, u "(JI)J"), (0, .integer 1073741823), (0, .class_ 21), (0, u "com/example/brevidns/brevidns/OctetHashPlacePinLaw"), (2, u "law"), (0, u "(JI)Z")] 3

def k1m0 : Method := { name := "<init>", desc := "()V", sig := { parameters := [], returnType := none }, accessFlags := 1, code := none }
def k1c1 : Code := { maxStack := 5, maxLocals := 13, code := code, exceptionTable := #[], attributes := #[] }
def k1m1 : Method := { name := "law", desc := "(JI)Z", sig := { parameters := [.long, .int], returnType := some .boolean }, accessFlags := 9, code := some k1c1 }
/-- com/example/brevidns/brevidns/OctetHashPlacePinLaw -/
def k1 : Class := { plain "com/example/brevidns/brevidns/OctetHashPlacePinLaw" (some 0) with
  accessFlags := 49
  interfaces := #[]
  cf := some (fileOf pool1 20 #[] #[{ accessFlags := 1, nameIndex := 5, descriptorIndex := 6, attributes := #[] }, { accessFlags := 9, nameIndex := 24, descriptorIndex := 25, attributes := #[] }] 49 2 #[] #[])
  fields := #[]
  methods := #[k1m0, k1m1]
  instanceTypes := #[]
  staticTypes := #[]
  resolved := Array.replicate 29 none
  statics := none }

def pool2 : Array CpInfo := pool [(2, .class_ 4), (1, u "java/lang/Object"), (0, u "<init>"), (0, u "()V"), (3, .class_ 12), (1, u "com/example/brevidns/brevidns/OctetHash"), (0, u "EIGHT_OCTETS"), (0, u "Ljava/lang/invoke/VarHandle;"), (6, .long 11400714819323198485), (15, u "MIX"), (0, u "J"), (3, u "mix"), (2, u "(JI)J"), (0, u "place"), (0, u "(JI)I")] 3

def k2m0 : Method := { name := "<init>", desc := "()V", sig := { parameters := [], returnType := none }, accessFlags := 2, code := none }
def k2c1 : Code := { maxStack := 4, maxLocals := 3, code := prog_8_method_3_code, exceptionTable := #[], attributes := #[] }
def k2m1 : Method := { name := "mix", desc := "(JI)J", sig := { parameters := [.long, .int], returnType := some .long }, accessFlags := 8, code := some k2c1 }
def k2c2 : Code := { maxStack := 5, maxLocals := 5, code := prog_8_method_4_code, exceptionTable := #[], attributes := #[] }
def k2m2 : Method := { name := "place", desc := "(JI)I", sig := { parameters := [.long, .int], returnType := some .int }, accessFlags := 8, code := some k2c2 }
/-- com/example/brevidns/brevidns/OctetHash -/
def k2 : Class := { plain "com/example/brevidns/brevidns/OctetHash" (some 0) with
  accessFlags := 48
  interfaces := #[]
  cf := some (fileOf pool2 10 #[] #[{ accessFlags := 2, nameIndex := 5, descriptorIndex := 6, attributes := #[] }, { accessFlags := 8, nameIndex := 42, descriptorIndex := 45, attributes := #[] }, { accessFlags := 8, nameIndex := 46, descriptorIndex := 47, attributes := #[] }] 48 2 #[] #[{ accessFlags := 26, nameIndex := 37, descriptorIndex := 38, attributes := #[] }, { accessFlags := 26, nameIndex := 13, descriptorIndex := 14, attributes := #[] }])
  fields := #[{ name := "MIX", type := .long, accessFlags := 26, slot := 0, constantValue := 0 }, { name := "EIGHT_OCTETS", type := (.object "java/lang/invoke/VarHandle"), accessFlags := 26, slot := 1, constantValue := 0 }]
  methods := #[k2m0, k2m1, k2m2]
  instanceTypes := #[]
  staticTypes := #[.long, (.object "java/lang/invoke/VarHandle")]
  resolved := Array.replicate 51 none
  statics := none }

def pool3 : Array CpInfo := pool [(1, u "java/lang/Cloneable"), (0, .class_ 1), (0, u "java/lang/Object"), (0, .class_ 3)] 3

/-- java/lang/Cloneable -/
def k3 : Class := { plain "java/lang/Cloneable" (some 0) with
  accessFlags := 1537
  interfaces := #[]
  cf := some (fileOf pool3 2 #[] #[] 1537 4 #[] #[])
  fields := #[]
  methods := #[]
  instanceTypes := #[]
  staticTypes := #[]
  resolved := Array.replicate 8 none
  statics := none }

def pool4 : Array CpInfo := pool [(1, u "java/io/Serializable"), (0, .class_ 1), (0, u "java/lang/Object"), (0, .class_ 3)] 3

/-- java/io/Serializable -/
def k4 : Class := { plain "java/io/Serializable" (some 0) with
  accessFlags := 1537
  interfaces := #[]
  cf := some (fileOf pool4 2 #[] #[] 1537 4 #[] #[])
  fields := #[]
  methods := #[]
  instanceTypes := #[]
  staticTypes := #[]
  resolved := Array.replicate 8 none
  statics := none }

/-- the primitive byte -/
def k5 : Class := { plain "byte" none with kind := .primitive 'B', accessFlags := 0x411 }
/-- [B -/
def k6 : Class := { plain "[B" (some 0) with kind := .array 5 .byte, interfaces := #[3, 4], accessFlags := 1041 }

/-- the primitive int -/
def k7 : Class := { plain "int" none with kind := .primitive 'I', accessFlags := 0x411 }
/-- [I -/
def k8 : Class := { plain "[I" (some 0) with kind := .array 7 .int, interfaces := #[3, 4], accessFlags := 1041 }

def heap : Heap := #[]
def classes : Array Class := #[k0, k1, k2, k3, k4, k5, k6, k7, k8]
def interned : List (Array UInt16 × Addr) := []
def slotsUsed : Nat := 0
def theMethod : MethodId := ⟨1, 1⟩
def args0 : Array Value := #[.long 5, .int 7]
def aboutOver (below : List Frame) : State where
  vm := { classes := classes, interned := interned.toArray }
  heap := heap
  slotsUsed := slotsUsed
  threads := #[{ frames := .invoking theMethod args0 :: below }]
def below0 : List Frame := [.native { method := ⟨0, 0⟩, args := #[] }]
def about1 : State := aboutOver below0
def p0 : Program := .bare "" "" ""
def e0 : Env := launch0.env 0 0 0
theorem w_frames : about1.frames = Frame.invoking theMethod args0 :: below0 := rfl
set_option maxRecDepth 65536 in
theorem w_args : argsFit about1.vm theMethod args0 = true := by decide +kernel
set_option maxRecDepth 65536 in
theorem w_heap : heapFits about1 = true := by decide +kernel
set_option maxRecDepth 65536 in
theorem w_runnable : about1.curStatus? = some .runnable := by decide +kernel
set_option maxRecDepth 65536 in
theorem w_alone : about1.alone = true := by decide +kernel
set_option maxRecDepth 65536 in
theorem w_named : about1.methodNamed? x = some theMethod := by decide +kernel
set_option maxRecDepth 65536 in
theorem w_hears : about1.hears theMethod below0 = true := by decide +kernel
set_option maxRecDepth 65536 in
theorem w_ripe : about1.ripe theMethod args0 below0 = true := by decide +kernel
theorem w_running : about1.status = .running := rfl
set_option maxRecDepth 65536 in
theorem w_room : about1.hasRoom e0.platform room_1 = true :=
  launch0.hasRoom_least _ room_1 (by decide +kernel) (by decide +kernel) (by decide +kernel) (by decide +kernel) (by decide +kernel) (by decide +kernel)
theorem allAtoms_all (ts : List Jvm.Cond) (a : Array Jvm.Value) (st : Jvm.State) : (allAtoms ts).before a st = ts.all (fun c => c.before a st) := by
  induction ts with
  | nil => rfl
  | cons c t ih =>
    show (Jvm.Cond.and c (allAtoms t)).before a st = _
    rw [Jvm.Cond.before_and, ih, List.all_cons]
def words1 : List Jvm.Cond := Jvm.Cond.code x code maxLocals ret :: tables_1
/-- a 'code' word, met by the world's own term for the bytes: nothing is compared byte by byte -/
theorem code_word {y : MethodName} {bytes : ByteArray} {mx : Nat} {rt : Option FieldType} {a : Array Value} {s : State} {m : MethodId} {meth : Method} {c : Code} (h1 : s.methodNamed? y = some m) (h2 : s.vm.method? m = some meth) (h3 : meth.code = some c) (h4 : c.code = bytes)
    (h5 : (c.maxLocals == mx && c.exceptionTable.isEmpty && decide (c.maxStack ≤ mostOperands) && decide (meth.sig.returnType = rt) && !meth.locks && decide (parseMethodDescriptor y.desc = some meth.sig)) = true) : (Jvm.Cond.code y bytes mx rt).before a s = true := by
  simp only [Bool.and_eq_true, beq_iff_eq, Bool.not_eq_true', decide_eq_true_eq] at h5
  obtain ⟨⟨⟨⟨⟨g1, g2⟩, g3⟩, g4⟩, g5⟩, g6⟩ := h5
  simp [Cond.before, Cond.holds, Cond.value, h1, h2, h3, h4, g1, g2, g3, g4, g5, g6]
def isCode : Jvm.Cond → Bool
  | .code _ _ _ _ => true
  | _ => false
theorem all_split {L : List Jvm.Cond} {P : Jvm.Cond → Bool} (h1 : L.all (fun c => isCode c || P c) = true) (h2 : ∀ c ∈ L.filter isCode, P c = true) : L.all P = true := by
  refine List.all_eq_true.mpr fun c hc => ?_
  have h := List.all_eq_true.mp h1 c hc
  rcases Bool.eq_false_or_eq_true (isCode c) with hi | hi
  · exact h2 c (List.mem_filter.mpr ⟨hc, hi⟩)
  · simpa [hi] using h
set_option maxRecDepth 65536 in
theorem w_c0 : (Jvm.Cond.code x code maxLocals ret).before args0 about1 = true := code_word (m := ⟨1, 1⟩) (meth := k1m1) (c := k1c1) (by decide +kernel) rfl rfl rfl (by decide +kernel)
set_option maxRecDepth 65536 in
theorem w_c1 : (Jvm.Cond.code ({ cls := "com/example/brevidns/brevidns/OctetHash", name := "place", desc := "(JI)I" } : Jvm.MethodName) prog_8_method_4_code (5 : Nat) (Option.some Jvm.ClassFile.FieldType.int)).before args0 about1 = true := code_word (m := ⟨2, 2⟩) (meth := k2m2) (c := k2c2) (by decide +kernel) rfl rfl rfl (by decide +kernel)
set_option maxRecDepth 65536 in
theorem w_c2 : (Jvm.Cond.code ({ cls := "com/example/brevidns/brevidns/OctetHash", name := "mix", desc := "(JI)J" } : Jvm.MethodName) prog_8_method_3_code (3 : Nat) (Option.some Jvm.ClassFile.FieldType.long)).before args0 about1 = true := code_word (m := ⟨2, 1⟩) (meth := k2m1) (c := k2c1) (by decide +kernel) rfl rfl rfl (by decide +kernel)
def codes1 : List Jvm.Cond := [Jvm.Cond.code x code maxLocals ret, Jvm.Cond.code ({ cls := "com/example/brevidns/brevidns/OctetHash", name := "place", desc := "(JI)I" } : Jvm.MethodName) prog_8_method_4_code (5 : Nat) (Option.some Jvm.ClassFile.FieldType.int), Jvm.Cond.code ({ cls := "com/example/brevidns/brevidns/OctetHash", name := "mix", desc := "(JI)J" } : Jvm.MethodName) prog_8_method_3_code (3 : Nat) (Option.some Jvm.ClassFile.FieldType.long)]
set_option maxRecDepth 65536 in
theorem codes_eq : words1.filter isCode = codes1 := rfl
theorem w_codes : ∀ c ∈ words1.filter isCode, c.before args0 about1 = true := by
  rw [codes_eq]
  intro c hc
  simp only [codes1, List.mem_cons, List.not_mem_nil, or_false] at hc
  rcases hc with rfl | rfl | rfl
  · exact w_c0
  · exact w_c1
  · exact w_c2
set_option maxRecDepth 65536 in
theorem w_t1 : words1.all (fun c => isCode c || c.before args0 about1) = true := by decide +kernel
theorem w_tables : (allAtoms (Jvm.Cond.code x code maxLocals ret :: tables_1)).before args0 about1 = true := by
  rw [allAtoms_all]
  show words1.all (fun c => c.before args0 about1) = true
  refine all_split ?_ w_codes
  rw [w_t1]
set_option maxRecDepth 65536 in
theorem w_case : (Jvm.Cond.and given_1 narrow_1).before args0 about1 = true := by decide +kernel
theorem w_applies : (headSpec (Jvm.Cond.code x code maxLocals ret :: tables_1) room_1).applies x e0.platform about1 = true :=
  (Spec.applies_iff w_frames).mpr ⟨w_running, w_runnable, w_alone, w_named, w_hears, w_ripe, w_room, w_tables⟩
theorem atStart : AtStart classFile x code maxLocals ret World_1 tables_1 room_1 Calls_1 rest_1 Pre_1 launch0 p0 e0 about1 theMethod args0 below0 :=
  ⟨lists_1, trivial, launch0.admits_env _ _ _, launch0.least_env, fairChoices_fair.cas, fairChoices_fair.clock, w_frames, w_args, w_heap, w_applies, trivial, trivial, w_case⟩
end start1
theorem witness_1 : WitnessClaimed_1 := ⟨start1.p0, start1.e0, start1.about1, start1.theMethod, start1.args0, start1.below0, start1.atStart⟩
end Jvm.Pilot.@@N@@
