import JvmDerived
import JvmDerived.Pilot.@@N@@Statement
import JvmDerived.Pilot.@@N@@Code
set_option linter.unusedVariables false
set_option linter.unusedSimpArgs false
@@BLOCK:TracedD.lean.txt@@
namespace Jvm.Own
open Jvm Sem ClassFile Op Lib Jvm.Stand Jvm.Free Jvm.LawKit Jvm.RoadKit
/-- from this state and frame the run comes to an end that E says -/
def Goes (p : Program) (e : Env) (below : List Frame) (E : Outcome → State → Prop) (T : State) (f : JFrame) : Prop :=
  ∃ s₂ o, Steps p.tables e below (T.setTop f) s₂ ∧ s₂.status = .running ∧ Ended s₂ below o ∧ E o s₂
/-- the end of a walk that interns nothing -/
def EndN (s : State) (Q : Option Value → Heap → List Loc → Prop) (K N : Nat) (o : Outcome) (U : State) : Prop :=
  ∃ v L, o = .returned v ∧ Q v U.heap L ∧ FrameEnd s o U L K N
/-- a body's contract -/
def Rm (l : Launch) (y : MethodName) (bytes : ByteArray) (maxL : Nat) (ret : Option FieldType) (rm : Room) (ws : List Jvm.Cond) (Z : State) (as' : Array Value) (h : Heap) (Q : Option Value → Heap → List Loc → Prop) : Prop :=
  MetFree l y (head1 (Jvm.Cond.code y bytes maxL ret :: ws) rm) (fun a U => a = as' ∧ Z.Warmed39 U.vm ∧ U.heap = h) (fun _ _ _ _ _ => True) (fun _ U o U' => ∃ v L, o = .returned v ∧ Q v U'.heap L ∧ FrameEnd U o U' L rm.cells rm.slots)
section Own1
variable {p : Program} {l : Launch} {e : Env} {R : Room} {s : State} {m : MethodId} {args : Array Value} {below : List Frame} {meth : Method} {c : Code} {T : State} {locs : List Loc} {cells slots : Nat} {Z : State} {a0 : Array Value} {h : Heap} {E : Outcome → State → Prop}
theorem Goes.of {T T' : State} {f f' : JFrame} (st : ∀ t, Steps p.tables e below (T'.setTop f') t → Steps p.tables e below (T.setTop f) t) (k : Goes p e below E T' f') : Goes p e below E T f := by
  obtain ⟨s₂, o, h1, h2⟩ := k
  exact ⟨s₂, o, st _ h1, h2⟩
theorem Goes.cast {T : State} {f f' : JFrame} (q : f = f') (k : Goes p e below E T f') : Goes p e below E T f := q ▸ k
theorem oldLe {n0 : Nat} (O : Old Z n0 h) : n0 ≤ h.size := O.1 ▸ O.2.1
theorem goRet {Q : Option Value → Heap → List Loc → Prop} {K N : Nat} {g : JFrame} {v : Option Value} (X : Stand p l e R s m args below meth c T locs cells slots) (hv : meth.sig.returnType = none → v = none) (hlocks : meth.locks = false) (eT : T.heap = h) (hQ : Q v h locs) (hK : cells ≤ K) (hN : slots ≤ N)
    (st : ∀ fs, (∀ (f : JFrame) (acts : List Action), f.method = m → f.locked = none → f.entered = [] → (doReturn e (T.setTop f) acts v).1 = T.setFrames fs) → Steps p.tables e below (T.setTop g) (T.setFrames fs)) : Goes p e below (EndN s Q K N) T g := by
  obtain ⟨fs, hr, hrun, hended, hW, hsame⟩ := X.leave (v := v) hv hlocks
  subst eT
  exact ⟨_, _, st fs hr, hrun, hended, _, _, rfl, hQ, ⟨_, rfl⟩, hW, hsame.mono hK hN⟩
theorem retZ {Q : Option Value → Heap → List Loc → Prop} {K N pc : Nat} {Ls : Array Slot} {z : Int32} {t : FieldType} {rest : List Value} (X : Stand p l e R s m args below meth c T locs cells slots) (hx : p.tables.exec = Jvm.exec) (hret : meth.sig.returnType = some t) (hlocks : meth.locks = false) (ht : t = .boolean ∨ t = .byte ∨ t = .char ∨ t = .short)
    (hd : decode c.code pc = .ok (.ireturn, 1)) (eT : T.heap = h) (hK : cells ≤ K) (hN : slots ≤ N) (hQ : Q (some (.int (nar t z))) h locs) : Goes p e below (EndN s Q K N) T (mkF m pc Ls (.int z :: rest)) :=
  goRet X (fun q => by rw [hret] at q; cases q) hlocks eT hQ hK hN fun fs hr => retN X hx hret ht hd hr
theorem retInt {Q : Option Value → Heap → List Loc → Prop} {K N pc : Nat} {Ls : Array Slot} {z : Int32} {rest : List Value} (X : Stand p l e R s m args below meth c T locs cells slots) (hx : p.tables.exec = Jvm.exec) (hret : meth.sig.returnType = some .int) (hlocks : meth.locks = false)
    (hd : decode c.code pc = .ok (.ireturn, 1)) (eT : T.heap = h) (hK : cells ≤ K) (hN : slots ≤ N) (hQ : Q (some (.int z)) h locs) : Goes p e below (EndN s Q K N) T (mkF m pc Ls (.int z :: rest)) :=
  goRet X (fun q => by rw [hret] at q; cases q) hlocks eT hQ hK hN fun fs hr => by
    have hm' : T.vm.method? m = some meth := X.method'
    have hn : narrow .int (.int z) = .int z := rfl
    show Steps p.tables e below (T.setTop { method := m, pc := pc, locals := Ls, stack := _ :: rest, locked := none }) _
    jvm_step X.here [X.here.top, hx, hd, hm', hret, hn]
    first | (intro acts; rw [hr _ acts rfl rfl rfl]) | rw [hr _ _ rfl rfl rfl]
    exact Steps.refl _
theorem retLong {Q : Option Value → Heap → List Loc → Prop} {K N pc : Nat} {Ls : Array Slot} {z : Int64} {rest : List Value} (X : Stand p l e R s m args below meth c T locs cells slots) (hx : p.tables.exec = Jvm.exec) (hret : meth.sig.returnType = some .long) (hlocks : meth.locks = false)
    (hd : decode c.code pc = .ok (.lreturn, 1)) (eT : T.heap = h) (hK : cells ≤ K) (hN : slots ≤ N) (hQ : Q (some (.long z)) h locs) : Goes p e below (EndN s Q K N) T (mkF m pc Ls (.long z :: rest)) :=
  goRet X (fun q => by rw [hret] at q; cases q) hlocks eT hQ hK hN fun fs hr => by
    have hm' : T.vm.method? m = some meth := X.method'
    show Steps p.tables e below (T.setTop { method := m, pc := pc, locals := Ls, stack := _ :: rest, locked := none }) _
    jvm_step X.here [X.here.top, hx, hd, hm', hret, narrow]
    first | (intro acts; rw [hr _ acts rfl rfl rfl]) | rw [hr _ _ rfl rfl rfl]
    exact Steps.refl _
theorem retRef {Q : Option Value → Heap → List Loc → Prop} {K N pc : Nat} {Ls : Array Slot} {z : Value} {t : FieldType} {rest : List Value} (X : Stand p l e R s m args below meth c T locs cells slots) (hx : p.tables.exec = Jvm.exec) (hret : meth.sig.returnType = some t) (hlocks : meth.locks = false) (ht : t.isReference = true) (hz : z.isRef = true)
    (hd : decode c.code pc = .ok (.areturn, 1)) (eT : T.heap = h) (hK : cells ≤ K) (hN : slots ≤ N) (hQ : Q (some z) h locs) : Goes p e below (EndN s Q K N) T (mkF m pc Ls (z :: rest)) :=
  goRet X (fun q => by rw [hret] at q; cases q) hlocks eT hQ hK hN fun fs hr => by
    have hm' : T.vm.method? m = some meth := X.method'
    show Steps p.tables e below (T.setTop { method := m, pc := pc, locals := Ls, stack := _ :: rest, locked := none }) _
    rcases ref_cases hz with rfl | ⟨_, rfl⟩
    all_goals
      jvm_step X.here [X.here.top, hx, hd, hm', hret, ht, Value.isRef]
      first | (intro acts; rw [hr _ acts rfl rfl rfl]) | rw [hr _ _ rfl rfl rfl]
      exact Steps.refl _
theorem retVoid {Q : Option Value → Heap → List Loc → Prop} {K N pc : Nat} {Ls : Array Slot} {rest : List Value} (X : Stand p l e R s m args below meth c T locs cells slots) (hx : p.tables.exec = Jvm.exec) (hret : meth.sig.returnType = none) (hlocks : meth.locks = false)
    (hd : decode c.code pc = .ok (.return_, 1)) (eT : T.heap = h) (hK : cells ≤ K) (hN : slots ≤ N) (hQ : Q none h locs) : Goes p e below (EndN s Q K N) T (mkF m pc Ls rest) :=
  goRet X (fun _ => rfl) hlocks eT hQ hK hN fun fs hr => by
    have hm' : T.vm.method? m = some meth := X.method'
    show Steps p.tables e below (T.setTop { method := m, pc := pc, locals := Ls, stack := rest, locked := none }) _
    jvm_step X.here [X.here.top, hx, hd, hm', hret]
    first | (intro acts; rw [hr _ acts rfl rfl rfl]) | rw [hr _ _ rfl rfl rfl]
    exact Steps.refl _
/-- a body's contract out of its walk -/
theorem Rm.of {ws : List Jvm.Cond} {y : MethodName} {bytes : ByteArray} {maxL : Nat} {ret : Option FieldType} {rm : Room} {as' : Array Value} {h : Heap} {Q : Option Value → Heap → List Loc → Prop} (hp : plainFor y = true)
    (body : ∀ (p : Program) (e : Env) (s : State) (m : MethodId) (below : List Frame) (meth : Method) (c : Code) (T : State), Stand p l e rm s m as' below meth c T [] 0 0 → p.tables.exec = Jvm.exec → Z.Warmed39 s.vm → c.code = bytes → c.maxLocals = maxL → s.vm.findClass y.cls = some m.cls → meth.name = y.name → meth.sig.returnType = ret → meth.locks = false → T.heap = h →
      Goes p e below (EndN s Q rm.cells rm.slots) T (entryFrame m as' maxL)) : Rm l y bytes maxL ret rm ws Z as' h Q := by
  refine MetFree.of_bodySF hp hisR ?_
  intro p e s m args below meth c s₁ Bd hml0 hP hK
  obtain ⟨rfl, hZ, hh⟩ := hP
  exact body p e s m below meth c s₁ (Stand.of_body Bd) Bd.exec hZ Bd.bytes hml0 (findClass_of_methodNamed Bd.named) (name_of_methodNamed Bd.named Bd.method).1 Bd.returns Bd.notSynchronized (by rw [← hh, Bd.state]; rfl)
theorem goStatic {own : String} {index : Nat} {y : MethodName} {bytes : ByteArray} {maxL : Nat} {ret : Option FieldType} {rm : Room} {as' : Array Value} {Q : Option Value → Heap → List Loc → Prop} (W : Nat)
    (X : Stand p l e R s m args below meth c T locs cells slots) (hx : p.tables.exec = Jvm.exec) (hZ : Z.Warmed39 s.vm) (hown : s.vm.findClass own = some m.cls) (w1 : (Jvm.Cond.methodLink own index y).before a0 Z = true) (w2 : (Jvm.Cond.static y).before a0 Z = true) (w3 : (Jvm.Cond.initialized y.cls).before a0 Z = true) (w4 : (Jvm.Cond.code y bytes maxL ret).before a0 Z = true)
    (hy : y.cls ≠ "java/lang/invoke/MethodHandle" ∧ y.cls ≠ "java/lang/invoke/VarHandle") (r : Rm l y bytes maxL ret rm [] Z as' h Q) (eT : T.heap = h) {g : JFrame} (hg : g.method = m) (hsize : g.locals.size = c.maxLocals) (argsL rest : List Value) (hlen : ∀ sig, parseMethodDescriptor y.desc = some sig → argsL.length = sig.parameters.length)
    (hstack : g.stack = argsL.reverse ++ rest) (has : argsL.toArray = as') (hW : 2 * g.monitorRoom + (rest.map fun v => v.category).sum ≤ W) (hd : decode c.code g.pc = .ok (.invokestatic index, 3)) (hf : rm.frames + 1 ≤ R.frames) (hl : W + (maxL + 11) + rm.locals ≤ R.locals) (hc : cells + rm.cells ≤ R.cells) (hs : slots + rm.slots ≤ R.slots)
    (k : ∀ v T' L, Stand p l e R s m args below meth c T' (locs ++ L) (cells + rm.cells) (slots + rm.slots) → Q v T'.heap L → Goes p e below E T' { g with pc := g.pc + 3, stack := v.toList ++ rest }) : Goes p e below E T g := by
  obtain ⟨v, vm₁, ⟨T', L', k', n'⟩, -, X', ⟨L, hQ, q1, q2, q3⟩, st⟩ := Jvm.LawKit.callS X hx (y := y) hown (mvT hZ w1) (mvT hZ w2) (mvT hZ w3) (mvT hZ w4) hy (backOf (W := W) r hZ w4 w3 hf hl) hg hsize hlen hstack hW hd (fun _ _ => ⟨has, eT, hc, hs⟩)
  dsimp only [Pt.U, Pt.locs, Pt.cells, Pt.slots] at X' q1 q2 q3 st hQ
  subst q1 q2 q3
  exact Goes.of st (k v T' L X' hQ)
theorem goSpecial {own : String} {index : Nat} {y : MethodName} {bytes : ByteArray} {maxL : Nat} {rm : Room} {as' : Array Value} {Q : Option Value → Heap → List Loc → Prop} (W : Nat)
    (X : Stand p l e R s m args below meth c T locs cells slots) (hx : p.tables.exec = Jvm.exec) (hZ : Z.Warmed39 s.vm) (hy1 : y.name = "<init>") (hown : s.vm.findClass own = some m.cls) (w1 : (Jvm.Cond.methodLink own index y).before a0 Z = true) (w2 : (Jvm.Cond.instanceMethod y).before a0 Z = true) (w3 : (Jvm.Cond.initialized y.cls).before a0 Z = true) (w4 : (Jvm.Cond.code y bytes maxL none).before a0 Z = true)
    (hy : y.cls ≠ "java/lang/invoke/MethodHandle" ∧ y.cls ≠ "java/lang/invoke/VarHandle") (r : Rm l y bytes maxL none rm [] Z as' h Q) (eT : T.heap = h) {g : JFrame} (hg : g.method = m) (hsize : g.locals.size = c.maxLocals) (a : Addr) (argsL rest : List Value) (hlen : ∀ sig, parseMethodDescriptor y.desc = some sig → argsL.length = sig.parameters.length)
    (hstack : g.stack = argsL.reverse ++ .ref a :: rest) (has : (.ref a :: argsL).toArray = as') (hW : 2 * g.monitorRoom + (rest.map fun v => v.category).sum ≤ W) (hd : decode c.code g.pc = .ok (.invokespecial index, 3)) (hf : rm.frames + 1 ≤ R.frames) (hl : W + (maxL + 11) + rm.locals ≤ R.locals) (hc : cells + rm.cells ≤ R.cells) (hs : slots + rm.slots ≤ R.slots)
    (k : ∀ v T' L, Stand p l e R s m args below meth c T' (locs ++ L) (cells + rm.cells) (slots + rm.slots) → Q v T'.heap L → Goes p e below E T' { g with pc := g.pc + 3, stack := v.toList ++ rest }) : Goes p e below E T g := by
  obtain ⟨v, vm₁, ⟨T', L', k', n'⟩, -, X', ⟨L, hQ, q1, q2, q3⟩, st⟩ := X.specialBack hx (y := y) hy1 hown (mvT hZ w1) (mvT hZ w2) (mvT hZ w4) hy (backOf (W := W) r hZ w4 w3 hf hl) hg hsize (Steps.refl _) (a := a) hlen hstack hW hd (fun _ _ => ⟨has, eT, hc, hs⟩)
  dsimp only [Pt.U, Pt.locs, Pt.cells, Pt.slots] at X' q1 q2 q3 st hQ
  subst q1 q2 q3
  exact Goes.of (fun _ => st.trans) (k v T' L X' hQ)
theorem goVirtual {own C : String} {index : Nat} {y z : MethodName} {bytes : ByteArray} {maxL : Nat} {ret : Option FieldType} {rm : Room} {as' : Array Value} {Q : Option Value → Heap → List Loc → Prop} (W : Nat)
    (X : Stand p l e R s m args below meth c T locs cells slots) (hx : p.tables.exec = Jvm.exec) (hZ : Z.Warmed39 s.vm) (hown : s.vm.findClass own = some m.cls) (w1 : (Jvm.Cond.methodLink own index y).before a0 Z = true) (w2 : (Jvm.Cond.declares y).before a0 Z = true) (hnf : NotFace s y) (w3 : (Jvm.Cond.selects C y z).before a0 Z = true) (w4 : (Jvm.Cond.instanceMethod z).before a0 Z = true) (w5 : (Jvm.Cond.initialized z.cls).before a0 Z = true) (w6 : (Jvm.Cond.code z bytes maxL ret).before a0 Z = true)
    (hy : y.cls ≠ "java/lang/invoke/MethodHandle" ∧ y.cls ≠ "java/lang/invoke/VarHandle") (r : Rm l z bytes maxL ret rm [] Z as' h Q) (eT : T.heap = h) {a : Addr} (F : Exa Z h a C) {g : JFrame} (hg : g.method = m) (hsize : g.locals.size = c.maxLocals) (argsL rest : List Value) (hlen : ∀ sig, parseMethodDescriptor y.desc = some sig → argsL.length = sig.parameters.length)
    (hstack : g.stack = argsL.reverse ++ .ref a :: rest) (has : (.ref a :: argsL).toArray = as') (hW : 2 * g.monitorRoom + (rest.map fun v => v.category).sum ≤ W) (hd : decode c.code g.pc = .ok (.invokevirtual index, 3)) (hf : rm.frames + 1 ≤ R.frames) (hl : W + (maxL + 11) + rm.locals ≤ R.locals) (hc : cells + rm.cells ≤ R.cells) (hs : slots + rm.slots ≤ R.slots)
    (k : ∀ v T' L, Stand p l e R s m args below meth c T' (locs ++ L) (cells + rm.cells) (slots + rm.slots) → Q v T'.heap L → Goes p e below E T' { g with pc := g.pc + 3, stack := v.toList ++ rest }) : Goes p e below E T g := by
  obtain ⟨cq, kq, qa, qb, qc⟩ := isOf hZ eT F
  obtain ⟨v, vm₁, ⟨T', L', k', n'⟩, -, X', ⟨L, hQ, q1, q2, q3⟩, st⟩ := X.virtualBack hx (y := y) (z := z) hown (mvT hZ w1) (mvT hZ w2) hnf (mvT hZ w3) (mvT hZ w4) hy (backOf (W := W) r hZ w6 w5 hf hl) qa qc hg hsize (Steps.refl _) hlen hstack hW hd (fun _ _ => ⟨has, eT, hc, hs⟩)
  dsimp only [Pt.U, Pt.locs, Pt.cells, Pt.slots] at X' q1 q2 q3 st hQ
  subst q1 q2 q3
  exact Goes.of (fun _ => st.trans) (k v T' L X' hQ)
theorem goNew {own C : String} {index n : Nat} (X : Stand p l e R s m args below meth c T locs cells slots) (hx : p.tables.exec = Jvm.exec) (hZ : Z.Warmed39 s.vm) (hown : s.vm.findClass own = some m.cls) (w : (Jvm.Cond.classLink own index C).before a0 Z = true) (wi : (Jvm.Cond.instantiable C n).before a0 Z = true) (wz : (Jvm.Cond.initialized C).before a0 Z = true) (eT : T.heap = h)
    {g : JFrame} (hg : g.method = m) (hd : decode c.code g.pc = .ok (.new index, 3)) (hc : cells + 1 ≤ R.cells) (hl : slots + n ≤ R.slots)
    (k : ∀ T' h' b, Stand p l e R s m args below meth c T' locs (cells + 1) (slots + n) → T'.heap = h' → Ext h h' → h.size ≤ b → Exa Z h' b C → (∀ {O nm d : String} {ty : FieldType}, Laid Z a0 C O nm d → parseFieldDescriptor d = some ty → Fld Z h' b O nm d (defaultValue ty)) → Goes p e below E T' { g with pc := g.pc + 3, stack := .ref b :: g.stack }) : Goes p e below E T g := by
  obtain ⟨T', h', X', e', E', A', D', -, st⟩ := newO X hx hZ hown w wi wz eT hg hd hc hl
  exact Goes.of st (k T' h' _ X' e' E' (Nat.le_refl _) A' D')
theorem goInitO {own : String} {idx : Nat} (W : Nat) (X : Stand p l e R s m args below meth c T locs cells slots) (hx : p.tables.exec = Jvm.exec) (hZ : Z.Warmed39 s.vm) (hown : s.vm.findClass own = some m.cls) (w1 : (Jvm.Cond.methodLink own idx Lib.objectInit).before a0 Z = true) (w2 : (Jvm.Cond.instanceMethod Lib.objectInit).before a0 Z = true)
    (w3 : (Jvm.Cond.code Lib.objectInit ⟨#[0xb1]⟩ 1 none).before a0 Z = true) (eT : T.heap = h) {g : JFrame} (hg : g.method = m) (hsize : g.locals.size = c.maxLocals) {a : Addr} {rest : List Value} (hs : g.stack = .ref a :: rest) (hd : decode c.code g.pc = .ok (.invokespecial idx, 3))
    (hf : 1 ≤ R.frames) (hW : 2 * g.monitorRoom + (rest.map fun v => v.category).sum ≤ W) (hl : W + 12 ≤ R.locals) (k : ∀ T', Stand p l e R s m args below meth c T' locs cells slots → T'.heap = h → Goes p e below E T' { g with pc := g.pc + 3, stack := rest }) : Goes p e below E T g := by
  obtain ⟨T', X', e', st⟩ := initO X hx hZ hown w1 w2 w3 eT hg hsize hs hd hf hW hl
  exact Goes.of st (k T' X' e')
theorem goGet {own R0 O n d host : String} {index : Nat} (X : Stand p l e R s m args below meth c T locs cells slots) (hx : p.tables.exec = Jvm.exec) (hZ : Z.Warmed39 s.vm) (hown : s.vm.findClass own = some m.cls) (w : (Jvm.Cond.fieldLink own index R0 n d).before a0 Z = true ∨ (Jvm.Cond.fieldLinkNest own index R0 n d host).before a0 Z = true) (via : Via Z R0 O n d)
    (eT : T.heap = h) {a : Addr} {v : Value} (F : Fld Z h a O n d v) {g : JFrame} (hg : g.method = m) {rest : List Value} (hs : g.stack = .ref a :: rest) (hd : decode c.code g.pc = .ok (.getfield index, 3))
    (k : ∀ T', Stand p l e R s m args below meth c T' locs cells slots → T'.heap = h → Goes p e below E T' { g with pc := g.pc + 3, stack := v :: rest }) : Goes p e below E T g := by
  obtain ⟨T', X', e', st⟩ := getF X hx hZ hown w via eT F hg hs hd
  exact Goes.of st (k T' X' e')
theorem goGetS {own R0 O n d host : String} {index : Nat} (X : Stand p l e R s m args below meth c T locs cells slots) (hx : p.tables.exec = Jvm.exec) (hZ : Z.Warmed39 s.vm) (hown : s.vm.findClass own = some m.cls) (w : (Jvm.Cond.fieldLink own index R0 n d).before a0 Z = true ∨ (Jvm.Cond.fieldLinkNest own index R0 n d host).before a0 Z = true) (via : Via Z R0 O n d)
    (eT : T.heap = h) {v : Value} (F : Sta Z h O n d v) {g : JFrame} (hg : g.method = m) (hd : decode c.code g.pc = .ok (.getstatic index, 3))
    (k : ∀ T', Stand p l e R s m args below meth c T' locs cells slots → T'.heap = h → Goes p e below E T' { g with pc := g.pc + 3, stack := v :: g.stack }) : Goes p e below E T g := by
  obtain ⟨T', X', e', st⟩ := getS2 X hx hZ hown w via eT F hg hd
  exact Goes.of st (k T' X' e')
theorem goPut {own R0 O n d host C : String} {index kk : Nat} {ty : FieldType} (X : Stand p l e R s m args below meth c T locs cells slots) (hx : p.tables.exec = Jvm.exec) (hZ : Z.Warmed39 s.vm) (hown : s.vm.findClass own = some m.cls) (w : (Jvm.Cond.fieldLink own index R0 n d).before a0 Z = true ∨ (Jvm.Cond.fieldLinkNest own index R0 n d host).before a0 Z = true) (via : Via Z R0 O n d)
    (eT : T.heap = h) {a : Addr} {v old : Value} (F : Fld Z h a O n d old) (Ex : Exa Z h a C) (L : (Jvm.Cond.lays C O n d).before a0 Z = true ∨ ((Jvm.Cond.laysFinal C O n d).before a0 Z = true ∧ own = O ∧ meth.name = "<init>")) (wi : (Jvm.Cond.instantiable C kk).before a0 Z = true)
    (hty : parseFieldDescriptor d = some ty) (hn : narrow ty v = v) (hf : fits ty v = true) {g : JFrame} (hg : g.method = m) {rest : List Value} (hs : g.stack = v :: .ref a :: rest) (hd : decode c.code g.pc = .ok (.putfield index, 3))
    (k : ∀ T' h', Stand p l e R s m args below meth c T' (locs ++ [⟨a, Jvm.RoadKit.slotOf Z O n d⟩]) cells slots → T'.heap = h' → Wr h h' a (Jvm.RoadKit.slotOf Z O n d) v → Goes p e below E T' { g with pc := g.pc + 3, stack := rest }) : Goes p e below E T g := by
  obtain ⟨T', h', X', e', W', st⟩ := putF X hx hZ hown w via eT F Ex L wi hty hn hf hg hs hd
  exact Goes.of st (k T' h' X' e' W')
theorem goCast {own K : String} {index : Nat} (X : Stand p l e R s m args below meth c T locs cells slots) (hx : p.tables.exec = Jvm.exec) (hZ : Z.Warmed39 s.vm) (hown : s.vm.findClass own = some m.cls) (w : (Jvm.Cond.classLink own index K).before a0 Z = true) (eT : T.heap = h) {a : Addr} (F : Ins Z h a K true)
    {g : JFrame} (hg : g.method = m) {rest : List Value} (hs : g.stack = .ref a :: rest) (hd : decode c.code g.pc = .ok (.checkcast index, 3))
    (k : ∀ T', Stand p l e R s m args below meth c T' locs cells slots → T'.heap = h → Goes p e below E T' { g with pc := g.pc + 3 }) : Goes p e below E T g := by
  obtain ⟨T', X', e', st⟩ := castY X hx hZ hown w eT F hg hs hd
  exact Goes.of st (k T' X' e')
theorem goInstY {own K : String} {index : Nat} (X : Stand p l e R s m args below meth c T locs cells slots) (hx : p.tables.exec = Jvm.exec) (hZ : Z.Warmed39 s.vm) (hown : s.vm.findClass own = some m.cls) (w : (Jvm.Cond.classLink own index K).before a0 Z = true) (eT : T.heap = h) {a : Addr} (F : Ins Z h a K true)
    {g : JFrame} (hg : g.method = m) {rest : List Value} (hs : g.stack = .ref a :: rest) (hd : decode c.code g.pc = .ok (.instanceof index, 3))
    (k : ∀ T', Stand p l e R s m args below meth c T' locs cells slots → T'.heap = h → Goes p e below E T' { g with pc := g.pc + 3, stack := .int 1 :: rest }) : Goes p e below E T g := by
  obtain ⟨T', X', e', st⟩ := instY X hx hZ hown w eT F hg hs hd
  exact Goes.of st (k T' X' e')
theorem goInstN {own K C : String} {index : Nat} (X : Stand p l e R s m args below meth c T locs cells slots) (hx : p.tables.exec = Jvm.exec) (hZ : Z.Warmed39 s.vm) (hown : s.vm.findClass own = some m.cls) (w : (Jvm.Cond.classLink own index K).before a0 Z = true) (eT : T.heap = h) {a : Addr} (Ex : Exa Z h a C) (F : ∃ c t, Z.vm.findClass C = some c ∧ Z.vm.findClass K = some t ∧ Z.vm.assignable c t = false)
    {g : JFrame} (hg : g.method = m) {rest : List Value} (hs : g.stack = .ref a :: rest) (hd : decode c.code g.pc = .ok (.instanceof index, 3))
    (k : ∀ T', Stand p l e R s m args below meth c T' locs cells slots → T'.heap = h → Goes p e below E T' { g with pc := g.pc + 3, stack := .int 0 :: rest }) : Goes p e below E T g := by
  obtain ⟨T', X', e', st⟩ := Jvm.RoadKit.instNo X hx hZ hown w eT Ex F hg hs hd
  exact Goes.of st (k T' X' e')
theorem goNewP {aty : ArrayType} (cap : Nat) (X : Stand p l e R s m args below meth c T locs cells slots) (hx : p.tables.exec = Jvm.exec) (hZ : Z.Warmed39 s.vm) (w : (Jvm.Cond.arrayClass (newarray.typeOf aty)).before a0 Z = true) (eT : T.heap = h) {g : JFrame} (hg : g.method = m) (hd : decode c.code g.pc = .ok (.newarray aty, 2)) {n : Int32} {rest : List Value} (hs : g.stack = .int n :: rest)
    (hn : ¬ n < 0) (hcap : n.toNatClampNeg ≤ cap) (hb : cap * 8 ≤ 536870912) (hc : cells + 1 ≤ R.cells) (hl : slots + cap ≤ R.slots) {ad : String} (had : "[" ++ (newarray.typeOf aty).toString = ad) 
    (k : ∀ T' h' b cA, Stand p l e R s m args below meth c T' locs (cells + 1) (slots + cap) → T'.heap = h' → Ext h h' → h.size ≤ b → Arv Z h' b cA (newarray.typeOf aty) n (List.replicate cap (defaultValue (newarray.typeOf aty))) (defaultValue (newarray.typeOf aty)) → Exa Z h' b ad → Goes p e below E T' { g with pc := g.pc + 2, stack := .ref b :: rest }) : Goes p e below E T g := by
  obtain ⟨T', h', cA, X', e', E', A', Ex', st⟩ := newPE X hx hZ w eT hg hd hs hn hcap hb hc hl had
  exact Goes.of st (k T' h' _ cA X' e' E' (Nat.le_refl _) ((Arv.new A' hn).pad (pad_rep [] _ cap)) Ex')
theorem goNewR {own C : String} {index : Nat} (cap : Nat) (X : Stand p l e R s m args below meth c T locs cells slots) (hx : p.tables.exec = Jvm.exec) (hZ : Z.Warmed39 s.vm) (hown : s.vm.findClass own = some m.cls) (w1 : (Jvm.Cond.classLink own index C).before a0 Z = true) (w2 : (Jvm.Cond.arrayOver (.object C)).before a0 Z = true) (eT : T.heap = h) {g : JFrame} (hg : g.method = m) (hd : decode c.code g.pc = .ok (.anewarray index, 3)) {n : Int32} {rest : List Value} (hs : g.stack = .int n :: rest)
    (hn : ¬ n < 0) (hcap : n.toNatClampNeg ≤ cap) (hb : cap * 8 ≤ 536870912) (hc : cells + 1 ≤ R.cells) (hl : slots + cap ≤ R.slots)
    (k : ∀ T' h' b cA, Stand p l e R s m args below meth c T' locs (cells + 1) (slots + cap) → T'.heap = h' → Ext h h' → h.size ≤ b → Arv Z h' b cA (.object C) n (List.replicate cap .null) .null → Ovr Z cA C → Goes p e below E T' { g with pc := g.pc + 3, stack := .ref b :: rest }) : Goes p e below E T g := by
  obtain ⟨T', h', cA, X', e', E', A', O', st⟩ := newR X hx hZ hown w1 w2 eT hg hd hs hn hcap hb hc hl
  exact Goes.of st (k T' h' _ cA X' e' E' (Nat.le_refl _) ((Arv.new A' hn).pad (pad_rep [] _ cap)) O')
theorem inbV {cl : Cell} {z j : Int32} (S : cl.slots.size = z.toNatClampNeg) (hj : ¬ j < 0) (hj' : j < z) : ¬ (j < 0 ∨ cl.slots.size ≤ j.toNatClampNeg) := inb_of S ⟨hj, hj'⟩
theorem goStI {a : Addr} {kc : ClassId} {z j x : Int32} {vs : List Value} {dv : Value} (i : Nat) (X : Stand p l e R s m args below meth c T locs cells slots) (hx : p.tables.exec = Jvm.exec) (hZ : Z.Warmed39 s.vm) (eT : T.heap = h) (V : Arv Z h a kc .int z vs dv) (hj : ¬ j < 0) (hj' : j < z) (hi : j.toNatClampNeg = i) (hl : i < vs.length)
    {g : JFrame} (hg : g.method = m) {rest : List Value} (hs : g.stack = .int x :: .int j :: .ref a :: rest) (hd : decode c.code g.pc = .ok (.iastore, 1))
    (k : ∀ T' h', Stand p l e R s m args below meth c T' (locs ++ [⟨a, j.toNatClampNeg⟩]) cells slots → T'.heap = h' → Wr h h' a j.toNatClampNeg (.int x) → Arv Z h' a kc .int z (vs.set i (.int x)) dv → Goes p e below E T' { g with pc := g.pc + 1, stack := rest }) : Goes p e below E T g := by
  obtain ⟨cl, A, q1, S, q3, H, G⟩ := V
  obtain ⟨T', h', X', e', W', st⟩ := stI X hx hZ eT A (inbV S hj hj') hg hs hd
  exact Goes.of st (k T' h' X' e' W' (Arv.set A q1 S q3 H G rfl W' i hi hl))
theorem goStJ {a : Addr} {kc : ClassId} {z j : Int32} {x : Int64} {vs : List Value} {dv : Value} (i : Nat) (X : Stand p l e R s m args below meth c T locs cells slots) (hx : p.tables.exec = Jvm.exec) (hZ : Z.Warmed39 s.vm) (eT : T.heap = h) (V : Arv Z h a kc .long z vs dv) (hj : ¬ j < 0) (hj' : j < z) (hi : j.toNatClampNeg = i) (hl : i < vs.length)
    {g : JFrame} (hg : g.method = m) {rest : List Value} (hs : g.stack = .long x :: .int j :: .ref a :: rest) (hd : decode c.code g.pc = .ok (.lastore, 1))
    (k : ∀ T' h', Stand p l e R s m args below meth c T' (locs ++ [⟨a, j.toNatClampNeg⟩]) cells slots → T'.heap = h' → Wr h h' a j.toNatClampNeg (.long x) → Arv Z h' a kc .long z (vs.set i (.long x)) dv → Goes p e below E T' { g with pc := g.pc + 1, stack := rest }) : Goes p e below E T g := by
  obtain ⟨cl, A, q1, S, q3, H, G⟩ := V
  obtain ⟨T', h', X', e', W', st⟩ := stJ X hx hZ eT A (inbV S hj hj') hg hs hd
  exact Goes.of st (k T' h' X' e' W' (Arv.set A q1 S q3 H G rfl W' i hi hl))
theorem goStC {a : Addr} {kc : ClassId} {z j x : Int32} {vs : List Value} {dv : Value} (i : Nat) (X : Stand p l e R s m args below meth c T locs cells slots) (hx : p.tables.exec = Jvm.exec) (hZ : Z.Warmed39 s.vm) (eT : T.heap = h) (V : Arv Z h a kc .char z vs dv) (hj : ¬ j < 0) (hj' : j < z) (hi : j.toNatClampNeg = i) (hl : i < vs.length)
    {g : JFrame} (hg : g.method = m) {rest : List Value} (hs : g.stack = .int x :: .int j :: .ref a :: rest) (hd : decode c.code g.pc = .ok (.castore, 1))
    (k : ∀ T' h', Stand p l e R s m args below meth c T' (locs ++ [⟨a, j.toNatClampNeg⟩]) cells slots → T'.heap = h' → Wr h h' a j.toNatClampNeg (.int (nar .char x)) → Arv Z h' a kc .char z (vs.set i (.int (nar .char x))) dv → Goes p e below E T' { g with pc := g.pc + 1, stack := rest }) : Goes p e below E T g := by
  obtain ⟨cl, A, q1, S, q3, H, G⟩ := V
  obtain ⟨T', h', X', e', W', st⟩ := stC X hx hZ eT A (inbV S hj hj') hg hs hd
  exact Goes.of st (k T' h' X' e' W' (Arv.set A q1 S q3 H G (fits_nar_char _) W' i hi hl))
theorem goStB {a : Addr} {kc : ClassId} {z j x : Int32} {vs : List Value} {dv : Value} (i : Nat) (X : Stand p l e R s m args below meth c T locs cells slots) (hx : p.tables.exec = Jvm.exec) (hZ : Z.Warmed39 s.vm) (eT : T.heap = h) (V : Arv Z h a kc .byte z vs dv) (hj : ¬ j < 0) (hj' : j < z) (hi : j.toNatClampNeg = i) (hl : i < vs.length)
    {g : JFrame} (hg : g.method = m) {rest : List Value} (hs : g.stack = .int x :: .int j :: .ref a :: rest) (hd : decode c.code g.pc = .ok (.bastore, 1))
    (k : ∀ T' h', Stand p l e R s m args below meth c T' (locs ++ [⟨a, j.toNatClampNeg⟩]) cells slots → T'.heap = h' → Wr h h' a j.toNatClampNeg (.int (nar .byte x)) → Arv Z h' a kc .byte z (vs.set i (.int (nar .byte x))) dv → Goes p e below E T' { g with pc := g.pc + 1, stack := rest }) : Goes p e below E T g := by
  obtain ⟨cl, A, q1, S, q3, H, G⟩ := V
  obtain ⟨T', h', X', e', W', st⟩ := stB X hx hZ eT A (inbV S hj hj') hg hs hd
  exact Goes.of st (k T' h' X' e' W' (Arv.set A q1 S q3 H G (fits_nar_byte _) W' i hi hl))
theorem goStZ {a : Addr} {kc : ClassId} {z j x : Int32} {vs : List Value} {dv : Value} (i : Nat) (X : Stand p l e R s m args below meth c T locs cells slots) (hx : p.tables.exec = Jvm.exec) (hZ : Z.Warmed39 s.vm) (eT : T.heap = h) (V : Arv Z h a kc .boolean z vs dv) (hj : ¬ j < 0) (hj' : j < z) (hi : j.toNatClampNeg = i) (hl : i < vs.length)
    {g : JFrame} (hg : g.method = m) {rest : List Value} (hs : g.stack = .int x :: .int j :: .ref a :: rest) (hd : decode c.code g.pc = .ok (.bastore, 1))
    (k : ∀ T' h', Stand p l e R s m args below meth c T' (locs ++ [⟨a, j.toNatClampNeg⟩]) cells slots → T'.heap = h' → Wr h h' a j.toNatClampNeg (.int (nar .boolean x)) → Arv Z h' a kc .boolean z (vs.set i (.int (nar .boolean x))) dv → Goes p e below E T' { g with pc := g.pc + 1, stack := rest }) : Goes p e below E T g := by
  obtain ⟨cl, A, q1, S, q3, H, G⟩ := V
  obtain ⟨T', h', X', e', W', st⟩ := stZ X hx hZ eT A (inbV S hj hj') hg hs hd
  exact Goes.of st (k T' h' X' e' W' (Arv.set A q1 S q3 H G (fits_nar_bool _) W' i hi hl))
theorem goStR {a y : Addr} {C : String} {kc : ClassId} {z j : Int32} {vs : List Value} {dv : Value} (i : Nat) (X : Stand p l e R s m args below meth c T locs cells slots) (hx : p.tables.exec = Jvm.exec) (hZ : Z.Warmed39 s.vm) (eT : T.heap = h) (V : Arv Z h a kc (.object C) z vs dv) (O : Ovr Z kc C) (I : Ins Z h y C true) (hj : ¬ j < 0) (hj' : j < z) (hi : j.toNatClampNeg = i) (hl : i < vs.length)
    {g : JFrame} (hg : g.method = m) {rest : List Value} (hs : g.stack = .ref y :: .int j :: .ref a :: rest) (hd : decode c.code g.pc = .ok (.aastore, 1))
    (k : ∀ T' h', Stand p l e R s m args below meth c T' (locs ++ [⟨a, j.toNatClampNeg⟩]) cells slots → T'.heap = h' → Wr h h' a j.toNatClampNeg (.ref y) → Arv Z h' a kc (.object C) z (vs.set i (.ref y)) dv → Goes p e below E T' { g with pc := g.pc + 1, stack := rest }) : Goes p e below E T g := by
  obtain ⟨cl, A, q1, S, q3, H, G⟩ := V
  obtain ⟨T', h', X', e', W', st⟩ := stR X hx hZ eT A (inbV S hj hj') rfl (Sto.ofV A q1 O I) hg hs hd
  exact Goes.of st (k T' h' X' e' W' (Arv.set A q1 S q3 H G rfl W' i hi hl))
theorem goLdI {a : Addr} {kc : ClassId} {z j : Int32} {vs : List Value} {dv : Value} (v : Value) (X : Stand p l e R s m args below meth c T locs cells slots) (hx : p.tables.exec = Jvm.exec) (hZ : Z.Warmed39 s.vm) (eT : T.heap = h) (V : Arv Z h a kc .int z vs dv) (hj : ¬ j < 0) (hj' : j < z) (hv : vs.getD j.toNatClampNeg dv = v)
    {g : JFrame} (hg : g.method = m) {rest : List Value} (hs : g.stack = .int j :: .ref a :: rest) (hd : decode c.code g.pc = .ok (.iaload, 1)) (k : Goes p e below E T { g with pc := g.pc + 1, stack := v :: rest }) : Goes p e below E T g := by
  obtain ⟨cl, A, q1, S, q3, H, G⟩ := V
  exact Goes.of (fun t q => X.iaload hx (by rw [eT]; exact A.1) (State.isArrayOf_alike hZ.alike A.2.1) A.2.2 (inbV S hj hj') (H.at (inbV S hj hj') hv) hg hs hd t q) k
theorem goLdJ {a : Addr} {kc : ClassId} {z j : Int32} {vs : List Value} {dv : Value} (v : Value) (X : Stand p l e R s m args below meth c T locs cells slots) (hx : p.tables.exec = Jvm.exec) (hZ : Z.Warmed39 s.vm) (eT : T.heap = h) (V : Arv Z h a kc .long z vs dv) (hj : ¬ j < 0) (hj' : j < z) (hv : vs.getD j.toNatClampNeg dv = v)
    {g : JFrame} (hg : g.method = m) {rest : List Value} (hs : g.stack = .int j :: .ref a :: rest) (hd : decode c.code g.pc = .ok (.laload, 1)) (k : Goes p e below E T { g with pc := g.pc + 1, stack := v :: rest }) : Goes p e below E T g := by
  obtain ⟨cl, A, q1, S, q3, H, G⟩ := V
  exact Goes.of (fun t q => X.laload hx (by rw [eT]; exact A.1) (State.isArrayOf_alike hZ.alike A.2.1) A.2.2 (inbV S hj hj') (H.at (inbV S hj hj') hv) hg hs hd t q) k
theorem goLdC {a : Addr} {kc : ClassId} {z j : Int32} {vs : List Value} {dv : Value} (v : Value) (X : Stand p l e R s m args below meth c T locs cells slots) (hx : p.tables.exec = Jvm.exec) (hZ : Z.Warmed39 s.vm) (eT : T.heap = h) (V : Arv Z h a kc .char z vs dv) (hj : ¬ j < 0) (hj' : j < z) (hv : vs.getD j.toNatClampNeg dv = v)
    {g : JFrame} (hg : g.method = m) {rest : List Value} (hs : g.stack = .int j :: .ref a :: rest) (hd : decode c.code g.pc = .ok (.caload, 1)) (k : Goes p e below E T { g with pc := g.pc + 1, stack := v :: rest }) : Goes p e below E T g := by
  obtain ⟨cl, A, q1, S, q3, H, G⟩ := V
  exact Goes.of (fun t q => X.caload hx (by rw [eT]; exact A.1) (State.isArrayOf_alike hZ.alike A.2.1) A.2.2 (inbV S hj hj') (H.at (inbV S hj hj') hv) hg hs hd t q) k
theorem goLdB {a : Addr} {kc : ClassId} {z j : Int32} {vs : List Value} {dv : Value} (v : Value) (X : Stand p l e R s m args below meth c T locs cells slots) (hx : p.tables.exec = Jvm.exec) (hZ : Z.Warmed39 s.vm) (eT : T.heap = h) (V : Arv Z h a kc .byte z vs dv) (hj : ¬ j < 0) (hj' : j < z) (hv : vs.getD j.toNatClampNeg dv = v)
    {g : JFrame} (hg : g.method = m) {rest : List Value} (hs : g.stack = .int j :: .ref a :: rest) (hd : decode c.code g.pc = .ok (.baload, 1)) (k : Goes p e below E T { g with pc := g.pc + 1, stack := v :: rest }) : Goes p e below E T g := by
  obtain ⟨cl, A, q1, S, q3, H, G⟩ := V
  exact Goes.of (fun t q => X.baloadBytes hx (by rw [eT]; exact A.1) (State.isArrayOf_alike hZ.alike A.2.1) A.2.2 (inbV S hj hj') (H.at (inbV S hj hj') hv) hg hs hd t q) k
theorem goLdZ {a : Addr} {kc : ClassId} {z j : Int32} {vs : List Value} {dv : Value} (v : Value) (X : Stand p l e R s m args below meth c T locs cells slots) (hx : p.tables.exec = Jvm.exec) (hZ : Z.Warmed39 s.vm) (eT : T.heap = h) (V : Arv Z h a kc .boolean z vs dv) (hj : ¬ j < 0) (hj' : j < z) (hv : vs.getD j.toNatClampNeg dv = v)
    {g : JFrame} (hg : g.method = m) {rest : List Value} (hs : g.stack = .int j :: .ref a :: rest) (hd : decode c.code g.pc = .ok (.baload, 1)) (k : Goes p e below E T { g with pc := g.pc + 1, stack := v :: rest }) : Goes p e below E T g := by
  obtain ⟨cl, A, q1, S, q3, H, G⟩ := V
  exact Goes.of (fun t q => X.baloadBooleans hx (by rw [eT]; exact A.1) (State.isArrayOf_alike hZ.alike A.2.1) A.2.2 (inbV S hj hj') (H.at (inbV S hj hj') hv) hg hs hd t q) k
theorem goLdR {a : Addr} {C : String} {kc : ClassId} {z j : Int32} {vs : List Value} {dv : Value} (v : Value) (X : Stand p l e R s m args below meth c T locs cells slots) (hx : p.tables.exec = Jvm.exec) (hZ : Z.Warmed39 s.vm) (eT : T.heap = h) (V : Arv Z h a kc (.object C) z vs dv) (hj : ¬ j < 0) (hj' : j < z) (hv : vs.getD j.toNatClampNeg dv = v)
    {g : JFrame} (hg : g.method = m) {rest : List Value} (hs : g.stack = .int j :: .ref a :: rest) (hd : decode c.code g.pc = .ok (.aaload, 1)) (k : Goes p e below E T { g with pc := g.pc + 1, stack := v :: rest }) : Goes p e below E T g := by
  obtain ⟨cl, A, q1, S, q3, H, G⟩ := V
  exact Goes.of (fun t q => X.aaload hx (by rw [eT]; exact A.1) (State.isArrayOf_alike hZ.alike A.2.1) rfl A.2.2 (inbV S hj hj') (H.at (inbV S hj hj') hv) hg hs hd t q) k
theorem goLen {a : Addr} {kc : ClassId} {ty : FieldType} {z : Int32} {vs : List Value} {dv : Value} (X : Stand p l e R s m args below meth c T locs cells slots) (hx : p.tables.exec = Jvm.exec) (hZ : Z.Warmed39 s.vm) (eT : T.heap = h) (V : Arv Z h a kc ty z vs dv)
    {g : JFrame} (hg : g.method = m) {rest : List Value} (hs : g.stack = .ref a :: rest) (hd : decode c.code g.pc = .ok (.arraylength, 1)) (k : Goes p e below E T { g with pc := g.pc + 1, stack := .int z :: rest }) : Goes p e below E T g := by
  obtain ⟨cl, A, q1, S, q3, H, G⟩ := V
  exact Goes.of (fun t q => X.arraylength hx (by rw [eT]; exact A.1) (State.isArrayOf_alike hZ.alike A.2.1) hg hs hd t (by rw [len_of S q3]; exact q)) k
/-- a start fact out of a case's word -/
theorem fld_of_eq {args : Array Value} {t u : Term} {C n d : String} {a : Addr} {v : Value} (ev : t.eval args s none [] s = some (.ref a)) (hu : u.eval args s none [] s = some v) (h : (Jvm.Cond.eq (.field t C n d) u).value args s none s [] = some true) : Fld s s.heap a C n d v := by
  refine Fld.start ?_
  simp only [Jvm.Cond.value, fld_at ev, hu] at h
  cases hf : s.fieldOf? a C n d with
  | none => simp [hf] at h
  | some x => cases x <;> cases v <;> simp [hf] at h ⊢ <;> exact h
theorem sta_at {args : Array Value} {C n d : String} {v : Value} (ev : (Term.static C n d).eval args s none [] s = some v) (w1 : (Jvm.Cond.initialized C).before args s = true) (w2 : (Jvm.Cond.laysStatic C n d).before args s = true) : Sta s s.heap C n d v := Sta.start ev (Or.inr ⟨w1, w2⟩)
/-- an enum constant: the static, the object's class, its ordinal -/
def Con (Z : State) (C f : String) (d : String) (k : Int32) (a : Addr) : Prop := Sta Z Z.heap C f d (.ref a) ∧ Exa Z Z.heap a C ∧ Fld Z Z.heap a "java/lang/Enum" "ordinal" "I" (.int k)
theorem con_of {args : Array Value} {C f d : String} {k : Int32} (h1 : (Jvm.Cond.exactly (.static C f d) C).value args s none s [] = some true) (h2 : (Jvm.Cond.eq (.field (.static C f d) "java/lang/Enum" "ordinal" "I") (.int k)).value args s none s [] = some true)
    (w1 : (Jvm.Cond.initialized C).before args s = true) (w2 : (Jvm.Cond.laysStatic C f d).before args s = true) : ∃ a, Con s C f d k a ∧ (Term.static C f d).eval args s none [] s = some (.ref a) := by
  obtain ⟨a, ev⟩ := exa_v h1
  exact ⟨a, ⟨sta_at ev w1 w2, Exa.start ev h1, fld_of_eq ev (Term.int_eval k) h2⟩, ev⟩
theorem Con.ne {C f d C' f' d' : String} {k k' : Int32} {a b : Addr} (F : Con Z C f d k a) (G : Con Z C' f' d' k' b) (q : k ≠ k') : a ≠ b := Fld.ne F.2.2 G.2.2 (fun h => q (Value.int.inj h))
theorem mask31 (x : Int32) : (x &&& (2147483647 : Int32)).toInt = x.toInt % 2147483648 := c_mask x _ 31 (by decide) (by decide)
theorem div_pos (x y : Int32) {k : Int} (hx : ¬ x < 0) (hy : y.toInt = k) (h1 : y ≠ -1) : (x / y).toInt = x.toInt / k := (c_idiv x y k hy h1).1 (by rw [Int32.lt_iff_toInt_lt] at hx; have : (0 : Int32).toInt = 0 := rfl; omega)
theorem rem_pos {x y : Int32} {k : Int} (h : 0 ≤ x.toInt) (hy : y.toInt = k) : (x - (x / y) * y).toInt = x.toInt % k := by
  rw [irem_eq_mod]; exact (c_irem x y k hy).1 h
theorem rem31 (x y : Int32) {k : Int} (hy : y.toInt = k) : ((x &&& (2147483647 : Int32)) - ((x &&& (2147483647 : Int32)) / y) * y).toInt = (x.toInt % 2147483648) % k := by
  have e := mask31 x
  rw [rem_pos (by omega) hy, e]
def Cst (Z : State) (C f : String) (d : String) (a : Addr) : Prop := Sta Z Z.heap C f d (.ref a) ∧ Exa Z Z.heap a C
theorem cst_of {args : Array Value} {C f d : String} (h1 : (Jvm.Cond.exactly (.static C f d) C).value args s none s [] = some true)
    (w1 : (Jvm.Cond.initialized C).before args s = true) (w2 : (Jvm.Cond.laysStatic C f d).before args s = true) : ∃ a, Cst s C f d a ∧ (Term.static C f d).eval args s none [] s = some (.ref a) := by
  obtain ⟨a, ev⟩ := exa_v h1
  exact ⟨a, ⟨sta_at ev w1 w2, Exa.start ev h1⟩, ev⟩
theorem goClone {own ad : String} {index : Nat} {ty : FieldType} {a : Addr} {kc : ClassId} {z : Int32} {vs : List Value} {dv : Value} (W cap : Nat) (X : Stand p l e R s m args below meth c T locs cells slots) (hx : p.tables.exec = Jvm.exec) (hZ : Z.Warmed39 s.vm) (hown : s.vm.findClass own = some m.cls)
    (w1 : (Jvm.Cond.methodLink own index ⟨ad, "clone", "()Ljava/lang/Object;"⟩).before a0 Z = true) (w2 : (Jvm.Cond.sameMethod ad "java/lang/Object" "clone" "()Ljava/lang/Object;").before a0 Z = true) (w3 : (Jvm.Cond.native ⟨"java/lang/Object", "clone", "()Ljava/lang/Object;"⟩).before a0 Z = true)
    (w4 : (Jvm.Cond.instanceMethod ⟨"java/lang/Object", "clone", "()Ljava/lang/Object;"⟩).before a0 Z = true) (w5 : (Jvm.Cond.selects ad ⟨ad, "clone", "()Ljava/lang/Object;"⟩ ⟨"java/lang/Object", "clone", "()Ljava/lang/Object;"⟩).before a0 Z = true) (w6 : (Jvm.Cond.castable ad "java/lang/Cloneable").before a0 Z = true)
    (eT : T.heap = h) (V : Arv Z h a kc ty z vs dv) (Ex : Exa Z h a ad) {g : JFrame} (hg : g.method = m) (hsize : g.locals.size = c.maxLocals) {rest : List Value} (hst : g.stack = .ref a :: rest) (hd : decode c.code g.pc = .ok (.invokevirtual index, 3))
    (hf : 1 ≤ R.frames) (hW : 2 * g.monitorRoom + (rest.map fun v => v.category).sum ≤ W) (hl : W + 14 ≤ R.locals) (hcap : z.toNatClampNeg ≤ cap) (hc : cells + 1 ≤ R.cells) (hsl : slots + cap ≤ R.slots)
    (k : ∀ T' h' b, Stand p l e R s m args below meth c T' locs (cells + 1) (slots + cap) → T'.heap = h' → Ext h h' → h.size ≤ b → Arv Z h' b kc ty z vs dv → Exa Z h' b ad → Goes p e below E T' { g with pc := g.pc + 3, stack := .ref b :: rest }) : Goes p e below E T g := by
  obtain ⟨T', h', X', e', E', A', Ex', st⟩ := cloneH X hx hZ hown w1 w2 w3 w4 w5 w6 eT V.arh Ex hg hsize hst hd hf hW hl hcap hc hsl
  exact Goes.of st (k T' h' _ X' e' E' (Nat.le_refl _) A' Ex')
theorem nsRoot {O K : String} {n : Nat} (w : (Jvm.Cond.noSuperclass O).before a0 Z = true) (wk : (Jvm.Cond.instantiable K n).before a0 Z = true) (hn : O ≠ K) : NS Z O K := by
  obtain ⟨c, k, h1, h2, h3, -, -⟩ := Cond.noSuperclass_spec w
  obtain ⟨t, kt, g1, -⟩ := Cond.instantiable_spec wk
  have ne := ids_ne h1 g1 hn
  refine ⟨c, t, h1, g1, fun fuel => ?_⟩
  cases fuel with
  | zero => rfl
  | succ f => simp [Vm.isSubclassAux, ne, h2, h3]
theorem nsNo {C S K : String} {n : Nat} (w : (Jvm.Cond.superclass C S).before a0 Z = true) (wk : (Jvm.Cond.instantiable K n).before a0 Z = true) (q : NS Z C K) (hn : C ≠ K) : ∃ c t, Z.vm.findClass C = some c ∧ Z.vm.findClass K = some t ∧ Z.vm.assignable c t = false := by
  obtain ⟨c, t, h0, g0, n3⟩ := q
  obtain ⟨p, k, kp, h1, h2, h3, h4, h5, -, h7⟩ := Cond.superclass_spec h0 w
  obtain ⟨t', kt, g1, g2, g5, g7, -⟩ := Cond.instantiable_spec wk
  cases g0.symm.trans g1
  have g8 : kt.isInterface = false := by simp only [Bool.or_eq_false_iff] at g7; exact g7.1
  have ne := ids_ne h0 g0 hn
  refine ⟨c, t, h0, g0, ?_⟩
  show Z.vm.assignableAux (255 + 1) c t = false
  simp [Vm.assignableAux, ne, h2, g2, h5, g5, g8, Vm.isSubclass, n3]
/-- what is known of Integer's cache at the start -/
def IntC (Z : State) (ca : Addr) (cl : Cell) : Prop := Sta Z Z.heap "java/lang/Integer$IntegerCache" "high" "I" (.int 127) ∧ Sta Z Z.heap "java/lang/Integer$IntegerCache" "cache" "[Ljava/lang/Integer;" (.ref ca) ∧ Arr Z Z.heap ca cl (.object "java/lang/Integer") ∧ cl.slots.size = 256 ∧ ∀ j, j < 256 → ∃ b, cl.slots[j]? = some (.ref b) ∧ Exa Z Z.heap b "java/lang/Integer"
theorem ne_of_not {args : Array Value} {t : Term} {x : Int32} (ev : t.eval args s none [] s = some (.int x)) (h : (Jvm.Cond.not (.eq t (.int 0))).before args s = true) : ¬ x = 0 := by
  intro q
  subst q
  have e := Cond.before_iff.mp h
  simp [Jvm.Cond.value, ev, Term.eval] at e
end Own1
end Jvm.Own
namespace Jvm.Own
open Jvm Sem ClassFile Op Lib Jvm.Stand Jvm.Free Jvm.LawKit Jvm.RoadKit
/-- the end of a walk that may have interned -/
def EndW (Z s : State) (EL : List (String × Nat)) (Q : Option Value → Heap → List Loc → Prop) (K N : Nat) (o : Outcome) (U : State) : Prop :=
  ∃ v L, o = .returned v ∧ Q v U.heap L ∧ CHr Z EL s.vm s.heap U.vm U.heap ∧ ReturnedEndW s o U L K N
/-- the contract of a body that may intern, the read constants held -/
def RmH (l : Launch) (y : MethodName) (bytes : ByteArray) (maxL : Nat) (ret : Option FieldType) (rm : Room) (ws : List Jvm.Cond) (Z : State) (EL : List (String × Nat)) (as' : Array Value) (h : Heap) (Q : Option Value → Heap → List Loc → Prop) : Prop :=
  MetFree l y (head1 (Jvm.Cond.code y bytes maxL ret :: ws) rm) (fun a U => a = as' ∧ Z.Warmed39 U.vm ∧ U.heap = h ∧ CHv Z EL U.vm h) (fun _ _ _ _ _ => True) (fun _ U o U' => ∃ v L, o = .returned v ∧ Q v U'.heap L ∧ CHr Z EL U.vm U.heap U'.vm U'.heap ∧ ReturnedEndW U o U' L rm.cells rm.slots)
section Own2
variable {p : Program} {l : Launch} {e : Env} {R : Room} {s : State} {m : MethodId} {args : Array Value} {below : List Frame} {meth : Method} {c : Code} {T : State} {locs : List Loc} {cells slots : Nat} {Z : State} {a0 : Array Value} {h : Heap} {E : Outcome → State → Prop} {vm0 : Vm} {k0 : Nat} {EL : List (String × Nat)} {v00 : Vm} {h00 : Heap}
theorem RmH.of {ws : List Jvm.Cond} {y : MethodName} {bytes : ByteArray} {maxL : Nat} {ret : Option FieldType} {rm : Room} {as' : Array Value} {h : Heap} {Q : Option Value → Heap → List Loc → Prop} (hp : plainFor y = true)
    (body : ∀ (p : Program) (e : Env) (s : State) (m : MethodId) (below : List Frame) (meth : Method) (c : Code) (T : State), Stand p l e rm (s.setVm s.vm) m as' below meth c T [] 0 0 → p.tables.exec = Jvm.exec → Z.Warmed39 s.vm → c.code = bytes → c.maxLocals = maxL → s.vm.findClass y.cls = some m.cls → meth.name = y.name → meth.sig.returnType = ret → meth.locks = false → T.heap = h → s.Since s.vm 0 → 0 ≤ h.size → CHr Z EL s.vm s.heap s.vm h →
      Goes p e below (EndW Z s EL Q rm.cells rm.slots) T (entryFrame m as' maxL)) : RmH l y bytes maxL ret rm ws Z EL as' h Q := by
  refine MetFree.of_bodySF hp hisR ?_
  intro p e s m args below meth c s₁ Bd hml0 hP hK
  obtain ⟨rfl, hZ, hh, hC⟩ := hP
  exact body p e s m below meth c s₁ (Stand.of_body Bd) Bd.exec hZ Bd.bytes hml0 (findClass_of_methodNamed Bd.named) (name_of_methodNamed Bd.named Bd.method).1 Bd.returns Bd.notSynchronized (by rw [← hh, Bd.state]; rfl) ((State.WarmedH.refl s).since 0) (Nat.zero_le _) (by rw [hh]; exact CHr.refl hC)
theorem goRetW {Q : Option Value → Heap → List Loc → Prop} {K N : Nat} {g : JFrame} {v : Option Value} (X : Stand p l e R (s.setVm vm0) m args below meth c T locs cells slots) (hS : s.Since vm0 k0) (hk : k0 ≤ h.size) (hZ : Z.Warmed39 vm0) (hEL : EW Z a0 EL) (H : CHr Z EL s.vm s.heap vm0 h) (hv : meth.sig.returnType = none → v = none) (hlocks : meth.locks = false) (eT : T.heap = h) (hQ : Q v h locs) (hK : cells ≤ K) (hN : slots ≤ N)
    (st : ∀ fs, (∀ (f : JFrame) (acts : List Action), f.method = m → f.locked = none → f.entered = [] → (doReturn e (T.setTop f) acts v).1 = T.setFrames fs) → Steps p.tables e below (T.setTop g) (T.setFrames fs)) : Goes p e below (EndW Z s EL Q K N) T g := by
  obtain ⟨fs, hr, hrun, hended, hW⟩ := X.leaveW hS (by rw [eT]; exact hk) (v := v) hv hlocks
  subst eT
  have hH := H.trans (CHv.at X hZ hEL H.1)
  exact ⟨_, _, st fs hr, hrun, hended, _, _, rfl, hQ, hH, hW.1, hW.2.1, hW.2.2.1, hW.2.2.2.mono hK hN⟩
theorem retZW {Q : Option Value → Heap → List Loc → Prop} {K N pc : Nat} {Ls : Array Slot} {z : Int32} {t : FieldType} {rest : List Value} (X : Stand p l e R (s.setVm vm0) m args below meth c T locs cells slots) (hS : s.Since vm0 k0) (hk : k0 ≤ h.size) (hZ : Z.Warmed39 vm0) (hEL : EW Z a0 EL) (H : CHr Z EL s.vm s.heap vm0 h) (hx : p.tables.exec = Jvm.exec) (hret : meth.sig.returnType = some t) (hlocks : meth.locks = false) (ht : t = .boolean ∨ t = .byte ∨ t = .char ∨ t = .short)
    (hd : decode c.code pc = .ok (.ireturn, 1)) (eT : T.heap = h) (hK : cells ≤ K) (hN : slots ≤ N) (hQ : Q (some (.int (nar t z))) h locs) : Goes p e below (EndW Z s EL Q K N) T (mkF m pc Ls (.int z :: rest)) :=
  goRetW X hS hk hZ hEL H (fun q => by rw [hret] at q; cases q) hlocks eT hQ hK hN fun fs hr => retN X hx hret ht hd hr
theorem retRefW {Q : Option Value → Heap → List Loc → Prop} {K N pc : Nat} {Ls : Array Slot} {z : Value} {t : FieldType} {rest : List Value} (X : Stand p l e R (s.setVm vm0) m args below meth c T locs cells slots) (hS : s.Since vm0 k0) (hk : k0 ≤ h.size) (hZ : Z.Warmed39 vm0) (hEL : EW Z a0 EL) (H : CHr Z EL s.vm s.heap vm0 h) (hx : p.tables.exec = Jvm.exec) (hret : meth.sig.returnType = some t) (hlocks : meth.locks = false) (ht : t.isReference = true) (hz : z.isRef = true)
    (hd : decode c.code pc = .ok (.areturn, 1)) (eT : T.heap = h) (hK : cells ≤ K) (hN : slots ≤ N) (hQ : Q (some z) h locs) : Goes p e below (EndW Z s EL Q K N) T (mkF m pc Ls (z :: rest)) :=
  goRetW X hS hk hZ hEL H (fun q => by rw [hret] at q; cases q) hlocks eT hQ hK hN fun fs hr => by
    have hm' : T.vm.method? m = some meth := X.method'
    show Steps p.tables e below (T.setTop { method := m, pc := pc, locals := Ls, stack := _ :: rest, locked := none }) _
    rcases ref_cases hz with rfl | ⟨_, rfl⟩
    all_goals
      jvm_step X.here [X.here.top, hx, hd, hm', hret, ht, Value.isRef]
      first | (intro acts; rw [hr _ acts rfl rfl rfl]) | rw [hr _ _ rfl rfl rfl]
      exact Steps.refl _
theorem retIntW {Q : Option Value → Heap → List Loc → Prop} {K N pc : Nat} {Ls : Array Slot} {z : Int32} {rest : List Value} (X : Stand p l e R (s.setVm vm0) m args below meth c T locs cells slots) (hS : s.Since vm0 k0) (hk : k0 ≤ h.size) (hZ : Z.Warmed39 vm0) (hEL : EW Z a0 EL) (H : CHr Z EL s.vm s.heap vm0 h) (hx : p.tables.exec = Jvm.exec) (hret : meth.sig.returnType = some .int) (hlocks : meth.locks = false)
    (hd : decode c.code pc = .ok (.ireturn, 1)) (eT : T.heap = h) (hK : cells ≤ K) (hN : slots ≤ N) (hQ : Q (some (.int z)) h locs) : Goes p e below (EndW Z s EL Q K N) T (mkF m pc Ls (.int z :: rest)) :=
  goRetW X hS hk hZ hEL H (fun q => by rw [hret] at q; cases q) hlocks eT hQ hK hN fun fs hr => by
    have hm' : T.vm.method? m = some meth := X.method'
    have hn : narrow .int (.int z) = .int z := rfl
    show Steps p.tables e below (T.setTop { method := m, pc := pc, locals := Ls, stack := _ :: rest, locked := none }) _
    jvm_step X.here [X.here.top, hx, hd, hm', hret, hn]
    first | (intro acts; rw [hr _ acts rfl rfl rfl]) | rw [hr _ _ rfl rfl rfl]
    exact Steps.refl _
theorem retVoidW {Q : Option Value → Heap → List Loc → Prop} {K N pc : Nat} {Ls : Array Slot} {rest : List Value} (X : Stand p l e R (s.setVm vm0) m args below meth c T locs cells slots) (hS : s.Since vm0 k0) (hk : k0 ≤ h.size) (hZ : Z.Warmed39 vm0) (hEL : EW Z a0 EL) (H : CHr Z EL s.vm s.heap vm0 h) (hx : p.tables.exec = Jvm.exec) (hret : meth.sig.returnType = none) (hlocks : meth.locks = false)
    (hd : decode c.code pc = .ok (.return_, 1)) (eT : T.heap = h) (hK : cells ≤ K) (hN : slots ≤ N) (hQ : Q none h locs) : Goes p e below (EndW Z s EL Q K N) T (mkF m pc Ls rest) :=
  goRetW X hS hk hZ hEL H (fun _ => rfl) hlocks eT hQ hK hN fun fs hr => by
    have hm' : T.vm.method? m = some meth := X.method'
    show Steps p.tables e below (T.setTop { method := m, pc := pc, locals := Ls, stack := rest, locked := none }) _
    jvm_step X.here [X.here.top, hx, hd, hm', hret]
    first | (intro acts; rw [hr _ acts rfl rfl rfl]) | rw [hr _ _ rfl rfl rfl]
    exact Steps.refl _
theorem goStaticW {own : String} {index : Nat} {y : MethodName} {bytes : ByteArray} {maxL : Nat} {ret : Option FieldType} {rm : Room} {as' : Array Value} {Q : Option Value → Heap → List Loc → Prop} (W : Nat)
    (X : Stand p l e R (s.setVm vm0) m args below meth c T locs cells slots) (hS : s.Since vm0 k0) (hk : k0 ≤ h.size) (hEL : EW Z a0 EL) (H : CHr Z EL v00 h00 vm0 h) (hx : p.tables.exec = Jvm.exec) (hZ : Z.Warmed39 vm0) (hown : vm0.findClass own = some m.cls) (w1 : (Jvm.Cond.methodLink own index y).before a0 Z = true) (w2 : (Jvm.Cond.static y).before a0 Z = true) (w3 : (Jvm.Cond.initialized y.cls).before a0 Z = true) (w4 : (Jvm.Cond.code y bytes maxL ret).before a0 Z = true)
    (hy : y.cls ≠ "java/lang/invoke/MethodHandle" ∧ y.cls ≠ "java/lang/invoke/VarHandle") (r : RmH l y bytes maxL ret rm [] Z EL as' h Q) (eT : T.heap = h) {g : JFrame} (hg : g.method = m) (hsize : g.locals.size = c.maxLocals) (argsL rest : List Value) (hlen : ∀ sig, parseMethodDescriptor y.desc = some sig → argsL.length = sig.parameters.length)
    (hstack : g.stack = argsL.reverse ++ rest) (has : argsL.toArray = as') (hW : 2 * g.monitorRoom + (rest.map fun v => v.category).sum ≤ W) (hd : decode c.code g.pc = .ok (.invokestatic index, 3)) (hf : rm.frames + 1 ≤ R.frames) (hl : W + (maxL + 11) + rm.locals ≤ R.locals) (hc : cells + rm.cells ≤ R.cells) (hs : slots + rm.slots ≤ R.slots)
    (k : ∀ v T' L k1, Stand p l e R (s.setVm T'.vm) m args below meth c T' (locs ++ L) (cells + rm.cells) (slots + rm.slots) → s.Since T'.vm k1 → k1 ≤ T'.heap.size → Z.Warmed39 T'.vm → T'.vm.findClass own = some m.cls → CHr Z EL v00 h00 T'.vm T'.heap → Q v T'.heap L → Goes p e below E T' { g with pc := g.pc + 3, stack := v.toList ++ rest }) : Goes p e below E T g := by
  obtain ⟨v, vm₁, ⟨T', L', k', n'⟩, -, X', hS', hgr, ⟨L, hQ, q1, q2, q3, hC⟩, st⟩ := callSS X hx (y := y) hown (mvT (s := s.setVm vm0) hZ w1) (mvT (s := s.setVm vm0) hZ w2) (mvT (s := s.setVm vm0) hZ w3) (mvT (s := s.setVm vm0) hZ w4) hy (backOfSH (W := W) r hZ w4 w3 hf hl hEL H.1) hg hsize hlen hstack hW hd (fun _ _ => ⟨has, eT, hc, hs⟩)
  dsimp only [Pt.U, Pt.locs, Pt.cells, Pt.slots] at X' q1 q2 q3 st hQ hS' hgr hC
  subst q1 q2 q3
  exact Goes.of (fun _ => st.trans) (k v T' L _ X' (hS.trans hS' (Nat.le_trans hk (eT ▸ hgr))) (Nat.le_refl _) (State.Warmed39.trans (t := s.setVm vm0) hZ hS'.1) (by rw [hS'.1.alike.findClass]; exact hown) (H.trans hC) hQ)
theorem goSpecialW {own : String} {index : Nat} {y : MethodName} {bytes : ByteArray} {maxL : Nat} {rm : Room} {as' : Array Value} {Q : Option Value → Heap → List Loc → Prop} (W : Nat)
    (X : Stand p l e R (s.setVm vm0) m args below meth c T locs cells slots) (hS : s.Since vm0 k0) (hk : k0 ≤ h.size) (hEL : EW Z a0 EL) (H : CHr Z EL v00 h00 vm0 h) (hx : p.tables.exec = Jvm.exec) (hZ : Z.Warmed39 vm0) (hy1 : y.name = "<init>") (hown : vm0.findClass own = some m.cls) (w1 : (Jvm.Cond.methodLink own index y).before a0 Z = true) (w2 : (Jvm.Cond.instanceMethod y).before a0 Z = true) (w3 : (Jvm.Cond.initialized y.cls).before a0 Z = true) (w4 : (Jvm.Cond.code y bytes maxL none).before a0 Z = true)
    (hy : y.cls ≠ "java/lang/invoke/MethodHandle" ∧ y.cls ≠ "java/lang/invoke/VarHandle") (r : RmH l y bytes maxL none rm [] Z EL as' h Q) (eT : T.heap = h) {g : JFrame} (hg : g.method = m) (hsize : g.locals.size = c.maxLocals) (a : Addr) (argsL rest : List Value) (hlen : ∀ sig, parseMethodDescriptor y.desc = some sig → argsL.length = sig.parameters.length)
    (hstack : g.stack = argsL.reverse ++ .ref a :: rest) (has : (.ref a :: argsL).toArray = as') (hW : 2 * g.monitorRoom + (rest.map fun v => v.category).sum ≤ W) (hd : decode c.code g.pc = .ok (.invokespecial index, 3)) (hf : rm.frames + 1 ≤ R.frames) (hl : W + (maxL + 11) + rm.locals ≤ R.locals) (hc : cells + rm.cells ≤ R.cells) (hs : slots + rm.slots ≤ R.slots)
    (k : ∀ v T' L k1, Stand p l e R (s.setVm T'.vm) m args below meth c T' (locs ++ L) (cells + rm.cells) (slots + rm.slots) → s.Since T'.vm k1 → k1 ≤ T'.heap.size → Z.Warmed39 T'.vm → T'.vm.findClass own = some m.cls → CHr Z EL v00 h00 T'.vm T'.heap → Q v T'.heap L → Goes p e below E T' { g with pc := g.pc + 3, stack := v.toList ++ rest }) : Goes p e below E T g := by
  obtain ⟨v, vm₁, ⟨T', L', k', n'⟩, -, X', hS', hgr, ⟨L, hQ, q1, q2, q3, hC⟩, st⟩ := X.specialBackS hx (y := y) hy1 hown (mvT (s := s.setVm vm0) hZ w1) (mvT (s := s.setVm vm0) hZ w2) (mvT (s := s.setVm vm0) hZ w4) hy (backOfSH (W := W) r hZ w4 w3 hf hl hEL H.1) hg hsize (Steps.refl _) (a := a) hlen hstack hW hd (fun _ _ => ⟨has, eT, hc, hs⟩)
  dsimp only [Pt.U, Pt.locs, Pt.cells, Pt.slots] at X' q1 q2 q3 st hQ hS' hgr hC
  subst q1 q2 q3
  exact Goes.of (fun _ => st.trans) (k v T' L _ X' (hS.trans hS' (Nat.le_trans hk (eT ▸ hgr))) (Nat.le_refl _) (State.Warmed39.trans (t := s.setVm vm0) hZ hS'.1) (by rw [hS'.1.alike.findClass]; exact hown) (H.trans hC) hQ)
theorem goVirtualW {own C : String} {index : Nat} {y z : MethodName} {bytes : ByteArray} {maxL : Nat} {ret : Option FieldType} {rm : Room} {as' : Array Value} {Q : Option Value → Heap → List Loc → Prop} (W : Nat)
    (X : Stand p l e R (s.setVm vm0) m args below meth c T locs cells slots) (hS : s.Since vm0 k0) (hk : k0 ≤ h.size) (hEL : EW Z a0 EL) (H : CHr Z EL v00 h00 vm0 h) (hx : p.tables.exec = Jvm.exec) (hZ : Z.Warmed39 vm0) (hown : vm0.findClass own = some m.cls) (w1 : (Jvm.Cond.methodLink own index y).before a0 Z = true) (w2 : (Jvm.Cond.declares y).before a0 Z = true) (hnf : NotFace (s.setVm vm0) y) (w3 : (Jvm.Cond.selects C y z).before a0 Z = true) (w4 : (Jvm.Cond.instanceMethod z).before a0 Z = true) (w5 : (Jvm.Cond.initialized z.cls).before a0 Z = true) (w6 : (Jvm.Cond.code z bytes maxL ret).before a0 Z = true)
    (hy : y.cls ≠ "java/lang/invoke/MethodHandle" ∧ y.cls ≠ "java/lang/invoke/VarHandle") (r : RmH l z bytes maxL ret rm [] Z EL as' h Q) (eT : T.heap = h) {a : Addr} (F : Exa Z h a C) {g : JFrame} (hg : g.method = m) (hsize : g.locals.size = c.maxLocals) (argsL rest : List Value) (hlen : ∀ sig, parseMethodDescriptor y.desc = some sig → argsL.length = sig.parameters.length)
    (hstack : g.stack = argsL.reverse ++ .ref a :: rest) (has : (.ref a :: argsL).toArray = as') (hW : 2 * g.monitorRoom + (rest.map fun v => v.category).sum ≤ W) (hd : decode c.code g.pc = .ok (.invokevirtual index, 3)) (hf : rm.frames + 1 ≤ R.frames) (hl : W + (maxL + 11) + rm.locals ≤ R.locals) (hc : cells + rm.cells ≤ R.cells) (hs : slots + rm.slots ≤ R.slots)
    (k : ∀ v T' L k1, Stand p l e R (s.setVm T'.vm) m args below meth c T' (locs ++ L) (cells + rm.cells) (slots + rm.slots) → s.Since T'.vm k1 → k1 ≤ T'.heap.size → Z.Warmed39 T'.vm → T'.vm.findClass own = some m.cls → CHr Z EL v00 h00 T'.vm T'.heap → Q v T'.heap L → Goes p e below E T' { g with pc := g.pc + 3, stack := v.toList ++ rest }) : Goes p e below E T g := by
  obtain ⟨cq, kq, qa, qb, qc⟩ := isOf (s := s.setVm vm0) hZ eT F
  obtain ⟨v, vm₁, ⟨T', L', k', n'⟩, -, X', hS', hgr, ⟨L, hQ, q1, q2, q3, hC⟩, st⟩ := X.virtualBackS hx (y := y) (z := z) hown (mvT (s := s.setVm vm0) hZ w1) (mvT (s := s.setVm vm0) hZ w2) hnf (mvT (s := s.setVm vm0) hZ w3) (mvT (s := s.setVm vm0) hZ w4) hy (backOfSH (W := W) r hZ w6 w5 hf hl hEL H.1) qa qc hg hsize (Steps.refl _) hlen hstack hW hd (fun _ _ => ⟨has, eT, hc, hs⟩)
  dsimp only [Pt.U, Pt.locs, Pt.cells, Pt.slots] at X' q1 q2 q3 st hQ hS' hgr hC
  subst q1 q2 q3
  exact Goes.of (fun _ => st.trans) (k v T' L _ X' (hS.trans hS' (Nat.le_trans hk (eT ▸ hgr))) (Nat.le_refl _) (State.Warmed39.trans (t := s.setVm vm0) hZ hS'.1) (by rw [hS'.1.alike.findClass]; exact hown) (H.trans hC) hQ)
/-- a literal, its text not read -/
theorem goLdcO {own text : String} {index : Nat} (n : Nat) (X : Stand p l e R (s.setVm vm0) m args below meth c T locs cells slots) (hS : s.Since vm0 k0) (hk : k0 ≤ h.size) (hEL : EW Z a0 EL) (H : CHr Z EL v00 h00 vm0 h) (hx : p.tables.exec = Jvm.exec) (hZ : Z.Warmed39 vm0) (hown : vm0.findClass own = some m.cls) (w : (Jvm.Cond.stringLink own index text).before a0 Z = true) (wS : ∀ a ∈ Bundle.stringAtoms, a.before a0 Z = true) (eT : T.heap = h)
    {g : JFrame} (hg : g.method = m) (hd : decode c.code g.pc = .ok (.ldc index, 2)) (hn : 4 * text.toList.length ≤ n) (hbig : n ≤ 536870912) (hc : cells + 2 ≤ R.cells) (hl : slots + (n + 4) ≤ R.slots)
    (k : ∀ a T' h' k1, Stand p l e R (s.setVm T'.vm) m args below meth c T' locs (cells + 2) (slots + (n + 4)) → T'.heap = h' → Ext h h' → s.Since T'.vm k1 → k1 ≤ h'.size → Z.Warmed39 T'.vm → T'.vm.findClass own = some m.cls → CHr Z EL v00 h00 T'.vm h' → Goes p e below E T' { g with pc := g.pc + 2, stack := .ref a :: g.stack }) : Goes p e below E T g := by
  obtain ⟨a, T', h', k1, X', e', E', hS', hk', hZ', hown', hC, -, st⟩ := ldcOH X hx hZ hown w wS eT hS hk hEL H.1 hg hd hn hbig hc hl
  exact Goes.of st (k a T' h' k1 X' e' E' hS' hk' hZ' hown' (H.trans hC))
/-- a literal whose text is read -/
theorem goLdcC {own text : String} {index : Nat} {vs : List Value} {z : Int32} (n : Nat) (X : Stand p l e R (s.setVm vm0) m args below meth c T locs cells slots) (hS : s.Since vm0 k0) (hk : k0 ≤ h.size) (hEL : EW Z a0 EL) (hmem : (own, index) ∈ EL) (H : CHr Z EL v00 h00 vm0 h) (hx : p.tables.exec = Jvm.exec) (hZ : Z.Warmed39 vm0) (hown : vm0.findClass own = some m.cls) (w : (Jvm.Cond.stringLink own index text).before a0 Z = true) (wS : ∀ a ∈ Bundle.stringAtoms, a.before a0 Z = true) (eT : T.heap = h)
    (ht : (∀ c ∈ text.toList, c.toNat < 256) ∧ text.toList.map (fun c => Value.int (Jvm.Lit.byteI c.toNat.toUInt16)) = vs) (hz : ¬ z < 0) (hzl : z.toNatClampNeg = vs.length)
    {g : JFrame} (hg : g.method = m) (hd : decode c.code g.pc = .ok (.ldc index, 2)) (hn : 4 * text.toList.length ≤ n) (hbig : n ≤ 536870912) (hc : cells + 2 ≤ R.cells) (hl : slots + (n + 4) ≤ R.slots)
    (k : ∀ a T' h' k1 b kb, Stand p l e R (s.setVm T'.vm) m args below meth c T' locs (cells + 2) (slots + (n + 4)) → T'.heap = h' → Ext h h' → s.Since T'.vm k1 → k1 ≤ h'.size → Z.Warmed39 T'.vm → T'.vm.findClass own = some m.cls → CHr Z EL v00 h00 T'.vm h' → CHr Z EL vm0 h T'.vm h' → Exa Z h' a "java/lang/String" → Fld Z h' a "java/lang/String" "coder" "B" (.int 0) → Fld Z h' a "java/lang/String" "value" "[B" (.ref b) → Arv Z h' b kb .byte z vs (.int 0) → (∀ x, Safe Z EL T'.vm h' x → x ≠ a ∧ x ≠ b) → Goes p e below E T' { g with pc := g.pc + 2, stack := .ref a :: g.stack }) : Goes p e below E T g := by
  obtain ⟨a, T', h', k1, b, kb, X', e', E', hS', hk', hZ', hown', F1, F2, F3, F4, -, -, hC, -, hs, st⟩ := ldcCH X hx hZ hown w wS eT hS hk hEL hmem H.1 ht hz hzl hg hd hn hbig hc hl
  exact Goes.of st (k a T' h' k1 b kb X' e' E' hS' hk' hZ' hown' (H.trans hC) hC F1 F2 F3 F4 hs)
/-- a String whose value is null is no constant's -/
theorem safeNull {vm : Vm} {x : Addr} (hal : Z.vm.Alike vm) (Ex : Exa Z h x "java/lang/String") (F : Fld Z h x "java/lang/String" "value" "[B" .null) : Safe Z EL vm h x := fun B => by
  obtain ⟨q0, -, u, b, -, q, -, G, rfl | rfl⟩ := B
  · obtain ⟨cell, cf, k, i, f, h1, h2, -, -, -, -, h7⟩ := F
    cases (show h[q.sa]? = some q.sC from G.ha).symm.trans h1
    obtain ⟨cS, ⟨⟨-, -, -, ⟨c1, k1, i1, f1, -⟩, -, -, -, v1, -⟩, -⟩, -⟩ := G
    obtain ⟨k3, e3, -⟩ := State.fieldFound?_setVm (s := ({ Z with heap := h } : State)) hal h2
    have e4 := e3.symm.trans f1
    simp only [Option.some.injEq, Prod.mk.injEq] at e4
    rw [e4.2.2.2, v1] at h7
    cases h7
  · obtain ⟨cell, k, e1, e2, e3, -, -⟩ := Ex
    cases (show h[q.sd]? = some q.SA from G.hd).symm.trans e1
    obtain ⟨cS, -, -, f, -⟩ := G
    rw [show (Wst Z vm h).vm.findClass "[B" = vm.findClass "[B" from rfl, hal.findClass] at f
    obtain ⟨k1, q1, q2⟩ := Vm.findClass_spec f
    obtain ⟨k2, q3, q4⟩ := Vm.findClass_spec e2
    cases q1.symm.trans q3
    exact absurd (q2.symm.trans q4) (by decide)
end Own2
end Jvm.Own
namespace Jvm.Own
open Jvm Sem ClassFile Op Lib Jvm.Stand Jvm.Free Jvm.LawKit Jvm.RoadKit
/-- the contract of a body that may intern and beneath which a stack trace is filled in -/
def RmK (l : Launch) (y : MethodName) (bytes : ByteArray) (maxL : Nat) (ret : Option FieldType) (rm : Room) (ws : List Jvm.Cond) (Z : State) (EL : List (String × Nat)) (as' : Array Value) (h : Heap) (Q : Option Value → Heap → List Loc → Prop) : Prop :=
  MetFree l y (head1 (Jvm.Cond.code y bytes maxL ret :: ws) rm) (fun a U => a = as' ∧ Z.Warmed39 U.vm ∧ U.heap = h ∧ CHv Z EL U.vm h) (fun _ _ bl s _ => s.vm.MethodsKnown ∧ s.vm.FramesKnown bl) (fun _ U o U' => ∃ v L, o = .returned v ∧ Q v U'.heap L ∧ CHr Z EL U.vm U.heap U'.vm U'.heap ∧ ReturnedEndW U o U' L rm.cells rm.slots)
section Own3
variable {p : Program} {l : Launch} {e : Env} {R : Room} {s : State} {m : MethodId} {args : Array Value} {below : List Frame} {meth : Method} {c : Code} {T : State} {locs : List Loc} {cells slots : Nat} {Z : State} {a0 : Array Value} {h : Heap} {E : Outcome → State → Prop} {vm0 : Vm} {k0 : Nat} {EL : List (String × Nat)} {v00 : Vm} {h00 : Heap}
theorem RmK.of {ws : List Jvm.Cond} {y : MethodName} {bytes : ByteArray} {maxL : Nat} {ret : Option FieldType} {rm : Room} {as' : Array Value} {h : Heap} {Q : Option Value → Heap → List Loc → Prop} (hp : plainFor y = true)
    (body : ∀ (p : Program) (e : Env) (s : State) (m : MethodId) (below : List Frame) (meth : Method) (c : Code) (T : State), Stand p l e rm (s.setVm s.vm) m as' below meth c T [] 0 0 → p.tables.exec = Jvm.exec → Z.Warmed39 s.vm → c.code = bytes → c.maxLocals = maxL → s.vm.findClass y.cls = some m.cls → meth.name = y.name → meth.sig.returnType = ret → meth.locks = false → T.heap = h → s.Since s.vm 0 → 0 ≤ h.size → CHr Z EL s.vm s.heap s.vm h → s.heap = h → Z.vm.MethodsKnown → Z.vm.FramesKnown below →
      Goes p e below (EndW Z s EL Q rm.cells rm.slots) T (entryFrame m as' maxL)) : RmK l y bytes maxL ret rm ws Z EL as' h Q := by
  refine MetFree.of_bodySF hp hisR ?_
  intro p e s m args below meth c s₁ Bd hml0 hP hK
  obtain ⟨rfl, hZ, hh, hC⟩ := hP
  exact body p e s m below meth c s₁ (Stand.of_body Bd) Bd.exec hZ Bd.bytes hml0 (findClass_of_methodNamed Bd.named) (name_of_methodNamed Bd.named Bd.method).1 Bd.returns Bd.notSynchronized (by rw [← hh, Bd.state]; rfl) ((State.WarmedH.refl s).since 0) (Nat.zero_le _) (by rw [hh]; exact CHr.refl hC) hh (Vm.MethodsKnown.alikeC hZ.alike.symm hK.1) (Vm.FramesKnown.alikeC hZ.alike.symm hK.2)
theorem goStaticK {own : String} {index : Nat} {y : MethodName} {bytes : ByteArray} {maxL : Nat} {ret : Option FieldType} {rm : Room} {as' : Array Value} {Q : Option Value → Heap → List Loc → Prop} (W : Nat)
    (X : Stand p l e R (s.setVm vm0) m args below meth c T locs cells slots) (hS : s.Since vm0 k0) (hk : k0 ≤ h.size) (hEL : EW Z a0 EL) (H : CHr Z EL v00 h00 vm0 h) (hx : p.tables.exec = Jvm.exec) (hZ : Z.Warmed39 vm0) (hown : vm0.findClass own = some m.cls) (w1 : (Jvm.Cond.methodLink own index y).before a0 Z = true) (w2 : (Jvm.Cond.static y).before a0 Z = true) (w3 : (Jvm.Cond.initialized y.cls).before a0 Z = true) (w4 : (Jvm.Cond.code y bytes maxL ret).before a0 Z = true)
    (hy : y.cls ≠ "java/lang/invoke/MethodHandle" ∧ y.cls ≠ "java/lang/invoke/VarHandle") (hTK : Z.vm.MethodsKnown) (hBl : Z.vm.FramesKnown below) (r : RmK l y bytes maxL ret rm [] Z EL as' h Q) (eT : T.heap = h) {g : JFrame} (hg : g.method = m) (hsize : g.locals.size = c.maxLocals) (argsL rest : List Value) (hlen : ∀ sig, parseMethodDescriptor y.desc = some sig → argsL.length = sig.parameters.length)
    (hstack : g.stack = argsL.reverse ++ rest) (has : argsL.toArray = as') (hW : 2 * g.monitorRoom + (rest.map fun v => v.category).sum ≤ W) (hd : decode c.code g.pc = .ok (.invokestatic index, 3)) (hf : rm.frames + 1 ≤ R.frames) (hl : W + (maxL + 11) + rm.locals ≤ R.locals) (hc : cells + rm.cells ≤ R.cells) (hs : slots + rm.slots ≤ R.slots)
    (k : ∀ v T' L k1, Stand p l e R (s.setVm T'.vm) m args below meth c T' (locs ++ L) (cells + rm.cells) (slots + rm.slots) → s.Since T'.vm k1 → k1 ≤ T'.heap.size → Z.Warmed39 T'.vm → T'.vm.findClass own = some m.cls → CHr Z EL v00 h00 T'.vm T'.heap → Q v T'.heap L → Goes p e below E T' { g with pc := g.pc + 3, stack := v.toList ++ rest }) : Goes p e below E T g := by
  obtain ⟨v, vm₁, ⟨T', L', k', n'⟩, -, X', hS', hgr, ⟨L, hQ, q1, q2, q3, hC⟩, st⟩ := callSS X hx (y := y) hown (mvT (s := s.setVm vm0) hZ w1) (mvT (s := s.setVm vm0) hZ w2) (mvT (s := s.setVm vm0) hZ w3) (mvT (s := s.setVm vm0) hZ w4) hy (backOfSKH (W := W) r hZ w4 w3 hf hl hEL H.1 (Vm.MethodsKnown.alikeC hZ.alike hTK) (Vm.FramesKnown.alikeC hZ.alike hBl)) hg hsize hlen hstack hW hd (fun _ _ => ⟨has, eT, hc, hs⟩)
  dsimp only [Pt.U, Pt.locs, Pt.cells, Pt.slots] at X' q1 q2 q3 st hQ hS' hgr hC
  subst q1 q2 q3
  exact Goes.of (fun _ => st.trans) (k v T' L _ X' (hS.trans hS' (Nat.le_trans hk (eT ▸ hgr))) (Nat.le_refl _) (State.Warmed39.trans (t := s.setVm vm0) hZ hS'.1) (by rw [hS'.1.alike.findClass]; exact hown) (H.trans hC) hQ)
theorem goSpecialK {own : String} {index : Nat} {y : MethodName} {bytes : ByteArray} {maxL : Nat} {rm : Room} {as' : Array Value} {Q : Option Value → Heap → List Loc → Prop} (W : Nat)
    (X : Stand p l e R (s.setVm vm0) m args below meth c T locs cells slots) (hS : s.Since vm0 k0) (hk : k0 ≤ h.size) (hEL : EW Z a0 EL) (H : CHr Z EL v00 h00 vm0 h) (hx : p.tables.exec = Jvm.exec) (hZ : Z.Warmed39 vm0) (hy1 : y.name = "<init>") (hown : vm0.findClass own = some m.cls) (w1 : (Jvm.Cond.methodLink own index y).before a0 Z = true) (w2 : (Jvm.Cond.instanceMethod y).before a0 Z = true) (w3 : (Jvm.Cond.initialized y.cls).before a0 Z = true) (w4 : (Jvm.Cond.code y bytes maxL none).before a0 Z = true)
    (hy : y.cls ≠ "java/lang/invoke/MethodHandle" ∧ y.cls ≠ "java/lang/invoke/VarHandle") (hTK : Z.vm.MethodsKnown) (hBl : Z.vm.FramesKnown below) (r : RmK l y bytes maxL none rm [] Z EL as' h Q) (eT : T.heap = h) {g : JFrame} (hg : g.method = m) (hsize : g.locals.size = c.maxLocals) (a : Addr) (argsL rest : List Value) (hlen : ∀ sig, parseMethodDescriptor y.desc = some sig → argsL.length = sig.parameters.length)
    (hstack : g.stack = argsL.reverse ++ .ref a :: rest) (has : (.ref a :: argsL).toArray = as') (hW : 2 * g.monitorRoom + (rest.map fun v => v.category).sum ≤ W) (hd : decode c.code g.pc = .ok (.invokespecial index, 3)) (hf : rm.frames + 1 ≤ R.frames) (hl : W + (maxL + 11) + rm.locals ≤ R.locals) (hc : cells + rm.cells ≤ R.cells) (hs : slots + rm.slots ≤ R.slots)
    (k : ∀ v T' L k1, Stand p l e R (s.setVm T'.vm) m args below meth c T' (locs ++ L) (cells + rm.cells) (slots + rm.slots) → s.Since T'.vm k1 → k1 ≤ T'.heap.size → Z.Warmed39 T'.vm → T'.vm.findClass own = some m.cls → CHr Z EL v00 h00 T'.vm T'.heap → Q v T'.heap L → Goes p e below E T' { g with pc := g.pc + 3, stack := v.toList ++ rest }) : Goes p e below E T g := by
  obtain ⟨v, vm₁, ⟨T', L', k', n'⟩, -, X', hS', hgr, ⟨L, hQ, q1, q2, q3, hC⟩, st⟩ := X.specialBackS hx (y := y) hy1 hown (mvT (s := s.setVm vm0) hZ w1) (mvT (s := s.setVm vm0) hZ w2) (mvT (s := s.setVm vm0) hZ w4) hy (backOfSKH (W := W) r hZ w4 w3 hf hl hEL H.1 (Vm.MethodsKnown.alikeC hZ.alike hTK) (Vm.FramesKnown.alikeC hZ.alike hBl)) hg hsize (Steps.refl _) (a := a) hlen hstack hW hd (fun _ _ => ⟨has, eT, hc, hs⟩)
  dsimp only [Pt.U, Pt.locs, Pt.cells, Pt.slots] at X' q1 q2 q3 st hQ hS' hgr hC
  subst q1 q2 q3
  exact Goes.of (fun _ => st.trans) (k v T' L _ X' (hS.trans hS' (Nat.le_trans hk (eT ▸ hgr))) (Nat.le_refl _) (State.Warmed39.trans (t := s.setVm vm0) hZ hS'.1) (by rw [hS'.1.alike.findClass]; exact hown) (H.trans hC) hQ)
theorem goNewU {own C : String} {index n : Nat} (X : Stand p l e R s m args below meth c T locs cells slots) (hx : p.tables.exec = Jvm.exec) (hZ : Z.Warmed39 s.vm) (hown : s.vm.findClass own = some m.cls) (w : (Jvm.Cond.classLink own index C).before a0 Z = true) (wi : (Jvm.Cond.instantiable C n).before a0 Z = true) (wz : (Jvm.Cond.initialized C).before a0 Z = true) (eT : T.heap = h)
    {g : JFrame} (hg : g.method = m) (hd : decode c.code g.pc = .ok (.new index, 3)) (hc : cells + 1 ≤ R.cells) (hl : slots + n ≤ R.slots)
    (k : ∀ T' h' b, Stand p l e R s m args below meth c T' locs (cells + 1) (slots + n) → T'.heap = h' → Ext h h' → h.size ≤ b → Exa Z h' b C → (∀ {O nm d : String} {ty : FieldType}, Laid Z a0 C O nm d → parseFieldDescriptor d = some ty → Fld Z h' b O nm d (defaultValue ty)) → Unt h' b → Goes p e below E T' { g with pc := g.pc + 3, stack := .ref b :: g.stack }) : Goes p e below E T g := by
  obtain ⟨T', h', X', e', E', A', D', U', st⟩ := newO X hx hZ hown w wi wz eT hg hd hc hl
  exact Goes.of st (k T' h' _ X' e' E' (Nat.le_refl _) A' D' U')
theorem goVirtualUp {own C owner : String} {index : Nat} {y z : MethodName} {bytes : ByteArray} {maxL : Nat} {ret : Option FieldType} {rm : Room} {as' : Array Value} {Q : Option Value → Heap → List Loc → Prop} (W : Nat)
    (X : Stand p l e R s m args below meth c T locs cells slots) (hx : p.tables.exec = Jvm.exec) (hZ : Z.Warmed39 s.vm) (hown : s.vm.findClass own = some m.cls) (w1 : (Jvm.Cond.methodLink own index y).before a0 Z = true) (ws : (Jvm.Cond.sameMethod y.cls owner y.name y.desc).before a0 Z = true) (w2 : (Jvm.Cond.declares ⟨owner, y.name, y.desc⟩).before a0 Z = true) (w3 : (Jvm.Cond.selects C y z).before a0 Z = true) (w4 : (Jvm.Cond.instanceMethod z).before a0 Z = true) (w5 : (Jvm.Cond.initialized z.cls).before a0 Z = true) (w6 : (Jvm.Cond.code z bytes maxL ret).before a0 Z = true)
    (hy : owner ≠ "java/lang/invoke/MethodHandle" ∧ owner ≠ "java/lang/invoke/VarHandle") (r : Rm l z bytes maxL ret rm [] Z as' h Q) (eT : T.heap = h) {a : Addr} (F : Exa Z h a C) {g : JFrame} (hg : g.method = m) (hsize : g.locals.size = c.maxLocals) (argsL rest : List Value) (hlen : ∀ sig, parseMethodDescriptor y.desc = some sig → argsL.length = sig.parameters.length)
    (hstack : g.stack = argsL.reverse ++ .ref a :: rest) (has : (.ref a :: argsL).toArray = as') (hW : 2 * g.monitorRoom + (rest.map fun v => v.category).sum ≤ W) (hd : decode c.code g.pc = .ok (.invokevirtual index, 3)) (hf : rm.frames + 1 ≤ R.frames) (hl : W + (maxL + 11) + rm.locals ≤ R.locals) (hc : cells + rm.cells ≤ R.cells) (hs : slots + rm.slots ≤ R.slots)
    (k : ∀ v T' L, Stand p l e R s m args below meth c T' (locs ++ L) (cells + rm.cells) (slots + rm.slots) → Q v T'.heap L → Goes p e below E T' { g with pc := g.pc + 3, stack := v.toList ++ rest }) : Goes p e below E T g := by
  obtain ⟨cq, kq, qa, qb, cellB, b1, b2, b3⟩ := isOf hZ eT F
  obtain ⟨r0, rr, hn, hrm, hstR, hsigR⟩ := Cond.declares_spec (mv (args := args) hZ w2)
  obtain ⟨cn, ck, r1, -, -, -, hfd, hn1⟩ := Cond.sameMethod_found (mv (args := args) hZ ws)
  cases hn.symm.trans hn1
  obtain ⟨mk, methM, hnamed, hmethM, -, habM⟩ := Cond.instanceMethod_spec (mv (args := args) hZ w4)
  obtain ⟨c2, r2, m2, q1, q2, q3, q4, kP, hkP, hkPi⟩ := Cond.selects_spec (mv (args := args) hZ w3)
  cases qa.symm.trans q1
  cases hfd.symm.trans q2
  cases hnamed.symm.trans q3
  have hselP : selectMethod e.platform s.vm cellB.cls r0 = .method mk := by rw [Launch.admits_selectMethod X.admits, b2]; exact q4
  obtain ⟨vm₁, X₁, hstep₁⟩ := X.invokevirtualUp hx hown (mv hZ w1) (mv hZ ws) hy hn hrm hstR (a := a) (cell := cellB) b1 (fun z h => by rw [h] at b3; cases b3) hselP hmethM habM hkP hkPi (g := g) hg (argsL := argsL) (rest := rest) (hlen _ hsigR) hstack hd
  obtain ⟨v, ⟨T', L', k', n'⟩, X', ⟨L, hQ, u1, u2, u3⟩, hsteps⟩ := backOf (W := W) r hZ w6 w5 hf hl m meth c ⟨T.setVm vm₁, locs, cells, slots⟩ { g with stack := rest } (.invokevirtual index) mk (.ref a :: argsL).toArray X₁ hg hsize hd hW (X₁.named hnamed) ⟨has, eT, hc, hs⟩
  dsimp only [Pt.U, Pt.locs, Pt.cells, Pt.slots] at X' u1 u2 u3 hsteps hQ
  subst u1 u2 u3
  exact Goes.of (fun _ => ((hstep₁ _ fun acts => by rw [doInvoke_state]; exact Steps.refl _).trans hsteps).trans) (k v T' L X' hQ)
end Own3
end Jvm.Own
namespace Jvm.Own
open Jvm Sem ClassFile Op Lib Jvm.Stand Jvm.Free Jvm.LawKit Jvm.RoadKit Bundle Jvm.Free.Exc
section Own4
variable {p : Program} {l : Launch} {e : Env} {R : Room} {s : State} {m : MethodId} {args : Array Value} {below : List Frame} {meth : Method} {c : Code} {T : State} {locs : List Loc} {cells slots : Nat} {Z : State} {a0 : Array Value} {h : Heap} {E : Outcome → State → Prop} {vm0 : Vm}
theorem goExc1 {own rc : String} {links : List Link} {ic n : Nat} (W : Nat) (X : Stand p l e R (s.setVm vm0) m args below meth c T locs cells slots) (hx : p.tables.exec = Jvm.exec) (hl : l.stackTraces = true) (hZ : Z.Warmed39 vm0) (hown : vm0.findClass own = some m.cls) (hok : linksOk 1 links = true)
    (w1 : (Jvm.Cond.methodLink own ic (ctor 1 (headName links))).before a0 Z = true) (w2 : (Jvm.Cond.instanceMethod (ctor 1 (headName links))).before a0 Z = true) (wT : (chainTab 1 rc links).before a0 Z = true) (wi : (Jvm.Cond.instantiable rc n).before a0 Z = true) (r : ∀ d ∈ twoRefs, d.before a0 Z = true)
    (hT0 : ThS Z s.heap) (hT : ThS Z h) (hTK : Z.vm.MethodsKnown) (hBl : Z.vm.FramesKnown below) (eT : T.heap = h) {a : Addr} (Ex : Exa Z h a rc) (N : Unt h a) (B : Fld Z h a tN "backtrace" obD .null) (B2 : Fld Z h a tN "detailMessage" msgD .null) {msg : Value} (hmsg : msg.isRef = true)
    {g : JFrame} (hg : g.method = m) (hsize : g.locals.size = c.maxLocals) {rest : List Value} (hs : g.stack = msg :: .ref a :: rest) (hd : decode c.code g.pc = .ok (.invokespecial ic, 3))
    (hf : 4 + links.length ≤ R.frames) (hW : 2 * g.monitorRoom + (rest.map fun v => v.category).sum ≤ W) (hlo : W + (56 + 14 * links.length) ≤ R.locals) (hc : cells + 1 ≤ R.cells) (hsl : slots + 2752 ≤ R.slots)
    (k : ∀ T' h', Stand p l e R (s.setVm vm0) m args below meth c T' (locs ++ sixLocs Z a) (cells + 1) (slots + 2752) → T'.heap = h' → Kp Z h h' a → Exa Z h' a rc → Fld Z h' a tN "detailMessage" msgD msg → Goes p e below E T' { g with pc := g.pc + 3, stack := rest }) : Goes p e below E T g := by
  obtain ⟨T', h', X', e', K', A', -, M', -, -, st⟩ := excL1 X hx hl hZ hown hok w1 w2 wT wi r hT0 hT (Vm.MethodsKnown.alikeC hZ.alike hTK) (Vm.FramesKnown.alikeC hZ.alike hBl) eT Ex N B B2 hmsg hg hsize hs hd hf (Nat.le_trans (Nat.add_le_add_right hW _) hlo) hc hsl
  exact Goes.of st (k T' h' X' e' K' A' M')
end Own4
end Jvm.Own
namespace Jvm.Own
open Jvm Sem ClassFile Op Lib Jvm.Stand Jvm.Free Jvm.LawKit Jvm.RoadKit Bundle Jvm.Free.Exc LibCode.Throwable
/-- the one word of the library's list that this claim's sheet has not got -/
def supp0 : Jvm.Cond := .lays tN tN "suppressedExceptions" listD
/-- Throwable's tables as the bundle wants them, where the word on 'suppressedExceptions' is said of a subclass alone -/
theorem tlinks {args : Array Value} {s : State} {pl : Platform} {rc : String} (howns : pl.frameOwnsMonitors = true) (hfin : pl.finalization = false) (hpl : pl.magicAccessors = ({} : Platform).magicAccessors)
    (a : ∀ c, c ∈ throwableAtoms ∧ c ≠ supp0 → c.holds args s none s [] = true) (wp : (Jvm.Cond.lays rc tN "suppressedExceptions" listD).holds args s none s [] = true) (wt : (Jvm.Cond.lays rc tN "stackTrace" steD).holds args s none s [] = true) :
    ∃ T : ThrowableC, T.Links pl s ∧ s.vm.findClass tN = some T.cT ∧ s.methodNamed? tFill = some T.fill ∧ s.methodNamed? tFill0 = some T.fill0 ∧ s.fieldFound? tN "stackTrace" steD = some (T.cT, T.kT, T.i17, T.fStack) ∧ s.fieldFound? tN "UNASSIGNED_STACK" steD = some (T.cT, T.kT, T.i13, T.fUnassigned) ∧ T.fStack.type = .array (.object "java/lang/StackTraceElement") := by
  obtain ⟨⟨c, j0⟩, x0, n0, y0, nat0, code0, locks0, sig0⟩ := Cond.native_spec (a (.native tFill0) (by decide +kernel))
  have hc : s.vm.findClass tN = some c := findClass_of_methodNamed n0
  obtain ⟨k, hk, nm⟩ := Vm.findClass_spec hc
  obtain ⟨_, k1, _, _, hk1, _, _, hord, _, hni⟩ := Cond.superclass_spec hc (a (.superclass tN "java/lang/Object") (by decide +kernel))
  cases Option.some.inj (hk.symm.trans hk1)
  -- the three methods
  obtain ⟨jF, xF, nF, yF, atF, stF, abF, -, -⟩ := Cond.ownMethod (x := tFill) hc hk (a (.instanceMethod tFill) (by decide +kernel))
  obtain ⟨xF', cF, yF', codeF, bF, lF, rF, lkF, -, sigF⟩ := Cond.codeSync_spec nF (a (.codeSync tFill Fill.code 1 (some (.object tN))) (by decide +kernel))
  cases Option.some.inj (yF.symm.trans yF')
  obtain ⟨j0', x0', n0', y0', at0, st0, ab0, nm0, ds0⟩ := Cond.ownMethod (x := tFill0) hc hk (a (.instanceMethod tFill0) (by decide +kernel))
  obtain rfl : j0 = j0' := by have q := Option.some.inj (n0.symm.trans n0'); simpa using q
  cases Option.some.inj (y0.symm.trans y0')
  obtain ⟨mO, xO, nO, yO, stO, abO⟩ := Cond.instanceMethod_spec (a (.instanceMethod oInit) (by decide +kernel))
  obtain ⟨xO', cO, yO', codeO, bO, lO, -, lkO, -, sigO⟩ := Cond.code_spec nO (a (.code oInit ⟨#[0xb1]⟩ 1 none) (by decide +kernel))
  cases Option.some.inj (yO.symm.trans yO')
  obtain ⟨kO, hkO, nmO⟩ := Vm.findClass_spec (findClass_of_methodNamed nO)
  obtain ⟨nmx, dsx⟩ := name_of_methodNamed nO yO
  -- the pool's methods
  obtain ⟨p1, q1, cf, l1, r1, f1, o1⟩ := Cond.linkedMethod hc hk nO (a (.methodLink tN 1 oInit) (by decide +kernel)) pl hpl
  obtain ⟨p27, q27, cf1, l27, r27, f27, o27⟩ := Cond.linkedMethod hc hk nF (a (.methodLink tN 27 tFill) (by decide +kernel)) pl hpl
  cases Option.some.inj (f1.symm.trans f27)
  obtain ⟨p202, q202, cf2, l202, r202, f202, o202⟩ := Cond.linkedMethod hc hk n0 (a (.methodLink tN 202 tFill0) (by decide +kernel)) pl hpl
  cases Option.some.inj (f1.symm.trans f202)
  -- the pool's fields
  obtain ⟨c7, i7, g7, l7, r7, a7, s7, t7, -, -, -⟩ := Cond.ownField (t := .object tN) hc hk (by decide +kernel) (a (.fieldLink tN 7 tN "cause" "Ljava/lang/Throwable;") (by decide +kernel)) (a (.lays tN tN "cause" "Ljava/lang/Throwable;") (by decide +kernel)) pl hpl
  obtain ⟨c17, i17, g17, l17, r17, a17, s17, t17, m17, y17, w17⟩ := Cond.ownField (t := .array (.object "java/lang/StackTraceElement")) hc hk (by decide +kernel) (a (.fieldLink tN 17 tN "stackTrace" steD) (by decide +kernel)) (a (.lays tN tN "stackTrace" steD) (by decide +kernel)) pl hpl
  obtain ⟨c24, i24, g24, l24, r24, a24, s24, t24, m24, -, w24⟩ := Cond.ownField (t := .object "java/util/List") hc hk (by decide +kernel) (a (.fieldLink tN 24 tN "suppressedExceptions" listD) (by decide +kernel)) wp pl hpl
  obtain ⟨c13, i13, g13, aS, cellS, l13, r13, a13, s13, -, -, hsta, -, -, -, -, w13⟩ := Cond.ownStatic (t := .array (.object "java/lang/StackTraceElement")) hc hk (by decide +kernel) (a (.fieldLink tN 13 tN "UNASSIGNED_STACK" steD) (by decide +kernel)) (a (.laysStatic tN "UNASSIGNED_STACK" steD) (by decide +kernel)) pl hpl
  obtain ⟨c20, i20, g20, _, _, l20, r20, a20, s20, -, -, -, -, -, -, -, -⟩ := Cond.ownStatic (t := .object "java/util/List") hc hk (by decide +kernel) (a (.fieldLink tN 20 tN "SUPPRESSED_SENTINEL" listD) (by decide +kernel)) (a (.laysStatic tN "SUPPRESSED_SENTINEL" listD) (by decide +kernel)) pl hpl
  obtain ⟨_, _, _, _, _, gM, _, _, wM, sM, tM, _⟩ := Cond.lays_spec (a (.lays tN tN "detailMessage" "Ljava/lang/String;") (by decide +kernel))
  -- stackTrace's slot is not suppressedExceptions': read at the subclass
  have apart : g17.slot ≠ g24.slot := by
    obtain ⟨b, kb, _, _, _, _, hb, hkb, -⟩ := Cond.lays_spec wt
    obtain ⟨-, d1, e1, e2⟩ := Cond.laysAt hb hkb w17 wt
    obtain ⟨-, d2, e3, e4⟩ := Cond.laysAt hb hkb w24 wp
    exact Cond.laysApart e1 e3 e2 e4 (by rw [m17, m24]; decide)
  have pF : xF.sig.parameters = [] := by
    have q : (parseMethodDescriptor tFill.desc).map (·.parameters) = some [] := by decide +kernel
    rw [sigF] at q; simpa using q
  have p0 : x0.sig.parameters = [.int] := by
    have q : (parseMethodDescriptor tFill0.desc).map (·.parameters) = some [.int] := by decide +kernel
    rw [sig0] at q; simpa using q
  have pO : xO.sig.parameters.length = 0 := by
    have q : (parseMethodDescriptor oInit.desc).map (·.parameters) = some [] := by decide +kernel
    rw [sigO] at q
    have q' : xO.sig.parameters = [] := by simpa using q
    rw [q']; rfl
  refine ⟨{ cT := c, kT := k, cO := c, aS := aS, fillIdx := jF, fill0Idx := j0, initSIdx := jF, obj := mO, kObj := kO, methFill := xF, methFill0 := x0, methInitS := xF, methObj := xO, codeFill := cF, codeInitS := cF, codeObj := cO, fBack := g7, fDepth := g7, fStack := g17, fCause := g7, fSupp := g24, fMsg := gM, fUnassigned := g13, fSentinel := g20, cfT := cf, ci1 := p1, n1 := q1, ci27 := p27, n27 := q27, ci202 := p202, n202 := q202, ci7 := c7, i7 := i7, ci13 := c13, i13 := i13, ci17 := c17, i17 := i17, ci20 := c20, i20 := i20, ci24 := c24, i24 := i24 }, ?_, hc, nF, n0, w17, w13, y17⟩
  constructor
  case owns => exact howns
  case noFinalization => exact hfin
  case boot => exact Vm.findClass_boot hc hk
  case initialized => exact Cond.initialized_spec hc hk (a (.initialized tN) (by decide +kernel))
  case objFound => show lookupSpecial s.vm mO.cls "<init>" xO.desc = .method mO; rw [dsx]; exact lookupSpecial_of_named nO yO stO
  all_goals assumption
section Own5
variable {p : Program} {l : Launch} {e : Env} {R : Room} {s : State} {m : MethodId} {args : Array Value} {below : List Frame} {meth : Method} {c : Code} {T : State} {locs : List Loc} {cells slots : Nat} {Z : State} {a0 : Array Value} {h : Heap} {E : Outcome → State → Prop}
theorem goFill {rc : String} {n : Nat} (W : Nat) (X : Stand p l e R s m args below meth c T locs cells slots) (hx : p.tables.exec = Jvm.exec) (hl : l.stackTraces = true) (hZ : Z.Warmed39 s.vm) (hown : s.vm.findClass tN = some m.cls) (hrc : rc ≠ tN)
    (wA : ∀ d ∈ excAtoms rc, d ≠ supp0 → d.before a0 Z = true) (wi : (Jvm.Cond.instantiable rc n).before a0 Z = true) (hT0 : ThS Z s.heap) (hTK : Z.vm.MethodsKnown) (hBl : Z.vm.FramesKnown below) (eT : T.heap = h) {a : Addr} (Ex : Exa Z h a rc) (N : Unt h a) (B : Fld Z h a tN "backtrace" obD .null) {u : Value} (hu : u.isRef = true) (S : Fld Z h a tN "stackTrace" steD u) (US : Sta Z h tN "UNASSIGNED_STACK" steD u)
    {g : JFrame} (hg : g.method = m) (hsize : g.locals.size = c.maxLocals) {rest : List Value} (hs : g.stack = .ref a :: rest) (hd : decode c.code g.pc = .ok (.invokevirtual 27, 3)) (hf : 3 ≤ R.frames) (hW : 2 * g.monitorRoom + (rest.map fun v => v.category).sum ≤ W) (hlo : W + 42 ≤ R.locals) (hc : cells + 1 ≤ R.cells) (hsl : slots + 2752 ≤ R.slots)
    (k : ∀ T' L, Stand p l e R s m args below meth c T' (locs ++ L) (cells + 1) (slots + 2752) → (∀ x ∈ L, ∃ nd ∈ [("backtrace", obD), ("depth", "I"), ("stackTrace", steD)], x = ⟨a, Jvm.RoadKit.slotOf Z tN nd.1 nd.2⟩) → Goes p e below E T' { g with pc := g.pc + 3, stack := .ref a :: rest }) : Goes p e below E T g := by
  have htr : e.platform.stackTraces = true := by rw [X.admits.platform]; exact hl
  have howns : e.platform.frameOwnsMonitors = true := by rw [X.admits.platform]
  have hfin : e.platform.finalization = false := by rw [X.admits.platform]
  have hpl : e.platform.magicAccessors = ({} : Platform).magicAccessors := by rw [X.admits.platform]
  have a' : ∀ d, d ∈ excAtoms rc → d ≠ supp0 → d.before args s = true := fun d hd hne => mvX hT0 hZ (List.all_eq_true.mp exc_ok d hd) (wA d hd hne)
  have wS := a' (.lays rc tN "stackTrace" steD) (by simp [excAtoms]) (by simp [supp0, hrc])
  have wB := a' (.lays rc tN "backtrace" obD) (by simp [excAtoms]) (by simp [supp0, hrc])
  have wD := a' (.lays rc tN "depth" "I") (by simp [excAtoms]) (by simp [supp0, hrc])
  obtain ⟨Y, L, found, fillN, fill0N, stk, una, tS⟩ := tlinks (args := args) (rc := rc) howns hfin hpl (fun d q => a' d (by simp [excAtoms, q.1]) q.2) (a' (.lays rc tN "suppressedExceptions" listD) (by simp [excAtoms]) (by simp [supp0, hrc])) wS
  obtain ⟨cell, kc, e1, e2, e3, -, e5⟩ := Ex
  obtain ⟨c2, u1, u2, u3⟩ := N
  cases e1.symm.trans u1
  obtain ⟨c3, cfB, kB, iB, fB0, b1, b2, -, -, -, -, b7⟩ := B
  cases e1.symm.trans b1
  obtain ⟨c4, cfS, kS, iS, fS0, s1, s2, -, -, -, -, s7⟩ := S
  cases e1.symm.trans s1
  obtain ⟨cfU, iU, kU, fU, st, cellS, v1, v2, v3, v4, v5, v6, v7⟩ := US
  obtain ⟨c5, k5, i1, i2, i3, -⟩ := Cond.instantiable_spec wi
  cases e2.symm.trans i1
  cases e3.symm.trans i2
  obtain ⟨kX, hk, hkq⟩ := hZ.alike.2.2 _ _ e3
  have hfound : s.vm.findClass rc = some cell.cls := by rw [hZ.alike.findClass]; exact e2
  have hord : kX.kind = .ordinary := by rw [hkq]; exact i3
  have hsz : cell.slots.size = kX.instanceTypes.size := by rw [hkq]; exact e5 i3
  obtain ⟨kU', qU, qe⟩ := State.fieldFound?_setVm (s := Z) hZ.alike v1
  cases (show s.fieldFound? tN "UNASSIGNED_STACK" steD = _ from qU).symm.trans una
  have sta : Y.kT.statics = some st := by rw [qe]; exact v4
  cases Option.some.inj (sta.symm.trans L.statics)
  obtain ⟨kS', qS, -⟩ := State.fieldFound?_setVm (s := Z) hZ.alike s2
  cases (show s.fieldFound? tN "stackTrace" steD = _ from qS).symm.trans stk
  have hsel0 : selectMethod e.platform s.vm cell.cls Y.fill0 = .method Y.fill0 := by
    obtain ⟨c6, r6, m6, q1, q2, q3, q4, -⟩ := Cond.selects_spec (a' (.selects rc tFill0 tFill0) (by simp [excAtoms]) (by simp [supp0]))
    cases Option.some.inj (q1.symm.trans hfound)
    cases Option.some.inj (q2.symm.trans (State.methodFound?_of_named fill0N (by decide)))
    cases Option.some.inj (q3.symm.trans fill0N)
    rw [Launch.admits_selectMethod X.admits]; exact q4
  have hneS : Y.aS ≠ a := fun q => by
    rw [q, e1] at v5
    cases v5
    rw [u2] at v6
    cases v6
  have hknS : cellS.vm ≠ .unknown := fun q => by rw [q] at v6; cases v6
  obtain ⟨ci198, i198, fB, hk198, hg198, ha198, hsB, -, hnB, htB, hffB⟩ := Cond.ownField (t := .object "java/lang/Object") found L.cls (by decide +kernel) (a' (.fieldLink tN 198 tN "backtrace" obD) (by simp [excAtoms]) (by simp [supp0])) (a' (.lays tN tN "backtrace" obD) (by simp [excAtoms]) (by simp [supp0])) e.platform hpl
  obtain ⟨kB', qB, -⟩ := State.fieldFound?_setVm (s := Z) hZ.alike b2
  cases (show s.fieldFound? tN "backtrace" obD = _ from qB).symm.trans hffB
  obtain ⟨cD1, kD1, cD, kD, iD, fD, -, -, hffD, hstD, -⟩ := Cond.lays_spec wD
  cases Option.some.inj ((Cond.lays_declared wD hffD).symm.trans found)
  obtain ⟨hkD, hatD⟩ := State.fieldFound?_spec hffD
  cases Option.some.inj (hkD.symm.trans L.cls)
  obtain ⟨hnD, htD⟩ := State.fieldFound?_type hffD (t := .int) (by decide +kernel)
  obtain ⟨_, _, _, zD⟩ := Jvm.Free.BdW.found_ride (U := s) (U' := Z) hZ.alike.symm ⟨_, _, _, hffD⟩
  have hfb := Cond.soleField_find found L.cls (a' (.soleField tN "backtrace") (by simp [excAtoms]) (by simp [supp0])) ha198 hnB hsB
  have hfd := Cond.soleField_find found L.cls (a' (.soleField tN "depth") (by simp [excAtoms]) (by simp [supp0])) hatD hnD hstD
  obtain ⟨comp, cO, kO, -, -, hkO, hkindO, hO⟩ := Cond.arrayOver_spec (a' (.arrayOver (.object "java/lang/Object")) (by simp [excAtoms]) (by simp [supp0]))
  obtain ⟨tyS, -⟩ := Cond.laysAt hfound hk stk wS
  obtain ⟨tyB, -⟩ := Cond.laysAt hfound hk hffB wB
  obtain ⟨tyD, -⟩ := Cond.laysAt hfound hk hffD wD
  have tk : ∀ {f : Field} {v : Value}, kX.instanceTypes[f.slot]? = some f.type → fits f.type v = true → Jvm.Takes s cell f v := fun {f v} h1 h2 => by
    obtain ⟨q1, q2⟩ := Takes.of_laid (v := v) hk hord h1 h2
    exact ⟨by rw [hsz]; simpa using q1, by rw [u2]; exact q2⟩
  have fS' : fits Y.fStack.type u = true := by rw [tS]; exact fits_refV_array _ ⟨u, hu⟩
  have hSE := a' (.selects rc tFill tFill) (by simp [excAtoms]) (by simp [supp0])
  obtain ⟨v6', vm6, ⟨T6, L6, c6, n6⟩, -, X6, ⟨hv6, C6, n', hn, hD6, -, -, -, -, hL6, hc6, hn6⟩, stp⟩ := X.virtualBack hx (own := tN) (C := rc) (index := 27) (y := tFill) (z := tFill) hown (a' (.methodLink tN 27 tFill) (by simp [excAtoms, throwableAtoms]) (by simp [supp0])) (a' (.declares tFill) (by simp [excAtoms]) (by simp [supp0])) (notFace_of_selects hSE) hSE (a' (.instanceMethod tFill) (by simp [excAtoms, throwableAtoms]) (by simp [supp0])) (by decide)
    (fillPaysAny (l := l) (W := W) hx htr Y L fillN (u0 := ⟨u, hu⟩) (self := a) (cell := cell) (cellS := cellS) (fun _ => by rw [u2]; simp) (by rw [u2]; simp) (by rw [u3]) (by rw [u3]) s7 hsel0 hneS hknS v7 (tk tyS fS')
      ⟨{ ci198 := ci198, i198 := _, fBack := _ }, ⟨hk198, hg198, ha198, hsB⟩, b7⟩ (Vm.MethodsKnown.alikeC hZ.alike hTK) (Vm.FramesKnown.alikeC hZ.alike hBl) found hO hkO hkindO hfb hfd (fun x => tk tyB (by rw [htB]; rfl)) (fun x => tk tyD (by rw [htD]; rfl)) (by omega) (by omega))
    (b := a) (cB := cell.cls) hfound ⟨cell, by rw [eT]; exact e1, rfl, by rw [u2]; rfl⟩ hg hsize (Steps.refl _) (argsL := []) (rest := rest)
    (fun sig h => by rw [show parseMethodDescriptor tFill.desc = some ⟨[], some (.object tN)⟩ from by decide +kernel] at h; rw [← Option.some.inj h]; rfl) hs hW hd
    (fun vmx _ => ⟨rfl, hc, hsl, by show T.heap[a]? = _; rw [eT]; exact e1, by show T.heap[Y.aS]? = _; rw [eT]; exact v5⟩)
  dsimp only [Pt.U, Pt.locs, Pt.cells, Pt.slots] at X6 hL6 hc6 hn6 stp
  subst hv6 hL6 hc6 hn6
  refine Goes.of (fun _ => stp.trans) (k T6 _ (X6.more (Nat.le_refl _) (Nat.add_le_add_left hn _)) fun x hx => ?_)
  simp only [List.mem_cons, List.not_mem_nil, or_false] at hx
  rcases hx with rfl | rfl | rfl
  · exact ⟨("backtrace", obD), by simp, by simp [Jvm.RoadKit.slotOf, b2]⟩
  · exact ⟨("depth", "I"), by simp, by simp [Jvm.RoadKit.slotOf, zD]⟩
  · exact ⟨("stackTrace", steD), by simp, by simp [Jvm.RoadKit.slotOf, s2]⟩
/-- what a frame that has made nothing old to others leaves: all but a as it was -/
theorem keep_of_same {a : Addr} (X : Stand p l e R s m args below meth c T locs cells slots) (hh : s.heap = h) (hb : ∀ x ∈ locs, x.base = a) : Keep h T.heap [a] := by
  subst hh
  have K := X.same
  refine ⟨K.2.1, fun x cx q hn => ?_, fun x cx q => ?_⟩
  · obtain ⟨c', q1, q2, q3, q4⟩ := K.2.2.2.2.2 x cx q
    have q1 : T.heap[x]? = some c' := q1
    have hne : x ≠ a := by simpa using hn
    have : c'.slots = cx.slots := Array.ext_getElem? fun i => q4 i fun hm => hne (hb _ hm)
    rw [q1, q2, this]
  · obtain ⟨c', q1, q2, q3, -⟩ := K.2.2.2.2.2 x cx q
    exact ⟨c', q1, by rw [q2], by rw [q2], q3⟩
theorem fld_of_same {a : Addr} {O nm d : String} {v : Value} (X : Stand p l e R s m args below meth c T locs cells slots) (hh : s.heap = h) (F : Fld Z h a O nm d v) (hb : ∀ x ∈ locs, x ≠ ⟨a, Jvm.RoadKit.slotOf Z O nm d⟩) : Fld Z T.heap a O nm d v := by
  subst hh
  obtain ⟨cell, cf, k, i, f, h1, h2, h3, h4, h5, h6, h7⟩ := F
  obtain ⟨c', q1, q2, q3, q4⟩ := X.same.2.2.2.2.2 a cell h1
  refine ⟨c', cf, k, i, f, q1, h2, h3, by rw [q2]; exact h4, by rw [q2]; exact h5, by rw [q2]; exact h6, ?_⟩
  rw [q4 f.slot fun hm => hb _ hm (by simp [Jvm.RoadKit.slotOf, h2])]
  exact h7
theorem unt_of_same {a : Addr} (X : Stand p l e R s m args below meth c T locs cells slots) (hh : s.heap = h) (N : Unt h a) : Unt T.heap a := by
  subst hh
  obtain ⟨cell, h1, h2, h3⟩ := N
  obtain ⟨c', q1, q2, -⟩ := X.same.2.2.2.2.2 a cell h1
  exact ⟨c', q1, by rw [q2]; exact h2, by rw [q2]; exact h3⟩
end Own5
end Jvm.Own
namespace Jvm.Own
open Jvm Sem ClassFile Op Lib Jvm.Stand Jvm.Free Jvm.LawKit Jvm.RoadKit
theorem bvx (b : BitVec 32) (hb : ∀ i, 16 ≤ i → b.getLsbD i = false) : (((((b.sshiftRight 0).setWidth 8).signExtend 32 &&& 255#32) ||| ((((b.sshiftRight 8).setWidth 8).signExtend 32 &&& 255#32) <<< 8)).setWidth 16).setWidth 32 = b := by
  apply BitVec.eq_of_getLsbD_eq
  intro i hi
  by_cases h16 : i < 16
  · by_cases h8 : i < 8
    · have e : (255#32).getLsbD i = true := by
        have : ∀ j : Fin 8, (255#32).getLsbD j = true := by decide
        exact this ⟨i, h8⟩
      have h3 : ¬ 32 ≤ i := by omega
      simp only [BitVec.getLsbD_setWidth, BitVec.getLsbD_or, BitVec.getLsbD_and, BitVec.getLsbD_signExtend, BitVec.getLsbD_sshiftRight, BitVec.getLsbD_shiftLeft, e, h8, h16, hi, h3, decide_true, decide_false, Bool.true_and, Bool.and_true, if_true, Bool.not_true, Bool.false_and, Bool.and_false, Bool.or_false, Nat.zero_add, Bool.not_false]
    · have e : (255#32).getLsbD (i - 8) = true := by
        have : ∀ j : Fin 8, (255#32).getLsbD j = true := by decide
        exact this ⟨i - 8, by omega⟩
      have e2 : (255#32).getLsbD i = false := by
        have : ∀ j : Fin 24, (255#32).getLsbD (j + 8) = false := by decide
        have q := this ⟨i - 8, by omega⟩
        simpa only [show i - 8 + 8 = i by omega] using q
      have h1 : i - 8 < 8 := by omega
      have h2 : 8 + (i - 8) = i := by omega
      have h3 : ¬ 32 ≤ i - 8 := by omega
      have h4 : i - 8 < 32 := by omega
      simp only [BitVec.getLsbD_setWidth, BitVec.getLsbD_or, BitVec.getLsbD_and, BitVec.getLsbD_signExtend, BitVec.getLsbD_sshiftRight, BitVec.getLsbD_shiftLeft, e, e2, h1, h2, h4, h8, h16, hi, h3, decide_true, decide_false, Bool.true_and, Bool.and_true, if_true, Bool.false_and, Bool.and_false, Bool.false_or, Nat.zero_add, Bool.not_false]
  · rw [hb i (by omega)]
    simp [h16]
theorem getc (c : Int32) (h : ¬ c < 0 ∧ ¬ (65535 : Int32) < c) : nar .char ((((((nar .byte ((c >>> ((0 : Int32) &&& 31)).toInt8.toInt32) &&& (255 : Int32)) <<< ((0 : Int32) &&& 31)) ||| ((nar .byte ((c >>> ((8 : Int32) &&& 31)).toInt8.toInt32) &&& (255 : Int32)) <<< ((8 : Int32) &&& 31))).toUInt32.toUInt16.toUInt32.toInt32))) = c := by
  have q0 : (0 : Int32).toInt = 0 := rfl
  have q1 : (65535 : Int32).toInt = 65535 := rfl
  have hb : ∀ i, 16 ≤ i → c.toBitVec.getLsbD i = false := by
    intro i hi
    obtain ⟨h1, h2⟩ := h
    rw [Int32.lt_iff_toInt_lt] at h1 h2
    have e : c.toBitVec.toNat < 2 ^ 16 := by
      have e1 : c.toInt = c.toBitVec.toInt := rfl
      rw [e1, BitVec.toInt_eq_toNat_cond] at h1 h2
      have := c.toBitVec.isLt
      split at h1 <;> omega
    show c.toBitVec.toNat.testBit i = false
    exact Nat.testBit_lt_two_pow (Nat.lt_of_lt_of_le e (Nat.pow_le_pow_right (by decide) hi))
  have w1 : ∀ x : BitVec 32, ((x.setWidth 8).signExtend 32).setWidth 8 = x.setWidth 8 := fun x => by
    apply BitVec.eq_of_getLsbD_eq
    intro i hi
    have h3 : i < 32 := by omega
    simp only [BitVec.getLsbD_setWidth, BitVec.getLsbD_signExtend, hi, h3, decide_true, Bool.true_and, if_true]
  have w2 : ∀ x : BitVec 32, ((x.setWidth 16).setWidth 32).setWidth 16 = x.setWidth 16 := fun x => by
    apply BitVec.eq_of_getLsbD_eq
    intro i hi
    have h3 : i < 32 := by omega
    simp only [BitVec.getLsbD_setWidth, hi, h3, decide_true, Bool.true_and]
  have key := bvx c.toBitVec hb
  apply Int32.toBitVec_inj.mp
  have t1 : ∀ x : Int32, (nar .byte x).toBitVec = (x.toBitVec.setWidth 8).signExtend 32 := fun x => by show (x.toInt8.toInt32).toBitVec = _; rw [Int8.toBitVec_toInt32, Int32.toBitVec_toInt8, BitVec.signExtend_eq_setWidth_of_le x.toBitVec (v := 8) (by decide)]
  have t2 : ∀ x : Int32, (nar .char x).toBitVec = (x.toBitVec.setWidth 16).setWidth 32 := fun x => by show (x.toUInt32.toUInt16.toUInt32.toInt32).toBitVec = _; rfl
  have t3 : ∀ x : Int32, (x.toInt8.toInt32).toBitVec = (x.toBitVec.setWidth 8).signExtend 32 := fun x => by rw [Int8.toBitVec_toInt32, Int32.toBitVec_toInt8, BitVec.signExtend_eq_setWidth_of_le x.toBitVec (v := 8) (by decide)]
  have t4 : ∀ x : Int32, (x.toUInt32.toUInt16.toUInt32.toInt32).toBitVec = (x.toBitVec.setWidth 16).setWidth 32 := fun _ => rfl
  have t5 : ∀ x : Int32, (x >>> ((0 : Int32) &&& 31)).toBitVec = x.toBitVec.sshiftRight 0 := fun _ => rfl
  have t6 : ∀ x : Int32, (x >>> ((8 : Int32) &&& 31)).toBitVec = x.toBitVec.sshiftRight 8 := fun _ => rfl
  have t7 : ∀ x : Int32, (x <<< ((0 : Int32) &&& 31)).toBitVec = x.toBitVec <<< 0 := fun _ => rfl
  have t8 : ∀ x : Int32, (x <<< ((8 : Int32) &&& 31)).toBitVec = x.toBitVec <<< 8 := fun _ => rfl
  have t9 : ∀ x : Int32, (x &&& (255 : Int32)).toBitVec = x.toBitVec &&& 255#32 := fun _ => rfl
  have t10 : ∀ x y : Int32, (x ||| y).toBitVec = x.toBitVec ||| y.toBitVec := fun _ _ => rfl
  rw [t2, t4, t10, t7, t8, t9, t9, t1, t1, t3, t3, t5, t6, w1, w1, w2, BitVec.shiftLeft_zero]
  exact key
theorem char16 (x : Int32) : ¬ nar .char x < 0 ∧ ¬ (65535 : Int32) < nar .char x := by
  have q0 : (0 : Int32).toInt = 0 := rfl
  have q1 : (65535 : Int32).toInt = 65535 := rfl
  rw [Int32.lt_iff_toInt_lt, Int32.lt_iff_toInt_lt]
  have e1 : (nar .char x).toInt = ((x.toBitVec.setWidth 16).setWidth 32).toInt := rfl
  have e2 : ((x.toBitVec.setWidth 16).setWidth 32).toNat < 2 ^ 16 := by
    simp only [BitVec.toNat_setWidth]
    omega
  rw [e1, BitVec.toInt_eq_toNat_cond]
  split <;> omega
end Jvm.Own
namespace Jvm.Pilot.@@N@@
open Jvm Jvm.ClassFile Sem Op Lib Jvm.Free Jvm.Stand Jvm.LawKit Jvm.RoadKit Jvm.Own Bundle Jvm.Pilot.@@N@@.Jvm.D
theorem ef_25 (m : MethodId) (x0 : Int32) : entryFrame m #[(.int x0)] 1 = mkF m 0 #[.val (.int x0)] [] := by first | (simp [entryFrame, mkF, argsToLocals, Value.category]; done) | rfl
theorem d25_0 : decode jdk_52_method_3_code 0 = .ok (.iload_n 0, 1) := by decide +kernel
theorem d25_1 : decode jdk_52_method_3_code 1 = .ok (.ifCond .ge 11, 3) := by decide +kernel
theorem d25_12 : decode jdk_52_method_3_code 12 = .ok (.iload_n 0, 1) := by decide +kernel
theorem d25_13 : decode jdk_52_method_3_code 13 = .ok (.ldc 20, 2) := by decide +kernel
theorem d25_15 : decode jdk_52_method_3_code 15 = .ok (.if_icmp .lt 40, 3) := by decide +kernel
theorem d25_55 : decode jdk_52_method_3_code 55 = .ok (.iload_n 0, 1) := by decide +kernel
theorem d25_56 : decode jdk_52_method_3_code 56 = .ok (.iconst 1, 1) := by decide +kernel
theorem d25_57 : decode jdk_52_method_3_code 57 = .ok (.ishl, 1) := by decide +kernel
theorem d25_58 : decode jdk_52_method_3_code 58 = .ok (.ireturn, 1) := by decide +kernel
theorem pn_java_lang_StringUTF16 : plainName "java/lang/StringUTF16" = true := by first | (simp [plainName, overriddenIn]; done) | decide +kernel
theorem ef_24 (m : MethodId) (x0 : Int32) : entryFrame m #[(.int x0)] 1 = mkF m 0 #[.val (.int x0)] [] := by first | (simp [entryFrame, mkF, argsToLocals, Value.category]; done) | rfl
theorem d24_0 : decode jdk_52_method_2_code 0 = .ok (.iload_n 0, 1) := by decide +kernel
theorem d24_1 : decode jdk_52_method_2_code 1 = .ok (.invokestatic 11, 3) := by decide +kernel
theorem pd__I_I : parseMethodDescriptor "(I)I" = some ⟨[.int], some .int⟩ := by decide +kernel
theorem d24_4 : decode jdk_52_method_2_code 4 = .ok (.newarray .byte, 2) := by decide +kernel
theorem d24_6 : decode jdk_52_method_2_code 6 = .ok (.areturn, 1) := by decide +kernel
theorem ef_21 (m : MethodId) (x0 : Addr) (x1 : Int32) (x2 : Int32) : entryFrame m #[(.ref x0), (.int x1), (.int x2)] 3 = mkF m 0 #[.val (.ref x0), .val (.int x1), .val (.int x2)] [] := by first | (simp [entryFrame, mkF, argsToLocals, Value.category]; done) | rfl
theorem d21_0 : decode jdk_52_method_4_code 0 = .ok (.getstatic 44, 3) := by decide +kernel
theorem d21_3 : decode jdk_52_method_4_code 3 = .ok (.ifCond .ne 25, 3) := by decide +kernel
theorem d21_28 : decode jdk_52_method_4_code 28 = .ok (.iload_n 1, 1) := by decide +kernel
theorem d21_29 : decode jdk_52_method_4_code 29 = .ok (.iconst 1, 1) := by decide +kernel
theorem d21_30 : decode jdk_52_method_4_code 30 = .ok (.ishl, 1) := by decide +kernel
theorem d21_31 : decode jdk_52_method_4_code 31 = .ok (.istore_n 1, 1) := by decide +kernel
theorem d21_32 : decode jdk_52_method_4_code 32 = .ok (.aload_n 0, 1) := by decide +kernel
theorem d21_33 : decode jdk_52_method_4_code 33 = .ok (.iload_n 1, 1) := by decide +kernel
theorem d21_34 : decode jdk_52_method_4_code 34 = .ok (.iinc 1 1, 3) := by decide +kernel
theorem d21_37 : decode jdk_52_method_4_code 37 = .ok (.iload_n 2, 1) := by decide +kernel
theorem d21_38 : decode jdk_52_method_4_code 38 = .ok (.getstatic 59, 3) := by decide +kernel
theorem d21_41 : decode jdk_52_method_4_code 41 = .ok (.ishr, 1) := by decide +kernel
theorem d21_42 : decode jdk_52_method_4_code 42 = .ok (.i2b, 1) := by decide +kernel
theorem d21_43 : decode jdk_52_method_4_code 43 = .ok (.bastore, 1) := by decide +kernel
theorem d21_44 : decode jdk_52_method_4_code 44 = .ok (.aload_n 0, 1) := by decide +kernel
theorem d21_45 : decode jdk_52_method_4_code 45 = .ok (.iload_n 1, 1) := by decide +kernel
theorem d21_46 : decode jdk_52_method_4_code 46 = .ok (.iload_n 2, 1) := by decide +kernel
theorem d21_47 : decode jdk_52_method_4_code 47 = .ok (.getstatic 63, 3) := by decide +kernel
theorem d21_50 : decode jdk_52_method_4_code 50 = .ok (.ishr, 1) := by decide +kernel
theorem d21_51 : decode jdk_52_method_4_code 51 = .ok (.i2b, 1) := by decide +kernel
theorem d21_52 : decode jdk_52_method_4_code 52 = .ok (.bastore, 1) := by decide +kernel
theorem d21_53 : decode jdk_52_method_4_code 53 = .ok (.return_, 1) := by decide +kernel
theorem ef_26 (m : MethodId) (x0 : Addr) (x1 : Int32) : entryFrame m #[(.ref x0), (.int x1)] 2 = mkF m 0 #[.val (.ref x0), .val (.int x1)] [] := by first | (simp [entryFrame, mkF, argsToLocals, Value.category]; done) | rfl
theorem d26_0 : decode jdk_52_method_5_code 0 = .ok (.getstatic 44, 3) := by decide +kernel
theorem d26_3 : decode jdk_52_method_5_code 3 = .ok (.ifCond .ne 25, 3) := by decide +kernel
theorem d26_28 : decode jdk_52_method_5_code 28 = .ok (.iload_n 1, 1) := by decide +kernel
theorem d26_29 : decode jdk_52_method_5_code 29 = .ok (.iconst 1, 1) := by decide +kernel
theorem d26_30 : decode jdk_52_method_5_code 30 = .ok (.ishl, 1) := by decide +kernel
theorem d26_31 : decode jdk_52_method_5_code 31 = .ok (.istore_n 1, 1) := by decide +kernel
theorem d26_32 : decode jdk_52_method_5_code 32 = .ok (.aload_n 0, 1) := by decide +kernel
theorem d26_33 : decode jdk_52_method_5_code 33 = .ok (.iload_n 1, 1) := by decide +kernel
theorem d26_34 : decode jdk_52_method_5_code 34 = .ok (.iinc 1 1, 3) := by decide +kernel
theorem d26_37 : decode jdk_52_method_5_code 37 = .ok (.baload, 1) := by decide +kernel
theorem d26_38 : decode jdk_52_method_5_code 38 = .ok (.sipush 255, 3) := by decide +kernel
theorem d26_41 : decode jdk_52_method_5_code 41 = .ok (.iand, 1) := by decide +kernel
theorem d26_42 : decode jdk_52_method_5_code 42 = .ok (.getstatic 59, 3) := by decide +kernel
theorem d26_45 : decode jdk_52_method_5_code 45 = .ok (.ishl, 1) := by decide +kernel
theorem d26_46 : decode jdk_52_method_5_code 46 = .ok (.aload_n 0, 1) := by decide +kernel
theorem d26_47 : decode jdk_52_method_5_code 47 = .ok (.iload_n 1, 1) := by decide +kernel
theorem d26_48 : decode jdk_52_method_5_code 48 = .ok (.baload, 1) := by decide +kernel
theorem d26_49 : decode jdk_52_method_5_code 49 = .ok (.sipush 255, 3) := by decide +kernel
theorem d26_52 : decode jdk_52_method_5_code 52 = .ok (.iand, 1) := by decide +kernel
theorem d26_53 : decode jdk_52_method_5_code 53 = .ok (.getstatic 63, 3) := by decide +kernel
theorem d26_56 : decode jdk_52_method_5_code 56 = .ok (.ishl, 1) := by decide +kernel
theorem d26_57 : decode jdk_52_method_5_code 57 = .ok (.ior, 1) := by decide +kernel
theorem d26_58 : decode jdk_52_method_5_code 58 = .ok (.i2c, 1) := by decide +kernel
theorem d26_59 : decode jdk_52_method_5_code 59 = .ok (.ireturn, 1) := by decide +kernel
theorem ef_23 (m : MethodId) (x0 : Addr) (x1 : Int32) (x2 : Int32) : entryFrame m #[(.ref x0), (.int x1), (.int x2)] 5 = mkF m 0 #[.val (.ref x0), .val (.int x1), .val (.int x2), .unset, .unset] [] := by first | (simp [entryFrame, mkF, argsToLocals, Value.category]; done) | rfl
theorem d23_0 : decode jdk_52_method_14_code 0 = .ok (.iload_n 2, 1) := by decide +kernel
theorem d23_1 : decode jdk_52_method_14_code 1 = .ok (.invokestatic 107, 3) := by decide +kernel
theorem pd__I__B : parseMethodDescriptor "(I)[B" = some ⟨[.int], some (.array .byte)⟩ := by decide +kernel
theorem d23_4 : decode jdk_52_method_14_code 4 = .ok (.astore_n 3, 1) := by decide +kernel
theorem d23_5 : decode jdk_52_method_14_code 5 = .ok (.iconst 0, 1) := by decide +kernel
theorem d23_6 : decode jdk_52_method_14_code 6 = .ok (.istore 4, 2) := by decide +kernel
theorem d23_8 : decode jdk_52_method_14_code 8 = .ok (.iload 4, 2) := by decide +kernel
theorem d23_10 : decode jdk_52_method_14_code 10 = .ok (.iload_n 2, 1) := by decide +kernel
theorem d23_11 : decode jdk_52_method_14_code 11 = .ok (.if_icmp .ge 21, 3) := by decide +kernel
theorem d23_14 : decode jdk_52_method_14_code 14 = .ok (.aload_n 3, 1) := by decide +kernel
theorem d23_15 : decode jdk_52_method_14_code 15 = .ok (.iload 4, 2) := by decide +kernel
theorem d23_17 : decode jdk_52_method_14_code 17 = .ok (.aload_n 0, 1) := by decide +kernel
theorem d23_18 : decode jdk_52_method_14_code 18 = .ok (.iload_n 1, 1) := by decide +kernel
theorem d23_19 : decode jdk_52_method_14_code 19 = .ok (.caload, 1) := by decide +kernel
theorem d23_20 : decode jdk_52_method_14_code 20 = .ok (.invokestatic 111, 3) := by decide +kernel
theorem pd___BII_V : parseMethodDescriptor "([BII)V" = some ⟨[(.array .byte), .int, .int], none⟩ := by decide +kernel
theorem d23_23 : decode jdk_52_method_14_code 23 = .ok (.iinc 1 1, 3) := by decide +kernel
theorem d23_26 : decode jdk_52_method_14_code 26 = .ok (.iinc 4 1, 3) := by decide +kernel
theorem d23_29 : decode jdk_52_method_14_code 29 = .ok (.goto (-21), 3) := by decide +kernel
theorem d23_32 : decode jdk_52_method_14_code 32 = .ok (.aload_n 3, 1) := by decide +kernel
theorem d23_33 : decode jdk_52_method_14_code 33 = .ok (.areturn, 1) := by decide +kernel
theorem ef_15 (m : MethodId) (x0 : Addr) (x1 : Int32) (x2 : Addr) (x3 : Int32) (x4 : Int32) : entryFrame m #[(.ref x0), (.int x1), (.ref x2), (.int x3), (.int x4)] 7 = mkF m 0 #[.val (.ref x0), .val (.int x1), .val (.ref x2), .val (.int x3), .val (.int x4), .unset, .unset] [] := by first | (simp [entryFrame, mkF, argsToLocals, Value.category]; done) | rfl
theorem d15_0 : decode jdk_52_method_21_code 0 = .ok (.iconst 0, 1) := by decide +kernel
theorem d15_1 : decode jdk_52_method_21_code 1 = .ok (.istore 5, 2) := by decide +kernel
theorem d15_3 : decode jdk_52_method_21_code 3 = .ok (.iload 5, 2) := by decide +kernel
theorem d15_5 : decode jdk_52_method_21_code 5 = .ok (.iload 4, 2) := by decide +kernel
theorem d15_7 : decode jdk_52_method_21_code 7 = .ok (.if_icmp .ge 37, 3) := by decide +kernel
theorem d15_10 : decode jdk_52_method_21_code 10 = .ok (.aload_n 0, 1) := by decide +kernel
theorem d15_11 : decode jdk_52_method_21_code 11 = .ok (.iload_n 1, 1) := by decide +kernel
theorem d15_12 : decode jdk_52_method_21_code 12 = .ok (.caload, 1) := by decide +kernel
theorem d15_13 : decode jdk_52_method_21_code 13 = .ok (.istore 6, 2) := by decide +kernel
theorem d15_15 : decode jdk_52_method_21_code 15 = .ok (.iload 6, 2) := by decide +kernel
theorem d15_17 : decode jdk_52_method_21_code 17 = .ok (.sipush 255, 3) := by decide +kernel
theorem d15_20 : decode jdk_52_method_21_code 20 = .ok (.if_icmp .le 6, 3) := by decide +kernel
theorem d15_23 : decode jdk_52_method_21_code 23 = .ok (.iload 5, 2) := by decide +kernel
theorem d15_25 : decode jdk_52_method_21_code 25 = .ok (.ireturn, 1) := by decide +kernel
theorem ef_14 (m : MethodId) (x0 : Addr) (x1 : Int32) (x2 : Int32) : entryFrame m #[(.ref x0), (.int x1), (.int x2)] 6 = mkF m 0 #[.val (.ref x0), .val (.int x1), .val (.int x2), .unset, .unset, .unset] [] := by first | (simp [entryFrame, mkF, argsToLocals, Value.category]; done) | rfl
theorem d14_0 : decode jdk_52_method_16_code 0 = .ok (.iload_n 2, 1) := by decide +kernel
theorem d14_1 : decode jdk_52_method_16_code 1 = .ok (.newarray .byte, 2) := by decide +kernel
theorem d14_3 : decode jdk_52_method_16_code 3 = .ok (.astore_n 3, 1) := by decide +kernel
theorem d14_4 : decode jdk_52_method_16_code 4 = .ok (.aload_n 0, 1) := by decide +kernel
theorem d14_5 : decode jdk_52_method_16_code 5 = .ok (.iload_n 1, 1) := by decide +kernel
theorem d14_6 : decode jdk_52_method_16_code 6 = .ok (.aload_n 3, 1) := by decide +kernel
theorem d14_7 : decode jdk_52_method_16_code 7 = .ok (.iconst 0, 1) := by decide +kernel
theorem d14_8 : decode jdk_52_method_16_code 8 = .ok (.iload_n 2, 1) := by decide +kernel
theorem d14_9 : decode jdk_52_method_16_code 9 = .ok (.invokestatic 115, 3) := by decide +kernel
theorem pd___CI_BII_I : parseMethodDescriptor "([CI[BII)I" = some ⟨[(.array .char), .int, (.array .byte), .int, .int], some .int⟩ := by decide +kernel
theorem d14_12 : decode jdk_52_method_16_code 12 = .ok (.istore 4, 2) := by decide +kernel
theorem d14_14 : decode jdk_52_method_16_code 14 = .ok (.iload 4, 2) := by decide +kernel
theorem d14_16 : decode jdk_52_method_16_code 16 = .ok (.iload_n 2, 1) := by decide +kernel
theorem d14_17 : decode jdk_52_method_16_code 17 = .ok (.if_icmp .eq 40, 3) := by decide +kernel
theorem d14_20 : decode jdk_52_method_16_code 20 = .ok (.aload_n 0, 1) := by decide +kernel
theorem d14_21 : decode jdk_52_method_16_code 21 = .ok (.iload_n 1, 1) := by decide +kernel
theorem d14_22 : decode jdk_52_method_16_code 22 = .ok (.iload_n 2, 1) := by decide +kernel
theorem d14_23 : decode jdk_52_method_16_code 23 = .ok (.invokestatic 119, 3) := by decide +kernel
theorem pd___CII__B : parseMethodDescriptor "([CII)[B" = some ⟨[(.array .char), .int, .int], some (.array .byte)⟩ := by decide +kernel
theorem d14_26 : decode jdk_52_method_16_code 26 = .ok (.astore 5, 2) := by decide +kernel
theorem d14_28 : decode jdk_52_method_16_code 28 = .ok (.aload 5, 2) := by decide +kernel
theorem d14_30 : decode jdk_52_method_16_code 30 = .ok (.iload 4, 2) := by decide +kernel
theorem d14_32 : decode jdk_52_method_16_code 32 = .ok (.invokestatic 71, 3) := by decide +kernel
theorem pd___BI_C : parseMethodDescriptor "([BI)C" = some ⟨[(.array .byte), .int], some .char⟩ := by decide +kernel
theorem d14_35 : decode jdk_52_method_16_code 35 = .ok (.sipush 255, 3) := by decide +kernel
theorem d14_38 : decode jdk_52_method_16_code 38 = .ok (.if_icmp .gt 16, 3) := by decide +kernel
theorem d14_54 : decode jdk_52_method_16_code 54 = .ok (.aload 5, 2) := by decide +kernel
theorem d14_56 : decode jdk_52_method_16_code 56 = .ok (.areturn, 1) := by decide +kernel
theorem d15_26 : decode jdk_52_method_21_code 26 = .ok (.aload_n 2, 1) := by decide +kernel
theorem d15_27 : decode jdk_52_method_21_code 27 = .ok (.iload_n 3, 1) := by decide +kernel
theorem d15_28 : decode jdk_52_method_21_code 28 = .ok (.iload 6, 2) := by decide +kernel
theorem d15_30 : decode jdk_52_method_21_code 30 = .ok (.i2b, 1) := by decide +kernel
theorem d15_31 : decode jdk_52_method_21_code 31 = .ok (.bastore, 1) := by decide +kernel
theorem d15_32 : decode jdk_52_method_21_code 32 = .ok (.iinc 1 1, 3) := by decide +kernel
theorem d15_35 : decode jdk_52_method_21_code 35 = .ok (.iinc 3 1, 3) := by decide +kernel
theorem d15_38 : decode jdk_52_method_21_code 38 = .ok (.iinc 5 1, 3) := by decide +kernel
theorem d15_41 : decode jdk_52_method_21_code 41 = .ok (.goto (-38), 3) := by decide +kernel
theorem d15_44 : decode jdk_52_method_21_code 44 = .ok (.iload 4, 2) := by decide +kernel
theorem d15_46 : decode jdk_52_method_21_code 46 = .ok (.ireturn, 1) := by decide +kernel
theorem d14_57 : decode jdk_52_method_16_code 57 = .ok (.aload_n 3, 1) := by decide +kernel
theorem d14_58 : decode jdk_52_method_16_code 58 = .ok (.areturn, 1) := by decide +kernel
theorem ef_16 (m : MethodId) (x0 : Addr) (x1 : Int32) : entryFrame m #[(.ref x0), (.int x1)] 2 = mkF m 0 #[.val (.ref x0), .val (.int x1)] [] := by first | (simp [entryFrame, mkF, argsToLocals, Value.category]; done) | rfl
theorem d16_0 : decode jdk_52_method_15_code 0 = .ok (.iload_n 1, 1) := by decide +kernel
theorem d16_1 : decode jdk_52_method_15_code 1 = .ok (.aload_n 0, 1) := by decide +kernel
theorem d16_2 : decode jdk_52_method_15_code 2 = .ok (.arraylength, 1) := by decide +kernel
theorem d16_3 : decode jdk_52_method_15_code 3 = .ok (.isub, 1) := by decide +kernel
theorem d16_4 : decode jdk_52_method_15_code 4 = .ok (.bipush 31, 2) := by decide +kernel
theorem d16_6 : decode jdk_52_method_15_code 6 = .ok (.iushr, 1) := by decide +kernel
theorem d16_7 : decode jdk_52_method_15_code 7 = .ok (.i2b, 1) := by decide +kernel
theorem d16_8 : decode jdk_52_method_15_code 8 = .ok (.ireturn, 1) := by decide +kernel
theorem ef_13n4 (m : MethodId) (x0 : Addr) (x1 : Addr) (x2 : Int32) (x3 : Int32) : entryFrame m #[(.ref x0), (.ref x1), (.int x2), (.int x3), .null] 6 = mkF m 0 #[.val (.ref x0), .val (.ref x1), .val (.int x2), .val (.int x3), .val .null, .unset] [] := by first | (simp [entryFrame, mkF, argsToLocals, Value.category]; done) | rfl
theorem d13_0 : decode jdk_42_method_149_code 0 = .ok (.aload_n 0, 1) := by decide +kernel
theorem d13_1 : decode jdk_42_method_149_code 1 = .ok (.invokespecial 1, 3) := by decide +kernel
theorem d13_4 : decode jdk_42_method_149_code 4 = .ok (.iload_n 3, 1) := by decide +kernel
theorem d13_5 : decode jdk_42_method_149_code 5 = .ok (.ifCond .ne 22, 3) := by decide +kernel
theorem d13_27 : decode jdk_42_method_149_code 27 = .ok (.getstatic 38, 3) := by decide +kernel
theorem d13_30 : decode jdk_42_method_149_code 30 = .ok (.ifCond .eq 28, 3) := by decide +kernel
theorem d13_33 : decode jdk_42_method_149_code 33 = .ok (.aload_n 1, 1) := by decide +kernel
theorem d13_34 : decode jdk_42_method_149_code 34 = .ok (.iload_n 2, 1) := by decide +kernel
theorem d13_35 : decode jdk_42_method_149_code 35 = .ok (.iload_n 3, 1) := by decide +kernel
theorem d13_36 : decode jdk_42_method_149_code 36 = .ok (.invokestatic 177, 3) := by decide +kernel
theorem d13_39 : decode jdk_42_method_149_code 39 = .ok (.astore 5, 2) := by decide +kernel
theorem d13_41 : decode jdk_42_method_149_code 41 = .ok (.aload_n 0, 1) := by decide +kernel
theorem d13_42 : decode jdk_42_method_149_code 42 = .ok (.aload 5, 2) := by decide +kernel
theorem d13_44 : decode jdk_42_method_149_code 44 = .ok (.iload_n 3, 1) := by decide +kernel
theorem d13_45 : decode jdk_42_method_149_code 45 = .ok (.invokestatic 47, 3) := by decide +kernel
theorem pd___BI_B : parseMethodDescriptor "([BI)B" = some ⟨[(.array .byte), .int], some .byte⟩ := by decide +kernel
theorem d13_48 : decode jdk_42_method_149_code 48 = .ok (.putfield 15, 3) := by decide +kernel
theorem d13_51 : decode jdk_42_method_149_code 51 = .ok (.aload_n 0, 1) := by decide +kernel
theorem d13_52 : decode jdk_42_method_149_code 52 = .ok (.aload 5, 2) := by decide +kernel
theorem d13_54 : decode jdk_42_method_149_code 54 = .ok (.putfield 9, 3) := by decide +kernel
theorem d13_57 : decode jdk_42_method_149_code 57 = .ok (.return_, 1) := by decide +kernel
theorem pn_java_lang_String : plainName "java/lang/String" = true := by first | (simp [plainName, overriddenIn]; done) | decide +kernel
theorem ef_12 (m : MethodId) (x0 : Addr) (x1 : Addr) : entryFrame m #[(.ref x0), (.ref x1)] 2 = mkF m 0 #[.val (.ref x0), .val (.ref x1)] [] := by first | (simp [entryFrame, mkF, argsToLocals, Value.category]; done) | rfl
theorem d12_0 : decode jdk_42_method_3_code 0 = .ok (.aload_n 0, 1) := by decide +kernel
theorem d12_1 : decode jdk_42_method_3_code 1 = .ok (.aload_n 1, 1) := by decide +kernel
theorem d12_2 : decode jdk_42_method_3_code 2 = .ok (.iconst 0, 1) := by decide +kernel
theorem d12_3 : decode jdk_42_method_3_code 3 = .ok (.aload_n 1, 1) := by decide +kernel
theorem d12_4 : decode jdk_42_method_3_code 4 = .ok (.arraylength, 1) := by decide +kernel
theorem d12_5 : decode jdk_42_method_3_code 5 = .ok (.aconst_null, 1) := by decide +kernel
theorem d12_6 : decode jdk_42_method_3_code 6 = .ok (.invokespecial 27, 3) := by decide +kernel
theorem pd___CIILjava_lang_Void__V : parseMethodDescriptor "([CIILjava/lang/Void;)V" = some ⟨[(.array .char), .int, .int, (.object "java/lang/Void")], none⟩ := by decide +kernel
theorem d12_9 : decode jdk_42_method_3_code 9 = .ok (.return_, 1) := by decide +kernel
theorem d13_8 : decode jdk_42_method_149_code 8 = .ok (.aload_n 0, 1) := by decide +kernel
theorem d13_9 : decode jdk_42_method_149_code 9 = .ok (.ldc 7, 2) := by decide +kernel
theorem d13_11 : decode jdk_42_method_149_code 11 = .ok (.getfield 9, 3) := by decide +kernel
theorem d13_14 : decode jdk_42_method_149_code 14 = .ok (.putfield 9, 3) := by decide +kernel
theorem d13_17 : decode jdk_42_method_149_code 17 = .ok (.aload_n 0, 1) := by decide +kernel
theorem d13_18 : decode jdk_42_method_149_code 18 = .ok (.ldc 7, 2) := by decide +kernel
theorem d13_20 : decode jdk_42_method_149_code 20 = .ok (.getfield 15, 3) := by decide +kernel
theorem d13_23 : decode jdk_42_method_149_code 23 = .ok (.putfield 15, 3) := by decide +kernel
theorem d13_26 : decode jdk_42_method_149_code 26 = .ok (.return_, 1) := by decide +kernel
theorem ef_19 (m : MethodId) (x0 : Int32) : entryFrame m #[(.int x0)] 1 = mkF m 0 #[.val (.int x0)] [] := by first | (simp [entryFrame, mkF, argsToLocals, Value.category]; done) | rfl
theorem d19_0 : decode jdk_43_method_3_code 0 = .ok (.iload_n 0, 1) := by decide +kernel
theorem d19_1 : decode jdk_43_method_3_code 1 = .ok (.sipush 255, 3) := by decide +kernel
theorem d19_4 : decode jdk_43_method_3_code 4 = .ok (.if_icmp .gt 7, 3) := by decide +kernel
theorem d19_11 : decode jdk_43_method_3_code 11 = .ok (.iconst 0, 1) := by decide +kernel
theorem d19_12 : decode jdk_43_method_3_code 12 = .ok (.ireturn, 1) := by decide +kernel
theorem pn_java_lang_StringLatin1 : plainName "java/lang/StringLatin1" = true := by first | (simp [plainName, overriddenIn]; done) | decide +kernel
theorem d19_7 : decode jdk_43_method_3_code 7 = .ok (.iconst 1, 1) := by decide +kernel
theorem d19_8 : decode jdk_43_method_3_code 8 = .ok (.goto 4, 3) := by decide +kernel
theorem ef_27 (m : MethodId) (x0 : Int32) : entryFrame m #[(.int x0)] 1 = mkF m 0 #[.val (.int x0)] [] := by first | (simp [entryFrame, mkF, argsToLocals, Value.category]; done) | rfl
theorem d27_0 : decode jdk_43_method_46_code 0 = .ok (.iconst 1, 1) := by decide +kernel
theorem d27_1 : decode jdk_43_method_46_code 1 = .ok (.newarray .byte, 2) := by decide +kernel
theorem d27_3 : decode jdk_43_method_46_code 3 = .ok (.dup, 1) := by decide +kernel
theorem d27_4 : decode jdk_43_method_46_code 4 = .ok (.iconst 0, 1) := by decide +kernel
theorem d27_5 : decode jdk_43_method_46_code 5 = .ok (.iload_n 0, 1) := by decide +kernel
theorem d27_6 : decode jdk_43_method_46_code 6 = .ok (.i2b, 1) := by decide +kernel
theorem d27_7 : decode jdk_43_method_46_code 7 = .ok (.bastore, 1) := by decide +kernel
theorem d27_8 : decode jdk_43_method_46_code 8 = .ok (.areturn, 1) := by decide +kernel
theorem ef_20 (m : MethodId) (x0 : Int32) : entryFrame m #[(.int x0)] 2 = mkF m 0 #[.val (.int x0), .unset] [] := by first | (simp [entryFrame, mkF, argsToLocals, Value.category]; done) | rfl
theorem d20_0 : decode jdk_52_method_24_code 0 = .ok (.iconst 2, 1) := by decide +kernel
theorem d20_1 : decode jdk_52_method_24_code 1 = .ok (.newarray .byte, 2) := by decide +kernel
theorem d20_3 : decode jdk_52_method_24_code 3 = .ok (.astore_n 1, 1) := by decide +kernel
theorem d20_4 : decode jdk_52_method_24_code 4 = .ok (.aload_n 1, 1) := by decide +kernel
theorem d20_5 : decode jdk_52_method_24_code 5 = .ok (.iconst 0, 1) := by decide +kernel
theorem d20_6 : decode jdk_52_method_24_code 6 = .ok (.iload_n 0, 1) := by decide +kernel
theorem d20_7 : decode jdk_52_method_24_code 7 = .ok (.invokestatic 111, 3) := by decide +kernel
theorem d20_10 : decode jdk_52_method_24_code 10 = .ok (.aload_n 1, 1) := by decide +kernel
theorem d20_11 : decode jdk_52_method_24_code 11 = .ok (.areturn, 1) := by decide +kernel
theorem ef_22 (m : MethodId) (x0 : Addr) (x1 : Addr) (x2 : Int32) : entryFrame m #[(.ref x0), (.ref x1), (.int x2)] 3 = mkF m 0 #[.val (.ref x0), .val (.ref x1), .val (.int x2)] [] := by first | (simp [entryFrame, mkF, argsToLocals, Value.category]; done) | rfl
theorem d22_0 : decode jdk_42_method_151_code 0 = .ok (.aload_n 0, 1) := by decide +kernel
theorem d22_1 : decode jdk_42_method_151_code 1 = .ok (.invokespecial 1, 3) := by decide +kernel
theorem d22_4 : decode jdk_42_method_151_code 4 = .ok (.aload_n 0, 1) := by decide +kernel
theorem d22_5 : decode jdk_42_method_151_code 5 = .ok (.aload_n 1, 1) := by decide +kernel
theorem d22_6 : decode jdk_42_method_151_code 6 = .ok (.putfield 9, 3) := by decide +kernel
theorem d22_9 : decode jdk_42_method_151_code 9 = .ok (.aload_n 0, 1) := by decide +kernel
theorem d22_10 : decode jdk_42_method_151_code 10 = .ok (.iload_n 2, 1) := by decide +kernel
theorem d22_11 : decode jdk_42_method_151_code 11 = .ok (.putfield 15, 3) := by decide +kernel
theorem d22_14 : decode jdk_42_method_151_code 14 = .ok (.return_, 1) := by decide +kernel
theorem ef_18 (m : MethodId) (x0 : Int32) : entryFrame m #[(.int x0)] 1 = mkF m 0 #[.val (.int x0)] [] := by first | (simp [entryFrame, mkF, argsToLocals, Value.category]; done) | rfl
theorem d18_0 : decode jdk_42_method_139_code 0 = .ok (.getstatic 38, 3) := by decide +kernel
theorem d18_3 : decode jdk_42_method_139_code 3 = .ok (.ifCond .eq 23, 3) := by decide +kernel
theorem d18_6 : decode jdk_42_method_139_code 6 = .ok (.iload_n 0, 1) := by decide +kernel
theorem d18_7 : decode jdk_42_method_139_code 7 = .ok (.invokestatic 1015, 3) := by decide +kernel
theorem pd__C_Z : parseMethodDescriptor "(C)Z" = some ⟨[.char], some .boolean⟩ := by decide +kernel
theorem d18_10 : decode jdk_42_method_139_code 10 = .ok (.ifCond .eq 16, 3) := by decide +kernel
theorem d18_26 : decode jdk_42_method_139_code 26 = .ok (.new 10, 3) := by decide +kernel
theorem d18_29 : decode jdk_42_method_139_code 29 = .ok (.dup, 1) := by decide +kernel
theorem d18_30 : decode jdk_42_method_139_code 30 = .ok (.iload_n 0, 1) := by decide +kernel
theorem d18_31 : decode jdk_42_method_139_code 31 = .ok (.invokestatic 1021, 3) := by decide +kernel
theorem pd__C__B : parseMethodDescriptor "(C)[B" = some ⟨[.char], some (.array .byte)⟩ := by decide +kernel
theorem d18_34 : decode jdk_42_method_139_code 34 = .ok (.iconst 1, 1) := by decide +kernel
theorem d18_35 : decode jdk_42_method_139_code 35 = .ok (.invokespecial 209, 3) := by decide +kernel
theorem pd___BB_V : parseMethodDescriptor "([BB)V" = some ⟨[(.array .byte), .byte], none⟩ := by decide +kernel
theorem d18_38 : decode jdk_42_method_139_code 38 = .ok (.areturn, 1) := by decide +kernel
theorem d18_13 : decode jdk_42_method_139_code 13 = .ok (.new 10, 3) := by decide +kernel
theorem d18_16 : decode jdk_42_method_139_code 16 = .ok (.dup, 1) := by decide +kernel
theorem d18_17 : decode jdk_42_method_139_code 17 = .ok (.iload_n 0, 1) := by decide +kernel
theorem d18_18 : decode jdk_42_method_139_code 18 = .ok (.invokestatic 1018, 3) := by decide +kernel
theorem d18_21 : decode jdk_42_method_139_code 21 = .ok (.iconst 0, 1) := by decide +kernel
theorem d18_22 : decode jdk_42_method_139_code 22 = .ok (.invokespecial 209, 3) := by decide +kernel
theorem d18_25 : decode jdk_42_method_139_code 25 = .ok (.areturn, 1) := by decide +kernel
theorem ef_1 (m : MethodId) (x0 : Int32) (x1 : Int32) (x2 : Int32) (x3 : Int32) : entryFrame m #[(.int x0), (.int x1), (.int x2), (.int x3)] 8 = mkF m 0 #[.val (.int x0), .val (.int x1), .val (.int x2), .val (.int x3), .unset, .unset, .unset, .unset] [] := by first | (simp [entryFrame, mkF, argsToLocals, Value.category]; done) | rfl
theorem d1_0 : decode method_2_code 0 = .ok (.iload_n 1, 1) := by decide +kernel
theorem d1_1 : decode method_2_code 1 = .ok (.i2c, 1) := by decide +kernel
theorem d1_2 : decode method_2_code 2 = .ok (.istore 4, 2) := by decide +kernel
theorem d1_4 : decode method_2_code 4 = .ok (.iload_n 2, 1) := by decide +kernel
theorem d1_5 : decode method_2_code 5 = .ok (.i2c, 1) := by decide +kernel
theorem d1_6 : decode method_2_code 6 = .ok (.istore 5, 2) := by decide +kernel
theorem d1_8 : decode method_2_code 8 = .ok (.iload_n 3, 1) := by decide +kernel
theorem d1_9 : decode method_2_code 9 = .ok (.i2c, 1) := by decide +kernel
theorem d1_10 : decode method_2_code 10 = .ok (.istore 6, 2) := by decide +kernel
theorem d1_12 : decode method_2_code 12 = .ok (.iload_n 0, 1) := by decide +kernel
theorem d1_13 : decode method_2_code 13 = .ok (.bipush 7, 2) := by decide +kernel
theorem d1_15 : decode method_2_code 15 = .ok (.iand, 1) := by decide +kernel
theorem d1_16 : decode method_2_code 16 = .ok (.istore 7, 2) := by decide +kernel
theorem d1_18 : decode method_2_code 18 = .ok (.iload 7, 2) := by decide +kernel
theorem d1_20 : decode method_2_code 20 = .ok (.ifCond .ne 5, 3) := by decide +kernel
theorem d1_23 : decode method_2_code 23 = .ok (.aconst_null, 1) := by decide +kernel
theorem d1_24 : decode method_2_code 24 = .ok (.areturn, 1) := by decide +kernel
theorem pn_com_example_postpone_postpone_ApiExceptionConflictPinLaw : plainName "com/example/postpone/postpone/ApiExceptionConflictPinLaw" = true := by first | (simp [plainName, overriddenIn]; done) | decide +kernel
theorem d1_25 : decode method_2_code 25 = .ok (.iload 7, 2) := by decide +kernel
theorem d1_27 : decode method_2_code 27 = .ok (.iconst 1, 1) := by decide +kernel
theorem d1_28 : decode method_2_code 28 = .ok (.if_icmp .ne 14, 3) := by decide +kernel
theorem d1_31 : decode method_2_code 31 = .ok (.new 7, 3) := by decide +kernel
theorem d1_34 : decode method_2_code 34 = .ok (.dup, 1) := by decide +kernel
theorem d1_35 : decode method_2_code 35 = .ok (.iconst 0, 1) := by decide +kernel
theorem d1_36 : decode method_2_code 36 = .ok (.newarray .char, 2) := by decide +kernel
theorem d1_38 : decode method_2_code 38 = .ok (.invokespecial 9, 3) := by decide +kernel
theorem pd___C_V : parseMethodDescriptor "([C)V" = some ⟨[(.array .char)], none⟩ := by decide +kernel
theorem d1_41 : decode method_2_code 41 = .ok (.areturn, 1) := by decide +kernel
theorem d1_42 : decode method_2_code 42 = .ok (.iload 7, 2) := by decide +kernel
theorem d1_44 : decode method_2_code 44 = .ok (.iconst 2, 1) := by decide +kernel
theorem d1_45 : decode method_2_code 45 = .ok (.if_icmp .ne 9, 3) := by decide +kernel
theorem d1_48 : decode method_2_code 48 = .ok (.iload 4, 2) := by decide +kernel
theorem d1_50 : decode method_2_code 50 = .ok (.invokestatic 12, 3) := by decide +kernel
theorem pd__C_Ljava_lang_String_ : parseMethodDescriptor "(C)Ljava/lang/String;" = some ⟨[.char], some (.object "java/lang/String")⟩ := by decide +kernel
theorem d1_53 : decode method_2_code 53 = .ok (.areturn, 1) := by decide +kernel
theorem d1_54 : decode method_2_code 54 = .ok (.iload 7, 2) := by decide +kernel
theorem d1_56 : decode method_2_code 56 = .ok (.iconst 3, 1) := by decide +kernel
theorem d1_57 : decode method_2_code 57 = .ok (.if_icmp .ne 24, 3) := by decide +kernel
theorem d1_60 : decode method_2_code 60 = .ok (.new 7, 3) := by decide +kernel
theorem d1_63 : decode method_2_code 63 = .ok (.dup, 1) := by decide +kernel
theorem d1_64 : decode method_2_code 64 = .ok (.iconst 2, 1) := by decide +kernel
theorem d1_65 : decode method_2_code 65 = .ok (.newarray .char, 2) := by decide +kernel
theorem d1_67 : decode method_2_code 67 = .ok (.dup, 1) := by decide +kernel
theorem d1_68 : decode method_2_code 68 = .ok (.iconst 0, 1) := by decide +kernel
theorem d1_69 : decode method_2_code 69 = .ok (.iload 4, 2) := by decide +kernel
theorem d1_71 : decode method_2_code 71 = .ok (.castore, 1) := by decide +kernel
theorem d1_72 : decode method_2_code 72 = .ok (.dup, 1) := by decide +kernel
theorem d1_73 : decode method_2_code 73 = .ok (.iconst 1, 1) := by decide +kernel
theorem d1_74 : decode method_2_code 74 = .ok (.iload 5, 2) := by decide +kernel
theorem d1_76 : decode method_2_code 76 = .ok (.castore, 1) := by decide +kernel
theorem d1_77 : decode method_2_code 77 = .ok (.invokespecial 9, 3) := by decide +kernel
theorem d1_80 : decode method_2_code 80 = .ok (.areturn, 1) := by decide +kernel
theorem d1_81 : decode method_2_code 81 = .ok (.new 7, 3) := by decide +kernel
theorem d1_84 : decode method_2_code 84 = .ok (.dup, 1) := by decide +kernel
theorem d1_85 : decode method_2_code 85 = .ok (.iconst 3, 1) := by decide +kernel
theorem d1_86 : decode method_2_code 86 = .ok (.newarray .char, 2) := by decide +kernel
theorem d1_88 : decode method_2_code 88 = .ok (.dup, 1) := by decide +kernel
theorem d1_89 : decode method_2_code 89 = .ok (.iconst 0, 1) := by decide +kernel
theorem d1_90 : decode method_2_code 90 = .ok (.iload 4, 2) := by decide +kernel
theorem d1_92 : decode method_2_code 92 = .ok (.castore, 1) := by decide +kernel
theorem d1_93 : decode method_2_code 93 = .ok (.dup, 1) := by decide +kernel
theorem d1_94 : decode method_2_code 94 = .ok (.iconst 1, 1) := by decide +kernel
theorem d1_95 : decode method_2_code 95 = .ok (.iload 5, 2) := by decide +kernel
theorem d1_97 : decode method_2_code 97 = .ok (.castore, 1) := by decide +kernel
theorem d1_98 : decode method_2_code 98 = .ok (.dup, 1) := by decide +kernel
theorem d1_99 : decode method_2_code 99 = .ok (.iconst 2, 1) := by decide +kernel
theorem d1_100 : decode method_2_code 100 = .ok (.iload 6, 2) := by decide +kernel
theorem d1_102 : decode method_2_code 102 = .ok (.castore, 1) := by decide +kernel
theorem d1_103 : decode method_2_code 103 = .ok (.invokespecial 9, 3) := by decide +kernel
theorem d1_106 : decode method_2_code 106 = .ok (.areturn, 1) := by decide +kernel
theorem ef_6n1 (m : MethodId) (x0 : Addr) : entryFrame m #[(.ref x0), .null] 2 = mkF m 0 #[.val (.ref x0), .val .null] [] := by first | (simp [entryFrame, mkF, argsToLocals, Value.category]; done) | rfl
theorem d6_0 : decode jdk_78_method_2_code 0 = .ok (.aload_n 0, 1) := by decide +kernel
theorem d6_1 : decode jdk_78_method_2_code 1 = .ok (.invokespecial 1, 3) := by decide +kernel
theorem d6_4 : decode jdk_78_method_2_code 4 = .ok (.aload_n 0, 1) := by decide +kernel
theorem d6_5 : decode jdk_78_method_2_code 5 = .ok (.aload_n 0, 1) := by decide +kernel
theorem d6_6 : decode jdk_78_method_2_code 6 = .ok (.putfield 7, 3) := by decide +kernel
theorem d6_9 : decode jdk_78_method_2_code 9 = .ok (.aload_n 0, 1) := by decide +kernel
theorem d6_10 : decode jdk_78_method_2_code 10 = .ok (.getstatic 13, 3) := by decide +kernel
theorem d6_13 : decode jdk_78_method_2_code 13 = .ok (.putfield 17, 3) := by decide +kernel
theorem d6_16 : decode jdk_78_method_2_code 16 = .ok (.aload_n 0, 1) := by decide +kernel
theorem d6_17 : decode jdk_78_method_2_code 17 = .ok (.getstatic 20, 3) := by decide +kernel
theorem d6_20 : decode jdk_78_method_2_code 20 = .ok (.putfield 24, 3) := by decide +kernel
theorem d6_23 : decode jdk_78_method_2_code 23 = .ok (.aload_n 0, 1) := by decide +kernel
theorem d6_24 : decode jdk_78_method_2_code 24 = .ok (.invokevirtual 27, 3) := by decide +kernel
theorem d6_27 : decode jdk_78_method_2_code 27 = .ok (.pop, 1) := by decide +kernel
theorem d6_28 : decode jdk_78_method_2_code 28 = .ok (.aload_n 0, 1) := by decide +kernel
theorem d6_29 : decode jdk_78_method_2_code 29 = .ok (.aload_n 1, 1) := by decide +kernel
theorem d6_30 : decode jdk_78_method_2_code 30 = .ok (.putfield 31, 3) := by decide +kernel
theorem d6_33 : decode jdk_78_method_2_code 33 = .ok (.return_, 1) := by decide +kernel
theorem pn_java_lang_Throwable : plainName "java/lang/Throwable" = true := by first | (simp [plainName, overriddenIn]; done) | decide +kernel
theorem ef_5n1 (m : MethodId) (x0 : Addr) : entryFrame m #[(.ref x0), .null] 2 = mkF m 0 #[.val (.ref x0), .val .null] [] := by first | (simp [entryFrame, mkF, argsToLocals, Value.category]; done) | rfl
theorem d5_0 : decode jdk_59_method_2_code 0 = .ok (.aload_n 0, 1) := by decide +kernel
theorem d5_1 : decode jdk_59_method_2_code 1 = .ok (.aload_n 1, 1) := by decide +kernel
theorem d5_2 : decode jdk_59_method_2_code 2 = .ok (.invokespecial 7, 3) := by decide +kernel
theorem pd__Ljava_lang_String__V : parseMethodDescriptor "(Ljava/lang/String;)V" = some ⟨[(.object "java/lang/String")], none⟩ := by decide +kernel
theorem d5_5 : decode jdk_59_method_2_code 5 = .ok (.return_, 1) := by decide +kernel
theorem pn_java_lang_Exception : plainName "java/lang/Exception" = true := by first | (simp [plainName, overriddenIn]; done) | decide +kernel
theorem ef_4n1 (m : MethodId) (x0 : Addr) : entryFrame m #[(.ref x0), .null] 2 = mkF m 0 #[.val (.ref x0), .val .null] [] := by first | (simp [entryFrame, mkF, argsToLocals, Value.category]; done) | rfl
theorem d4_0 : decode jdk_58_method_2_code 0 = .ok (.aload_n 0, 1) := by decide +kernel
theorem d4_1 : decode jdk_58_method_2_code 1 = .ok (.aload_n 1, 1) := by decide +kernel
theorem d4_2 : decode jdk_58_method_2_code 2 = .ok (.invokespecial 7, 3) := by decide +kernel
theorem d4_5 : decode jdk_58_method_2_code 5 = .ok (.return_, 1) := by decide +kernel
theorem pn_java_lang_RuntimeException : plainName "java/lang/RuntimeException" = true := by first | (simp [plainName, overriddenIn]; done) | decide +kernel
theorem ef_3n2 (m : MethodId) (x0 : Addr) (x1 : Int32) : entryFrame m #[(.ref x0), (.int x1), .null] 3 = mkF m 0 #[.val (.ref x0), .val (.int x1), .val .null] [] := by first | (simp [entryFrame, mkF, argsToLocals, Value.category]; done) | rfl
theorem d3_0 : decode prog_1_method_1_code 0 = .ok (.aload_n 0, 1) := by decide +kernel
theorem d3_1 : decode prog_1_method_1_code 1 = .ok (.aload_n 2, 1) := by decide +kernel
theorem d3_2 : decode prog_1_method_1_code 2 = .ok (.invokespecial 1, 3) := by decide +kernel
theorem d3_5 : decode prog_1_method_1_code 5 = .ok (.aload_n 0, 1) := by decide +kernel
theorem d3_6 : decode prog_1_method_1_code 6 = .ok (.iload_n 1, 1) := by decide +kernel
theorem d3_7 : decode prog_1_method_1_code 7 = .ok (.putfield 7, 3) := by decide +kernel
theorem d3_10 : decode prog_1_method_1_code 10 = .ok (.return_, 1) := by decide +kernel
theorem pn_com_example_postpone_postpone_ApiException : plainName "com/example/postpone/postpone/ApiException" = true := by first | (simp [plainName, overriddenIn]; done) | decide +kernel
theorem ef_2n0 (m : MethodId)  : entryFrame m #[.null] 1 = mkF m 0 #[.val .null] [] := by first | (simp [entryFrame, mkF, argsToLocals, Value.category]; done) | rfl
theorem d2_0 : decode prog_1_method_4_code 0 = .ok (.new 8, 3) := by decide +kernel
theorem d2_3 : decode prog_1_method_4_code 3 = .ok (.dup, 1) := by decide +kernel
theorem d2_4 : decode prog_1_method_4_code 4 = .ok (.sipush 409, 3) := by decide +kernel
theorem d2_7 : decode prog_1_method_4_code 7 = .ok (.aload_n 0, 1) := by decide +kernel
theorem d2_8 : decode prog_1_method_4_code 8 = .ok (.invokespecial 13, 3) := by decide +kernel
theorem pd__ILjava_lang_String__V : parseMethodDescriptor "(ILjava/lang/String;)V" = some ⟨[.int, (.object "java/lang/String")], none⟩ := by decide +kernel
theorem d2_11 : decode prog_1_method_4_code 11 = .ok (.areturn, 1) := by decide +kernel
theorem ef_10 (m : MethodId) (x0 : Addr) : entryFrame m #[(.ref x0)] 1 = mkF m 0 #[.val (.ref x0)] [] := by first | (simp [entryFrame, mkF, argsToLocals, Value.category]; done) | rfl
theorem d10_0 : decode jdk_78_method_6_code 0 = .ok (.aload_n 0, 1) := by decide +kernel
theorem d10_1 : decode jdk_78_method_6_code 1 = .ok (.getfield 31, 3) := by decide +kernel
theorem d10_4 : decode jdk_78_method_6_code 4 = .ok (.areturn, 1) := by decide +kernel
theorem ef_6 (m : MethodId) (x0 : Addr) (x1 : Addr) : entryFrame m #[(.ref x0), (.ref x1)] 2 = mkF m 0 #[.val (.ref x0), .val (.ref x1)] [] := by first | (simp [entryFrame, mkF, argsToLocals, Value.category]; done) | rfl
theorem ef_5 (m : MethodId) (x0 : Addr) (x1 : Addr) : entryFrame m #[(.ref x0), (.ref x1)] 2 = mkF m 0 #[.val (.ref x0), .val (.ref x1)] [] := by first | (simp [entryFrame, mkF, argsToLocals, Value.category]; done) | rfl
theorem ef_4 (m : MethodId) (x0 : Addr) (x1 : Addr) : entryFrame m #[(.ref x0), (.ref x1)] 2 = mkF m 0 #[.val (.ref x0), .val (.ref x1)] [] := by first | (simp [entryFrame, mkF, argsToLocals, Value.category]; done) | rfl
theorem ef_3 (m : MethodId) (x0 : Addr) (x1 : Int32) (x2 : Addr) : entryFrame m #[(.ref x0), (.int x1), (.ref x2)] 3 = mkF m 0 #[.val (.ref x0), .val (.int x1), .val (.ref x2)] [] := by first | (simp [entryFrame, mkF, argsToLocals, Value.category]; done) | rfl
theorem ef_2 (m : MethodId) (x0 : Addr) : entryFrame m #[(.ref x0)] 1 = mkF m 0 #[.val (.ref x0)] [] := by first | (simp [entryFrame, mkF, argsToLocals, Value.category]; done) | rfl
theorem ef_11 (m : MethodId) (x0 : Addr) : entryFrame m #[(.ref x0)] 1 = mkF m 0 #[.val (.ref x0)] [] := by first | (simp [entryFrame, mkF, argsToLocals, Value.category]; done) | rfl
theorem d11_0 : decode prog_1_method_5_code 0 = .ok (.aload_n 0, 1) := by decide +kernel
theorem d11_1 : decode prog_1_method_5_code 1 = .ok (.getfield 7, 3) := by decide +kernel
theorem d11_4 : decode prog_1_method_5_code 4 = .ok (.ireturn, 1) := by decide +kernel
theorem ef_17 (m : MethodId) (x0 : Addr) (x1 : Addr) : entryFrame m #[(.ref x0), (.ref x1)] 3 = mkF m 0 #[.val (.ref x0), .val (.ref x1), .unset] [] := by first | (simp [entryFrame, mkF, argsToLocals, Value.category]; done) | rfl
theorem d17_0 : decode jdk_42_method_66_code 0 = .ok (.aload_n 0, 1) := by decide +kernel
theorem d17_1 : decode jdk_42_method_66_code 1 = .ok (.aload_n 1, 1) := by decide +kernel
theorem d17_2 : decode jdk_42_method_66_code 2 = .ok (.if_acmp .ne 5, 3) := by decide +kernel
theorem d17_5 : decode jdk_42_method_66_code 5 = .ok (.iconst 1, 1) := by decide +kernel
theorem d17_6 : decode jdk_42_method_66_code 6 = .ok (.ireturn, 1) := by decide +kernel
theorem ef_0 (m : MethodId) (x0 : Int32) (x1 : Int32) (x2 : Int32) (x3 : Int32) : entryFrame m #[(.int x0), (.int x1), (.int x2), (.int x3)] maxLocals = mkF m 0 #[.val (.int x0), .val (.int x1), .val (.int x2), .val (.int x3), .unset, .unset, .unset, .unset] [] := by first | (simp [entryFrame, mkF, argsToLocals, Value.category, maxLocals]; done) | rfl
theorem pd__IIII_Ljava_lang_String_ : parseMethodDescriptor "(IIII)Ljava/lang/String;" = some ⟨[.int, .int, .int, .int], some (.object "java/lang/String")⟩ := by decide +kernel
theorem pd__Ljava_lang_String__Lcom_example_postpone_postpone_ApiException_ : parseMethodDescriptor "(Ljava/lang/String;)Lcom/example/postpone/postpone/ApiException;" = some ⟨[(.object "java/lang/String")], some (.object "com/example/postpone/postpone/ApiException")⟩ := by decide +kernel
theorem pd___Ljava_lang_String_ : parseMethodDescriptor "()Ljava/lang/String;" = some ⟨[], some (.object "java/lang/String")⟩ := by decide +kernel
theorem pd___I : parseMethodDescriptor "()I" = some ⟨[], some .int⟩ := by decide +kernel
theorem pd__Ljava_lang_Object__Z : parseMethodDescriptor "(Ljava/lang/Object;)Z" = some ⟨[(.object "java/lang/Object")], some .boolean⟩ := by decide +kernel
def EL : List (String × Nat) := [("java/lang/String", 7)]
theorem hELof {Z : State} {a0 : Array Value} (hw : ∀ d ∈ tables_1, d.before a0 Z = true) : EW Z a0 EL := EW.cons (hw _ (List.mem_of_getElem? (i := 135) rfl)) (by decide) (EW.nil)
theorem wSof {Z : State} {a0 : Array Value} (hw : ∀ d ∈ tables_1, d.before a0 Z = true) : ∀ a ∈ Bundle.stringAtoms, a.before a0 Z = true := by
  intro a ha
  simp only [Bundle.stringAtoms, Bundle.sN, List.mem_cons, List.not_mem_nil, or_false] at ha
  rcases ha with rfl | rfl | rfl | rfl | rfl | rfl | rfl
  · exact (hw _ (List.mem_of_getElem? (i := 84) rfl))
  · exact (hw _ (List.mem_of_getElem? (i := 83) rfl))
  · exact (hw _ (List.mem_of_getElem? (i := 99) rfl))
  · exact (hw _ (List.mem_of_getElem? (i := 109) rfl))
  · exact (hw _ (List.mem_of_getElem? (i := 107) rfl))
  · exact (hw _ (List.mem_of_getElem? (i := 136) rfl))
  · exact (hw _ (List.mem_of_getElem? (i := 137) rfl))
theorem dmNe {Z : State} {a0 : Array Value} (hw : ∀ d ∈ tables_1, d.before a0 Z = true) : ∀ nd ∈ [("cause", "Ljava/lang/Throwable;"), ("stackTrace", "[Ljava/lang/StackTraceElement;"), ("suppressedExceptions", "Ljava/util/List;"), ("backtrace", "Ljava/lang/Object;"), ("depth", "I")], Jvm.RoadKit.slotOf Z "java/lang/Throwable" nd.1 nd.2 ≠ Jvm.RoadKit.slotOf Z "java/lang/Throwable" "detailMessage" "Ljava/lang/String;" := by
  intro nd hnd
  simp only [List.mem_cons, List.not_mem_nil, or_false] at hnd
  rcases hnd with rfl | rfl | rfl | rfl | rfl
  · exact slot_ne (C := "com/example/postpone/postpone/ApiException") (Or.inl (hw _ (List.mem_of_getElem? (i := 34) rfl))) (Or.inl (hw _ (List.mem_of_getElem? (i := 64) rfl))) (by decide) (t := (.object "java/lang/Throwable")) (t' := (.object "java/lang/String")) (by decide) (by decide)
  · exact slot_ne (C := "com/example/postpone/postpone/ApiException") (Or.inl (hw _ (List.mem_of_getElem? (i := 37) rfl))) (Or.inl (hw _ (List.mem_of_getElem? (i := 64) rfl))) (by decide) (t := (.array (.object "java/lang/StackTraceElement"))) (t' := (.object "java/lang/String")) (by decide) (by decide)
  · exact slot_ne (C := "com/example/postpone/postpone/ApiException") (Or.inl (hw _ (List.mem_of_getElem? (i := 40) rfl))) (Or.inl (hw _ (List.mem_of_getElem? (i := 64) rfl))) (by decide) (t := (.object "java/util/List")) (t' := (.object "java/lang/String")) (by decide) (by decide)
  · exact slot_ne (C := "com/example/postpone/postpone/ApiException") (Or.inl (hw _ (List.mem_of_getElem? (i := 65) rfl))) (Or.inl (hw _ (List.mem_of_getElem? (i := 64) rfl))) (by decide) (t := (.object "java/lang/Object")) (t' := (.object "java/lang/String")) (by decide) (by decide)
  · exact slot_ne (C := "com/example/postpone/postpone/ApiException") (Or.inl (hw _ (List.mem_of_getElem? (i := 66) rfl))) (Or.inl (hw _ (List.mem_of_getElem? (i := 64) rfl))) (by decide) (t := .int) (t' := (.object "java/lang/String")) (by decide) (by decide)
theorem stNe {Z : State} {a0 : Array Value} (hw : ∀ d ∈ tables_1, d.before a0 Z = true) : ∀ nd ∈ [("cause", "Ljava/lang/Throwable;"), ("stackTrace", "[Ljava/lang/StackTraceElement;"), ("suppressedExceptions", "Ljava/util/List;"), ("backtrace", "Ljava/lang/Object;"), ("depth", "I")], Jvm.RoadKit.slotOf Z "java/lang/Throwable" nd.1 nd.2 ≠ Jvm.RoadKit.slotOf Z "com/example/postpone/postpone/ApiException" "status" "I" := by
  intro nd hnd
  simp only [List.mem_cons, List.not_mem_nil, or_false] at hnd
  rcases hnd with rfl | rfl | rfl | rfl | rfl
  · exact slot_ne (C := "com/example/postpone/postpone/ApiException") (Or.inl (hw _ (List.mem_of_getElem? (i := 34) rfl))) (Or.inr (hw _ (List.mem_of_getElem? (i := 70) rfl))) (by decide) (t := (.object "java/lang/Throwable")) (t' := .int) (by decide) (by decide)
  · exact slot_ne (C := "com/example/postpone/postpone/ApiException") (Or.inl (hw _ (List.mem_of_getElem? (i := 37) rfl))) (Or.inr (hw _ (List.mem_of_getElem? (i := 70) rfl))) (by decide) (t := (.array (.object "java/lang/StackTraceElement"))) (t' := .int) (by decide) (by decide)
  · exact slot_ne (C := "com/example/postpone/postpone/ApiException") (Or.inl (hw _ (List.mem_of_getElem? (i := 40) rfl))) (Or.inr (hw _ (List.mem_of_getElem? (i := 70) rfl))) (by decide) (t := (.object "java/util/List")) (t' := .int) (by decide) (by decide)
  · exact slot_ne (C := "com/example/postpone/postpone/ApiException") (Or.inl (hw _ (List.mem_of_getElem? (i := 65) rfl))) (Or.inr (hw _ (List.mem_of_getElem? (i := 70) rfl))) (by decide) (t := (.object "java/lang/Object")) (t' := .int) (by decide) (by decide)
  · exact slot_ne (C := "com/example/postpone/postpone/ApiException") (Or.inl (hw _ (List.mem_of_getElem? (i := 66) rfl))) (Or.inr (hw _ (List.mem_of_getElem? (i := 70) rfl))) (by decide) (t := .int) (t' := .int) (by decide) (by decide)
theorem wAof {Z : State} {a0 : Array Value} (hw : ∀ d ∈ tables_1, d.before a0 Z = true) : ∀ d ∈ Jvm.Free.Exc.excAtoms "com/example/postpone/postpone/ApiException", d ≠ supp0 → d.before a0 Z = true := fun d hd hn => hw d ((by decide +kernel : ∀ d ∈ Jvm.Free.Exc.excAtoms "com/example/postpone/postpone/ApiException", d ≠ supp0 → d ∈ tables_1) d hd hn)
set_option maxRecDepth 65536 in
set_option maxHeartbeats 40000000 in
theorem rm_nbl2 (l : Launch) (Z : State) (a0 : Array Value) (hw : ∀ d ∈ tables_1, d.before a0 Z = true)  (h0 : Heap) (n0 : Nat) (O0 : Old Z n0 h0)  :
    Rm l (⟨"java/lang/StringUTF16", "newBytesLength", "(I)I"⟩ : MethodName) jdk_52_method_3_code 1 (some .int) ({ frames := 0, cells := 0, slots := 0, locals := 0 } : Room) [] Z #[(.int (2 : Int32))] h0 (fun v h L => v = some (.int (4 : Int32)) ∧ Fr n0 L ∧ h = h0) := by
  refine Rm.of (plainFor_of_name pn_java_lang_StringUTF16) ?_
  intro p e s m below meth cod T X hx hZ hby hml hown hnm hret hlk eT0
  have hown : s.vm.findClass "java/lang/StringUTF16" = some m.cls := hown
  have hnm : meth.name = "newBytesLength" := hnm
  have N0 := Fr.nil n0
  refine Goes.cast (ef_25 m (2 : Int32)) ?_
  show Goes p e below _ T (mkF m 0 #[.val (.int (2 : Int32))] [])
  refine Goes.of (fun _ => XS.iloadN X.here hx rfl (hb hby d25_0) rfl) ?_
  show Goes p e below _ T (mkF m 1 #[.val (.int (2 : Int32))] [(.int (2 : Int32))])
  refine Goes.of (fun _ => XS.ifYes X.here hx rfl (pc0 := 1) (pc' := 12) rfl (hb hby d25_1) rfl ((if0 _ _).trans (flt (by decide)).2.1) (by decide) (by decide)) ?_
  show Goes p e below _ T (mkF m 12 #[.val (.int (2 : Int32))] [])
  refine Goes.of (fun _ => XS.iloadN X.here hx rfl (hb hby d25_12) rfl) ?_
  show Goes p e below _ T (mkF m 13 #[.val (.int (2 : Int32))] [(.int (2 : Int32))])
  refine Goes.of (fun _ => X.ldcInt hx hown (mvT hZ (hw _ (List.mem_of_getElem? (i := 147) rfl))) (g := (mkF m 13 #[.val (.int (2 : Int32))] [(.int (2 : Int32))])) rfl (hb hby d25_13) _) ?_
  show Goes p e below _ T (mkF m 15 #[.val (.int (2 : Int32))] [(.int (1073741823 : Int32)), (.int (2 : Int32))])
  refine Goes.of (fun _ => XS.icmpYes X.here hx rfl (pc0 := 15) (pc' := 55) rfl (hb hby d25_15) rfl (tlt (by decide)).1 (by decide) (by decide)) ?_
  show Goes p e below _ T (mkF m 55 #[.val (.int (2 : Int32))] [])
  refine Goes.of (fun _ => XS.iloadN X.here hx rfl (hb hby d25_55) rfl) ?_
  show Goes p e below _ T (mkF m 56 #[.val (.int (2 : Int32))] [(.int (2 : Int32))])
  refine Goes.of (fun _ => XS.iconst X.here hx rfl (hb hby d25_56)) ?_
  show Goes p e below _ T (mkF m 57 #[.val (.int (2 : Int32))] [(.int (1 : Int32)), (.int (2 : Int32))])
  refine Goes.of (fun _ => XS.ishl X.here hx rfl (hb hby d25_57) rfl) ?_
  show Goes p e below _ T (mkF m 58 #[.val (.int (2 : Int32))] [(.int (4 : Int32))])
  exact retInt X hx hret hlk (hb hby d25_58) eT0 (by decide) (by decide) ⟨by first | rfl | decide, N0, rfl⟩
set_option maxRecDepth 65536 in
set_option maxHeartbeats 40000000 in
theorem rm_nbf2 (l : Launch) (Z : State) (a0 : Array Value) (hw : ∀ d ∈ tables_1, d.before a0 Z = true)  (h0 : Heap) (n0 : Nat) (O0 : Old Z n0 h0)  :
    Rm l (⟨"java/lang/StringUTF16", "newBytesFor", "(I)[B"⟩ : MethodName) jdk_52_method_2_code 1 (some (.array .byte)) ({ frames := 1, cells := 1, slots := 4, locals := 12 } : Room) [] Z #[(.int (2 : Int32))] h0 (fun v h L => ∃ (b : Addr) (kb : ClassId), v = some (.ref b) ∧ Fr n0 L ∧ Keep h0 h [] ∧ n0 ≤ b ∧ h0.size ≤ b ∧ Arv Z h b kb .byte (4 : Int32) [(.int (0 : Int32)), (.int (0 : Int32)), (.int (0 : Int32)), (.int (0 : Int32))] (.int (0 : Int32))) := by
  refine Rm.of (plainFor_of_name pn_java_lang_StringUTF16) ?_
  intro p e s m below meth cod T X hx hZ hby hml hown hnm hret hlk eT0
  have hown : s.vm.findClass "java/lang/StringUTF16" = some m.cls := hown
  have hnm : meth.name = "newBytesFor" := hnm
  have N0 := Fr.nil n0
  have Kp := Keep.refl h0 []
  refine Goes.cast (ef_24 m (2 : Int32)) ?_
  show Goes p e below _ T (mkF m 0 #[.val (.int (2 : Int32))] [])
  refine Goes.of (fun _ => XS.iloadN X.here hx rfl (hb hby d24_0) rfl) ?_
  show Goes p e below _ T (mkF m 1 #[.val (.int (2 : Int32))] [(.int (2 : Int32))])
  refine goStatic 0 X hx hZ hown (hw _ (List.mem_of_getElem? (i := 144) rfl)) (hw _ (List.mem_of_getElem? (i := 145) rfl)) (hw _ (List.mem_of_getElem? (i := 97) rfl)) (hw _ (List.mem_of_getElem? (i := 146) rfl)) (by decide) (rm_nbl2 l Z a0 hw h0 n0 O0) eT0 (g := (mkF m 1 #[.val (.int (2 : Int32))] [(.int (2 : Int32))])) rfl (by rw [hml]; rfl) [(.int (2 : Int32))] [] (lenOf pd__I_I rfl) rfl rfl (by show 2 * 0 + _ ≤ _; exact Nat.le_of_eq rfl) (hb hby d24_1) (by decide) (by decide) (by decide) (by decide) ?_
  intro v1 T1 L1 X1 q1
  obtain ⟨rfl, Nq1, eT1⟩ := q1
  have N1 := Fr.app N0 Nq1
  show Goes p e below _ T1 (mkF m 4 #[.val (.int (2 : Int32))] [(.int (4 : Int32))])
  refine goNewP 4 X1 hx hZ (hw _ (List.mem_of_getElem? (i := 99) rfl)) eT1 (g := (mkF m 4 #[.val (.int (2 : Int32))] [(.int (4 : Int32))])) rfl (hb hby d24_4) rfl (by decide) (by decide) (by decide) (by decide) (by decide) (ad := "[B") (by first | rfl | decide) ?_
  intro T2 h2 b2 kA2 X2 eT2 E2 hb2 V2 A2
  have g_b2 : n0 ≤ b2 := Nat.le_trans (oldLe O0) hb2
  have sz_b2 : h0.size ≤ b2 := Nat.le_trans Kp.1 hb2
  have Kp := Kp.ext E2
  have O0 := O0.ext E2
  have V2 : Arv Z h2 b2 kA2 .byte (4 : Int32) [(.int (0 : Int32)), (.int (0 : Int32)), (.int (0 : Int32)), (.int (0 : Int32))] (.int (0 : Int32)) := V2
  show Goes p e below _ T2 (mkF m 6 #[.val (.int (2 : Int32))] [(.ref b2)])
  exact retRef X2 hx hret hlk rfl rfl (hb hby d24_6) eT2 (by decide) (by decide) ⟨b2, _, rfl, N1, Kp, g_b2, sz_b2, V2⟩
set_option maxRecDepth 65536 in
set_option maxHeartbeats 40000000 in
theorem rm_nbl3 (l : Launch) (Z : State) (a0 : Array Value) (hw : ∀ d ∈ tables_1, d.before a0 Z = true)  (h0 : Heap) (n0 : Nat) (O0 : Old Z n0 h0)  :
    Rm l (⟨"java/lang/StringUTF16", "newBytesLength", "(I)I"⟩ : MethodName) jdk_52_method_3_code 1 (some .int) ({ frames := 0, cells := 0, slots := 0, locals := 0 } : Room) [] Z #[(.int (3 : Int32))] h0 (fun v h L => v = some (.int (6 : Int32)) ∧ Fr n0 L ∧ h = h0) := by
  refine Rm.of (plainFor_of_name pn_java_lang_StringUTF16) ?_
  intro p e s m below meth cod T X hx hZ hby hml hown hnm hret hlk eT0
  have hown : s.vm.findClass "java/lang/StringUTF16" = some m.cls := hown
  have hnm : meth.name = "newBytesLength" := hnm
  have N0 := Fr.nil n0
  refine Goes.cast (ef_25 m (3 : Int32)) ?_
  show Goes p e below _ T (mkF m 0 #[.val (.int (3 : Int32))] [])
  refine Goes.of (fun _ => XS.iloadN X.here hx rfl (hb hby d25_0) rfl) ?_
  show Goes p e below _ T (mkF m 1 #[.val (.int (3 : Int32))] [(.int (3 : Int32))])
  refine Goes.of (fun _ => XS.ifYes X.here hx rfl (pc0 := 1) (pc' := 12) rfl (hb hby d25_1) rfl ((if0 _ _).trans (flt (by decide)).2.1) (by decide) (by decide)) ?_
  show Goes p e below _ T (mkF m 12 #[.val (.int (3 : Int32))] [])
  refine Goes.of (fun _ => XS.iloadN X.here hx rfl (hb hby d25_12) rfl) ?_
  show Goes p e below _ T (mkF m 13 #[.val (.int (3 : Int32))] [(.int (3 : Int32))])
  refine Goes.of (fun _ => X.ldcInt hx hown (mvT hZ (hw _ (List.mem_of_getElem? (i := 147) rfl))) (g := (mkF m 13 #[.val (.int (3 : Int32))] [(.int (3 : Int32))])) rfl (hb hby d25_13) _) ?_
  show Goes p e below _ T (mkF m 15 #[.val (.int (3 : Int32))] [(.int (1073741823 : Int32)), (.int (3 : Int32))])
  refine Goes.of (fun _ => XS.icmpYes X.here hx rfl (pc0 := 15) (pc' := 55) rfl (hb hby d25_15) rfl (tlt (by decide)).1 (by decide) (by decide)) ?_
  show Goes p e below _ T (mkF m 55 #[.val (.int (3 : Int32))] [])
  refine Goes.of (fun _ => XS.iloadN X.here hx rfl (hb hby d25_55) rfl) ?_
  show Goes p e below _ T (mkF m 56 #[.val (.int (3 : Int32))] [(.int (3 : Int32))])
  refine Goes.of (fun _ => XS.iconst X.here hx rfl (hb hby d25_56)) ?_
  show Goes p e below _ T (mkF m 57 #[.val (.int (3 : Int32))] [(.int (1 : Int32)), (.int (3 : Int32))])
  refine Goes.of (fun _ => XS.ishl X.here hx rfl (hb hby d25_57) rfl) ?_
  show Goes p e below _ T (mkF m 58 #[.val (.int (3 : Int32))] [(.int (6 : Int32))])
  exact retInt X hx hret hlk (hb hby d25_58) eT0 (by decide) (by decide) ⟨by first | rfl | decide, N0, rfl⟩
set_option maxRecDepth 65536 in
set_option maxHeartbeats 40000000 in
theorem rm_nbf3 (l : Launch) (Z : State) (a0 : Array Value) (hw : ∀ d ∈ tables_1, d.before a0 Z = true)  (h0 : Heap) (n0 : Nat) (O0 : Old Z n0 h0)  :
    Rm l (⟨"java/lang/StringUTF16", "newBytesFor", "(I)[B"⟩ : MethodName) jdk_52_method_2_code 1 (some (.array .byte)) ({ frames := 1, cells := 1, slots := 6, locals := 12 } : Room) [] Z #[(.int (3 : Int32))] h0 (fun v h L => ∃ (b : Addr) (kb : ClassId), v = some (.ref b) ∧ Fr n0 L ∧ Keep h0 h [] ∧ n0 ≤ b ∧ h0.size ≤ b ∧ Arv Z h b kb .byte (6 : Int32) [(.int (0 : Int32)), (.int (0 : Int32)), (.int (0 : Int32)), (.int (0 : Int32)), (.int (0 : Int32)), (.int (0 : Int32))] (.int (0 : Int32))) := by
  refine Rm.of (plainFor_of_name pn_java_lang_StringUTF16) ?_
  intro p e s m below meth cod T X hx hZ hby hml hown hnm hret hlk eT0
  have hown : s.vm.findClass "java/lang/StringUTF16" = some m.cls := hown
  have hnm : meth.name = "newBytesFor" := hnm
  have N0 := Fr.nil n0
  have Kp := Keep.refl h0 []
  refine Goes.cast (ef_24 m (3 : Int32)) ?_
  show Goes p e below _ T (mkF m 0 #[.val (.int (3 : Int32))] [])
  refine Goes.of (fun _ => XS.iloadN X.here hx rfl (hb hby d24_0) rfl) ?_
  show Goes p e below _ T (mkF m 1 #[.val (.int (3 : Int32))] [(.int (3 : Int32))])
  refine goStatic 0 X hx hZ hown (hw _ (List.mem_of_getElem? (i := 144) rfl)) (hw _ (List.mem_of_getElem? (i := 145) rfl)) (hw _ (List.mem_of_getElem? (i := 97) rfl)) (hw _ (List.mem_of_getElem? (i := 146) rfl)) (by decide) (rm_nbl3 l Z a0 hw h0 n0 O0) eT0 (g := (mkF m 1 #[.val (.int (3 : Int32))] [(.int (3 : Int32))])) rfl (by rw [hml]; rfl) [(.int (3 : Int32))] [] (lenOf pd__I_I rfl) rfl rfl (by show 2 * 0 + _ ≤ _; exact Nat.le_of_eq rfl) (hb hby d24_1) (by decide) (by decide) (by decide) (by decide) ?_
  intro v1 T1 L1 X1 q1
  obtain ⟨rfl, Nq1, eT1⟩ := q1
  have N1 := Fr.app N0 Nq1
  show Goes p e below _ T1 (mkF m 4 #[.val (.int (3 : Int32))] [(.int (6 : Int32))])
  refine goNewP 6 X1 hx hZ (hw _ (List.mem_of_getElem? (i := 99) rfl)) eT1 (g := (mkF m 4 #[.val (.int (3 : Int32))] [(.int (6 : Int32))])) rfl (hb hby d24_4) rfl (by decide) (by decide) (by decide) (by decide) (by decide) (ad := "[B") (by first | rfl | decide) ?_
  intro T2 h2 b2 kA2 X2 eT2 E2 hb2 V2 A2
  have g_b2 : n0 ≤ b2 := Nat.le_trans (oldLe O0) hb2
  have sz_b2 : h0.size ≤ b2 := Nat.le_trans Kp.1 hb2
  have Kp := Kp.ext E2
  have O0 := O0.ext E2
  have V2 : Arv Z h2 b2 kA2 .byte (6 : Int32) [(.int (0 : Int32)), (.int (0 : Int32)), (.int (0 : Int32)), (.int (0 : Int32)), (.int (0 : Int32)), (.int (0 : Int32))] (.int (0 : Int32)) := V2
  show Goes p e below _ T2 (mkF m 6 #[.val (.int (3 : Int32))] [(.ref b2)])
  exact retRef X2 hx hret hlk rfl rfl (hb hby d24_6) eT2 (by decide) (by decide) ⟨b2, _, rfl, N1, Kp, g_b2, sz_b2, V2⟩
set_option maxRecDepth 65536 in
set_option maxHeartbeats 40000000 in
theorem rm_put2_0 (l : Launch) (Z : State) (a0 : Array Value) (hw : ∀ d ∈ tables_1, d.before a0 Z = true) (b : Addr) (kb : ClassId) (x0 x1 c : Int32) (h0 : Heap) (n0 : Nat) (O0 : Old Z n0 h0) (Sa : Sta Z Z.heap "java/lang/StringUTF16" "$assertionsDisabled" "Z" (.int (1 : Int32))) (Sh : Sta Z Z.heap "java/lang/StringUTF16" "HI_BYTE_SHIFT" "I" (.int (0 : Int32))) (Sl : Sta Z Z.heap "java/lang/StringUTF16" "LO_BYTE_SHIFT" "I" (.int (8 : Int32))) (g_b : n0 ≤ b) (Vb : Arv Z h0 b kb .byte (2 : Int32) [(.int x0), (.int x1)] (.int (0 : Int32))) :
    Rm l (⟨"java/lang/StringUTF16", "putChar", "([BII)V"⟩ : MethodName) jdk_52_method_4_code 3 none ({ frames := 0, cells := 0, slots := 0, locals := 0 } : Room) [] Z #[(.ref b), (.int (0 : Int32)), (.int c)] h0 (fun v h L => v = none ∧ Fr n0 L ∧ Keep h0 h [b] ∧ Arv Z h b kb .byte (2 : Int32) [(.int (nar .byte ((c >>> ((0 : Int32) &&& 31)).toInt8.toInt32))), (.int (nar .byte ((c >>> ((8 : Int32) &&& 31)).toInt8.toInt32)))] (.int (0 : Int32))) := by
  refine Rm.of (plainFor_of_name pn_java_lang_StringUTF16) ?_
  intro p e s m below meth cod T X hx hZ hby hml hown hnm hret hlk eT0
  have hown : s.vm.findClass "java/lang/StringUTF16" = some m.cls := hown
  have hnm : meth.name = "putChar" := hnm
  have N0 := Fr.nil n0
  have Kp := Keep.refl h0 [b]
  refine Goes.cast (ef_21 m b (0 : Int32) c) ?_
  show Goes p e below _ T (mkF m 0 #[.val (.ref b), .val (.int (0 : Int32)), .val (.int c)] [])
  refine goGetS X hx hZ hown (host := "") (Or.inl (hw _ (List.mem_of_getElem? (i := 129) rfl))) Via.refl eT0 (Sa.ext O0.2) (g := (mkF m 0 #[.val (.ref b), .val (.int (0 : Int32)), .val (.int c)] [])) rfl (hb hby d21_0) ?_
  intro T1 X1 eT1
  show Goes p e below _ T1 (mkF m 3 #[.val (.ref b), .val (.int (0 : Int32)), .val (.int c)] [(.int (1 : Int32))])
  refine Goes.of (fun _ => XS.ifYes X1.here hx rfl (pc0 := 3) (pc' := 28) rfl (hb hby d21_3) rfl ((if0 _ _).trans (feq (by decide)).2) (by decide) (by decide)) ?_
  show Goes p e below _ T1 (mkF m 28 #[.val (.ref b), .val (.int (0 : Int32)), .val (.int c)] [])
  refine Goes.of (fun _ => XS.iloadN X1.here hx rfl (hb hby d21_28) rfl) ?_
  show Goes p e below _ T1 (mkF m 29 #[.val (.ref b), .val (.int (0 : Int32)), .val (.int c)] [(.int (0 : Int32))])
  refine Goes.of (fun _ => XS.iconst X1.here hx rfl (hb hby d21_29)) ?_
  show Goes p e below _ T1 (mkF m 30 #[.val (.ref b), .val (.int (0 : Int32)), .val (.int c)] [(.int (1 : Int32)), (.int (0 : Int32))])
  refine Goes.of (fun _ => XS.ishl X1.here hx rfl (hb hby d21_30) rfl) ?_
  show Goes p e below _ T1 (mkF m 31 #[.val (.ref b), .val (.int (0 : Int32)), .val (.int c)] [(.int (0 : Int32))])
  refine Goes.of (fun _ => XS.istoreN X1.here hx rfl (hb hby d21_31) rfl (l' := #[.val (.ref b), .val (.int (0 : Int32)), .val (.int c)]) rfl) ?_
  show Goes p e below _ T1 (mkF m 32 #[.val (.ref b), .val (.int (0 : Int32)), .val (.int c)] [])
  refine Goes.of (fun _ => XS.aloadN X1.here hx rfl (hb hby d21_32) rfl rfl) ?_
  show Goes p e below _ T1 (mkF m 33 #[.val (.ref b), .val (.int (0 : Int32)), .val (.int c)] [(.ref b)])
  refine Goes.of (fun _ => XS.iloadN X1.here hx rfl (hb hby d21_33) rfl) ?_
  show Goes p e below _ T1 (mkF m 34 #[.val (.ref b), .val (.int (0 : Int32)), .val (.int c)] [(.int (0 : Int32)), (.ref b)])
  refine Goes.of (fun _ => XS.iinc X1.here hx rfl (hb hby d21_34) rfl (l' := #[.val (.ref b), .val (.int (1 : Int32)), .val (.int c)]) rfl) ?_
  show Goes p e below _ T1 (mkF m 37 #[.val (.ref b), .val (.int (1 : Int32)), .val (.int c)] [(.int (0 : Int32)), (.ref b)])
  refine Goes.of (fun _ => XS.iloadN X1.here hx rfl (hb hby d21_37) rfl) ?_
  show Goes p e below _ T1 (mkF m 38 #[.val (.ref b), .val (.int (1 : Int32)), .val (.int c)] [(.int c), (.int (0 : Int32)), (.ref b)])
  refine goGetS X1 hx hZ hown (host := "") (Or.inl (hw _ (List.mem_of_getElem? (i := 130) rfl))) Via.refl eT1 (Sh.ext O0.2) (g := (mkF m 38 #[.val (.ref b), .val (.int (1 : Int32)), .val (.int c)] [(.int c), (.int (0 : Int32)), (.ref b)])) rfl (hb hby d21_38) ?_
  intro T2 X2 eT2
  show Goes p e below _ T2 (mkF m 41 #[.val (.ref b), .val (.int (1 : Int32)), .val (.int c)] [(.int (0 : Int32)), (.int c), (.int (0 : Int32)), (.ref b)])
  refine Goes.of (fun _ => XS.ishr X2.here hx rfl (hb hby d21_41) rfl) ?_
  show Goes p e below _ T2 (mkF m 42 #[.val (.ref b), .val (.int (1 : Int32)), .val (.int c)] [(.int (c >>> ((0 : Int32) &&& 31))), (.int (0 : Int32)), (.ref b)])
  refine Goes.of (fun _ => XS.i2b X2.here hx rfl (hb hby d21_42) rfl) ?_
  show Goes p e below _ T2 (mkF m 43 #[.val (.ref b), .val (.int (1 : Int32)), .val (.int c)] [(.int ((c >>> ((0 : Int32) &&& 31)).toInt8.toInt32)), (.int (0 : Int32)), (.ref b)])
  refine goStB 0 X2 hx hZ eT2 Vb (by decide) (by decide) rfl (Nat.lt_of_lt_of_le (Nat.lt_succ_self _) (Nat.le_of_ble_eq_true rfl)) (g := (mkF m 43 #[.val (.ref b), .val (.int (1 : Int32)), .val (.int c)] [(.int ((c >>> ((0 : Int32) &&& 31)).toInt8.toInt32)), (.int (0 : Int32)), (.ref b)])) rfl rfl (hb hby d21_43) ?_
  intro T3 h3 X3 eT3 W3 Vb
  have N3 := Fr.snoc X3 N0 g_b
  have Kp := Kp.wr W3 (Or.inl (List.mem_of_getElem? (i := 0) rfl))
  have O0 := O0.wr W3 g_b
  have Vb : Arv Z h3 b kb .byte (2 : Int32) [(.int (nar .byte ((c >>> ((0 : Int32) &&& 31)).toInt8.toInt32))), (.int x1)] (.int (0 : Int32)) := Vb
  show Goes p e below _ T3 (mkF m 44 #[.val (.ref b), .val (.int (1 : Int32)), .val (.int c)] [])
  refine Goes.of (fun _ => XS.aloadN X3.here hx rfl (hb hby d21_44) rfl rfl) ?_
  show Goes p e below _ T3 (mkF m 45 #[.val (.ref b), .val (.int (1 : Int32)), .val (.int c)] [(.ref b)])
  refine Goes.of (fun _ => XS.iloadN X3.here hx rfl (hb hby d21_45) rfl) ?_
  show Goes p e below _ T3 (mkF m 46 #[.val (.ref b), .val (.int (1 : Int32)), .val (.int c)] [(.int (1 : Int32)), (.ref b)])
  refine Goes.of (fun _ => XS.iloadN X3.here hx rfl (hb hby d21_46) rfl) ?_
  show Goes p e below _ T3 (mkF m 47 #[.val (.ref b), .val (.int (1 : Int32)), .val (.int c)] [(.int c), (.int (1 : Int32)), (.ref b)])
  refine goGetS X3 hx hZ hown (host := "") (Or.inl (hw _ (List.mem_of_getElem? (i := 131) rfl))) Via.refl eT3 (Sl.ext O0.2) (g := (mkF m 47 #[.val (.ref b), .val (.int (1 : Int32)), .val (.int c)] [(.int c), (.int (1 : Int32)), (.ref b)])) rfl (hb hby d21_47) ?_
  intro T4 X4 eT4
  show Goes p e below _ T4 (mkF m 50 #[.val (.ref b), .val (.int (1 : Int32)), .val (.int c)] [(.int (8 : Int32)), (.int c), (.int (1 : Int32)), (.ref b)])
  refine Goes.of (fun _ => XS.ishr X4.here hx rfl (hb hby d21_50) rfl) ?_
  show Goes p e below _ T4 (mkF m 51 #[.val (.ref b), .val (.int (1 : Int32)), .val (.int c)] [(.int (c >>> ((8 : Int32) &&& 31))), (.int (1 : Int32)), (.ref b)])
  refine Goes.of (fun _ => XS.i2b X4.here hx rfl (hb hby d21_51) rfl) ?_
  show Goes p e below _ T4 (mkF m 52 #[.val (.ref b), .val (.int (1 : Int32)), .val (.int c)] [(.int ((c >>> ((8 : Int32) &&& 31)).toInt8.toInt32)), (.int (1 : Int32)), (.ref b)])
  refine goStB 1 X4 hx hZ eT4 Vb (by decide) (by decide) rfl (Nat.lt_of_lt_of_le (Nat.lt_succ_self _) (Nat.le_of_ble_eq_true rfl)) (g := (mkF m 52 #[.val (.ref b), .val (.int (1 : Int32)), .val (.int c)] [(.int ((c >>> ((8 : Int32) &&& 31)).toInt8.toInt32)), (.int (1 : Int32)), (.ref b)])) rfl rfl (hb hby d21_52) ?_
  intro T5 h5 X5 eT5 W5 Vb
  have N5 := Fr.snoc X5 N3 g_b
  have Kp := Kp.wr W5 (Or.inl (List.mem_of_getElem? (i := 0) rfl))
  have O0 := O0.wr W5 g_b
  have Vb : Arv Z h5 b kb .byte (2 : Int32) [(.int (nar .byte ((c >>> ((0 : Int32) &&& 31)).toInt8.toInt32))), (.int (nar .byte ((c >>> ((8 : Int32) &&& 31)).toInt8.toInt32)))] (.int (0 : Int32)) := Vb
  show Goes p e below _ T5 (mkF m 53 #[.val (.ref b), .val (.int (1 : Int32)), .val (.int c)] [])
  exact retVoid X5 hx hret hlk (hb hby d21_53) eT5 (by decide) (by decide) ⟨rfl, N5, Kp, Vb⟩
set_option maxRecDepth 65536 in
set_option maxHeartbeats 40000000 in
theorem rm_put4_0 (l : Launch) (Z : State) (a0 : Array Value) (hw : ∀ d ∈ tables_1, d.before a0 Z = true) (b : Addr) (kb : ClassId) (x0 x1 x2 x3 c : Int32) (h0 : Heap) (n0 : Nat) (O0 : Old Z n0 h0) (Sa : Sta Z Z.heap "java/lang/StringUTF16" "$assertionsDisabled" "Z" (.int (1 : Int32))) (Sh : Sta Z Z.heap "java/lang/StringUTF16" "HI_BYTE_SHIFT" "I" (.int (0 : Int32))) (Sl : Sta Z Z.heap "java/lang/StringUTF16" "LO_BYTE_SHIFT" "I" (.int (8 : Int32))) (g_b : n0 ≤ b) (Vb : Arv Z h0 b kb .byte (4 : Int32) [(.int x0), (.int x1), (.int x2), (.int x3)] (.int (0 : Int32))) :
    Rm l (⟨"java/lang/StringUTF16", "putChar", "([BII)V"⟩ : MethodName) jdk_52_method_4_code 3 none ({ frames := 0, cells := 0, slots := 0, locals := 0 } : Room) [] Z #[(.ref b), (.int (0 : Int32)), (.int c)] h0 (fun v h L => v = none ∧ Fr n0 L ∧ Keep h0 h [b] ∧ Arv Z h b kb .byte (4 : Int32) [(.int (nar .byte ((c >>> ((0 : Int32) &&& 31)).toInt8.toInt32))), (.int (nar .byte ((c >>> ((8 : Int32) &&& 31)).toInt8.toInt32))), (.int x2), (.int x3)] (.int (0 : Int32))) := by
  refine Rm.of (plainFor_of_name pn_java_lang_StringUTF16) ?_
  intro p e s m below meth cod T X hx hZ hby hml hown hnm hret hlk eT0
  have hown : s.vm.findClass "java/lang/StringUTF16" = some m.cls := hown
  have hnm : meth.name = "putChar" := hnm
  have N0 := Fr.nil n0
  have Kp := Keep.refl h0 [b]
  refine Goes.cast (ef_21 m b (0 : Int32) c) ?_
  show Goes p e below _ T (mkF m 0 #[.val (.ref b), .val (.int (0 : Int32)), .val (.int c)] [])
  refine goGetS X hx hZ hown (host := "") (Or.inl (hw _ (List.mem_of_getElem? (i := 129) rfl))) Via.refl eT0 (Sa.ext O0.2) (g := (mkF m 0 #[.val (.ref b), .val (.int (0 : Int32)), .val (.int c)] [])) rfl (hb hby d21_0) ?_
  intro T1 X1 eT1
  show Goes p e below _ T1 (mkF m 3 #[.val (.ref b), .val (.int (0 : Int32)), .val (.int c)] [(.int (1 : Int32))])
  refine Goes.of (fun _ => XS.ifYes X1.here hx rfl (pc0 := 3) (pc' := 28) rfl (hb hby d21_3) rfl ((if0 _ _).trans (feq (by decide)).2) (by decide) (by decide)) ?_
  show Goes p e below _ T1 (mkF m 28 #[.val (.ref b), .val (.int (0 : Int32)), .val (.int c)] [])
  refine Goes.of (fun _ => XS.iloadN X1.here hx rfl (hb hby d21_28) rfl) ?_
  show Goes p e below _ T1 (mkF m 29 #[.val (.ref b), .val (.int (0 : Int32)), .val (.int c)] [(.int (0 : Int32))])
  refine Goes.of (fun _ => XS.iconst X1.here hx rfl (hb hby d21_29)) ?_
  show Goes p e below _ T1 (mkF m 30 #[.val (.ref b), .val (.int (0 : Int32)), .val (.int c)] [(.int (1 : Int32)), (.int (0 : Int32))])
  refine Goes.of (fun _ => XS.ishl X1.here hx rfl (hb hby d21_30) rfl) ?_
  show Goes p e below _ T1 (mkF m 31 #[.val (.ref b), .val (.int (0 : Int32)), .val (.int c)] [(.int (0 : Int32))])
  refine Goes.of (fun _ => XS.istoreN X1.here hx rfl (hb hby d21_31) rfl (l' := #[.val (.ref b), .val (.int (0 : Int32)), .val (.int c)]) rfl) ?_
  show Goes p e below _ T1 (mkF m 32 #[.val (.ref b), .val (.int (0 : Int32)), .val (.int c)] [])
  refine Goes.of (fun _ => XS.aloadN X1.here hx rfl (hb hby d21_32) rfl rfl) ?_
  show Goes p e below _ T1 (mkF m 33 #[.val (.ref b), .val (.int (0 : Int32)), .val (.int c)] [(.ref b)])
  refine Goes.of (fun _ => XS.iloadN X1.here hx rfl (hb hby d21_33) rfl) ?_
  show Goes p e below _ T1 (mkF m 34 #[.val (.ref b), .val (.int (0 : Int32)), .val (.int c)] [(.int (0 : Int32)), (.ref b)])
  refine Goes.of (fun _ => XS.iinc X1.here hx rfl (hb hby d21_34) rfl (l' := #[.val (.ref b), .val (.int (1 : Int32)), .val (.int c)]) rfl) ?_
  show Goes p e below _ T1 (mkF m 37 #[.val (.ref b), .val (.int (1 : Int32)), .val (.int c)] [(.int (0 : Int32)), (.ref b)])
  refine Goes.of (fun _ => XS.iloadN X1.here hx rfl (hb hby d21_37) rfl) ?_
  show Goes p e below _ T1 (mkF m 38 #[.val (.ref b), .val (.int (1 : Int32)), .val (.int c)] [(.int c), (.int (0 : Int32)), (.ref b)])
  refine goGetS X1 hx hZ hown (host := "") (Or.inl (hw _ (List.mem_of_getElem? (i := 130) rfl))) Via.refl eT1 (Sh.ext O0.2) (g := (mkF m 38 #[.val (.ref b), .val (.int (1 : Int32)), .val (.int c)] [(.int c), (.int (0 : Int32)), (.ref b)])) rfl (hb hby d21_38) ?_
  intro T2 X2 eT2
  show Goes p e below _ T2 (mkF m 41 #[.val (.ref b), .val (.int (1 : Int32)), .val (.int c)] [(.int (0 : Int32)), (.int c), (.int (0 : Int32)), (.ref b)])
  refine Goes.of (fun _ => XS.ishr X2.here hx rfl (hb hby d21_41) rfl) ?_
  show Goes p e below _ T2 (mkF m 42 #[.val (.ref b), .val (.int (1 : Int32)), .val (.int c)] [(.int (c >>> ((0 : Int32) &&& 31))), (.int (0 : Int32)), (.ref b)])
  refine Goes.of (fun _ => XS.i2b X2.here hx rfl (hb hby d21_42) rfl) ?_
  show Goes p e below _ T2 (mkF m 43 #[.val (.ref b), .val (.int (1 : Int32)), .val (.int c)] [(.int ((c >>> ((0 : Int32) &&& 31)).toInt8.toInt32)), (.int (0 : Int32)), (.ref b)])
  refine goStB 0 X2 hx hZ eT2 Vb (by decide) (by decide) rfl (Nat.lt_of_lt_of_le (Nat.lt_succ_self _) (Nat.le_of_ble_eq_true rfl)) (g := (mkF m 43 #[.val (.ref b), .val (.int (1 : Int32)), .val (.int c)] [(.int ((c >>> ((0 : Int32) &&& 31)).toInt8.toInt32)), (.int (0 : Int32)), (.ref b)])) rfl rfl (hb hby d21_43) ?_
  intro T3 h3 X3 eT3 W3 Vb
  have N3 := Fr.snoc X3 N0 g_b
  have Kp := Kp.wr W3 (Or.inl (List.mem_of_getElem? (i := 0) rfl))
  have O0 := O0.wr W3 g_b
  have Vb : Arv Z h3 b kb .byte (4 : Int32) [(.int (nar .byte ((c >>> ((0 : Int32) &&& 31)).toInt8.toInt32))), (.int x1), (.int x2), (.int x3)] (.int (0 : Int32)) := Vb
  show Goes p e below _ T3 (mkF m 44 #[.val (.ref b), .val (.int (1 : Int32)), .val (.int c)] [])
  refine Goes.of (fun _ => XS.aloadN X3.here hx rfl (hb hby d21_44) rfl rfl) ?_
  show Goes p e below _ T3 (mkF m 45 #[.val (.ref b), .val (.int (1 : Int32)), .val (.int c)] [(.ref b)])
  refine Goes.of (fun _ => XS.iloadN X3.here hx rfl (hb hby d21_45) rfl) ?_
  show Goes p e below _ T3 (mkF m 46 #[.val (.ref b), .val (.int (1 : Int32)), .val (.int c)] [(.int (1 : Int32)), (.ref b)])
  refine Goes.of (fun _ => XS.iloadN X3.here hx rfl (hb hby d21_46) rfl) ?_
  show Goes p e below _ T3 (mkF m 47 #[.val (.ref b), .val (.int (1 : Int32)), .val (.int c)] [(.int c), (.int (1 : Int32)), (.ref b)])
  refine goGetS X3 hx hZ hown (host := "") (Or.inl (hw _ (List.mem_of_getElem? (i := 131) rfl))) Via.refl eT3 (Sl.ext O0.2) (g := (mkF m 47 #[.val (.ref b), .val (.int (1 : Int32)), .val (.int c)] [(.int c), (.int (1 : Int32)), (.ref b)])) rfl (hb hby d21_47) ?_
  intro T4 X4 eT4
  show Goes p e below _ T4 (mkF m 50 #[.val (.ref b), .val (.int (1 : Int32)), .val (.int c)] [(.int (8 : Int32)), (.int c), (.int (1 : Int32)), (.ref b)])
  refine Goes.of (fun _ => XS.ishr X4.here hx rfl (hb hby d21_50) rfl) ?_
  show Goes p e below _ T4 (mkF m 51 #[.val (.ref b), .val (.int (1 : Int32)), .val (.int c)] [(.int (c >>> ((8 : Int32) &&& 31))), (.int (1 : Int32)), (.ref b)])
  refine Goes.of (fun _ => XS.i2b X4.here hx rfl (hb hby d21_51) rfl) ?_
  show Goes p e below _ T4 (mkF m 52 #[.val (.ref b), .val (.int (1 : Int32)), .val (.int c)] [(.int ((c >>> ((8 : Int32) &&& 31)).toInt8.toInt32)), (.int (1 : Int32)), (.ref b)])
  refine goStB 1 X4 hx hZ eT4 Vb (by decide) (by decide) rfl (Nat.lt_of_lt_of_le (Nat.lt_succ_self _) (Nat.le_of_ble_eq_true rfl)) (g := (mkF m 52 #[.val (.ref b), .val (.int (1 : Int32)), .val (.int c)] [(.int ((c >>> ((8 : Int32) &&& 31)).toInt8.toInt32)), (.int (1 : Int32)), (.ref b)])) rfl rfl (hb hby d21_52) ?_
  intro T5 h5 X5 eT5 W5 Vb
  have N5 := Fr.snoc X5 N3 g_b
  have Kp := Kp.wr W5 (Or.inl (List.mem_of_getElem? (i := 0) rfl))
  have O0 := O0.wr W5 g_b
  have Vb : Arv Z h5 b kb .byte (4 : Int32) [(.int (nar .byte ((c >>> ((0 : Int32) &&& 31)).toInt8.toInt32))), (.int (nar .byte ((c >>> ((8 : Int32) &&& 31)).toInt8.toInt32))), (.int x2), (.int x3)] (.int (0 : Int32)) := Vb
  show Goes p e below _ T5 (mkF m 53 #[.val (.ref b), .val (.int (1 : Int32)), .val (.int c)] [])
  exact retVoid X5 hx hret hlk (hb hby d21_53) eT5 (by decide) (by decide) ⟨rfl, N5, Kp, Vb⟩
set_option maxRecDepth 65536 in
set_option maxHeartbeats 40000000 in
theorem rm_put4_1 (l : Launch) (Z : State) (a0 : Array Value) (hw : ∀ d ∈ tables_1, d.before a0 Z = true) (b : Addr) (kb : ClassId) (x0 x1 x2 x3 c : Int32) (h0 : Heap) (n0 : Nat) (O0 : Old Z n0 h0) (Sa : Sta Z Z.heap "java/lang/StringUTF16" "$assertionsDisabled" "Z" (.int (1 : Int32))) (Sh : Sta Z Z.heap "java/lang/StringUTF16" "HI_BYTE_SHIFT" "I" (.int (0 : Int32))) (Sl : Sta Z Z.heap "java/lang/StringUTF16" "LO_BYTE_SHIFT" "I" (.int (8 : Int32))) (g_b : n0 ≤ b) (Vb : Arv Z h0 b kb .byte (4 : Int32) [(.int x0), (.int x1), (.int x2), (.int x3)] (.int (0 : Int32))) :
    Rm l (⟨"java/lang/StringUTF16", "putChar", "([BII)V"⟩ : MethodName) jdk_52_method_4_code 3 none ({ frames := 0, cells := 0, slots := 0, locals := 0 } : Room) [] Z #[(.ref b), (.int (1 : Int32)), (.int c)] h0 (fun v h L => v = none ∧ Fr n0 L ∧ Keep h0 h [b] ∧ Arv Z h b kb .byte (4 : Int32) [(.int x0), (.int x1), (.int (nar .byte ((c >>> ((0 : Int32) &&& 31)).toInt8.toInt32))), (.int (nar .byte ((c >>> ((8 : Int32) &&& 31)).toInt8.toInt32)))] (.int (0 : Int32))) := by
  refine Rm.of (plainFor_of_name pn_java_lang_StringUTF16) ?_
  intro p e s m below meth cod T X hx hZ hby hml hown hnm hret hlk eT0
  have hown : s.vm.findClass "java/lang/StringUTF16" = some m.cls := hown
  have hnm : meth.name = "putChar" := hnm
  have N0 := Fr.nil n0
  have Kp := Keep.refl h0 [b]
  refine Goes.cast (ef_21 m b (1 : Int32) c) ?_
  show Goes p e below _ T (mkF m 0 #[.val (.ref b), .val (.int (1 : Int32)), .val (.int c)] [])
  refine goGetS X hx hZ hown (host := "") (Or.inl (hw _ (List.mem_of_getElem? (i := 129) rfl))) Via.refl eT0 (Sa.ext O0.2) (g := (mkF m 0 #[.val (.ref b), .val (.int (1 : Int32)), .val (.int c)] [])) rfl (hb hby d21_0) ?_
  intro T1 X1 eT1
  show Goes p e below _ T1 (mkF m 3 #[.val (.ref b), .val (.int (1 : Int32)), .val (.int c)] [(.int (1 : Int32))])
  refine Goes.of (fun _ => XS.ifYes X1.here hx rfl (pc0 := 3) (pc' := 28) rfl (hb hby d21_3) rfl ((if0 _ _).trans (feq (by decide)).2) (by decide) (by decide)) ?_
  show Goes p e below _ T1 (mkF m 28 #[.val (.ref b), .val (.int (1 : Int32)), .val (.int c)] [])
  refine Goes.of (fun _ => XS.iloadN X1.here hx rfl (hb hby d21_28) rfl) ?_
  show Goes p e below _ T1 (mkF m 29 #[.val (.ref b), .val (.int (1 : Int32)), .val (.int c)] [(.int (1 : Int32))])
  refine Goes.of (fun _ => XS.iconst X1.here hx rfl (hb hby d21_29)) ?_
  show Goes p e below _ T1 (mkF m 30 #[.val (.ref b), .val (.int (1 : Int32)), .val (.int c)] [(.int (1 : Int32)), (.int (1 : Int32))])
  refine Goes.of (fun _ => XS.ishl X1.here hx rfl (hb hby d21_30) rfl) ?_
  show Goes p e below _ T1 (mkF m 31 #[.val (.ref b), .val (.int (1 : Int32)), .val (.int c)] [(.int (2 : Int32))])
  refine Goes.of (fun _ => XS.istoreN X1.here hx rfl (hb hby d21_31) rfl (l' := #[.val (.ref b), .val (.int (2 : Int32)), .val (.int c)]) rfl) ?_
  show Goes p e below _ T1 (mkF m 32 #[.val (.ref b), .val (.int (2 : Int32)), .val (.int c)] [])
  refine Goes.of (fun _ => XS.aloadN X1.here hx rfl (hb hby d21_32) rfl rfl) ?_
  show Goes p e below _ T1 (mkF m 33 #[.val (.ref b), .val (.int (2 : Int32)), .val (.int c)] [(.ref b)])
  refine Goes.of (fun _ => XS.iloadN X1.here hx rfl (hb hby d21_33) rfl) ?_
  show Goes p e below _ T1 (mkF m 34 #[.val (.ref b), .val (.int (2 : Int32)), .val (.int c)] [(.int (2 : Int32)), (.ref b)])
  refine Goes.of (fun _ => XS.iinc X1.here hx rfl (hb hby d21_34) rfl (l' := #[.val (.ref b), .val (.int (3 : Int32)), .val (.int c)]) rfl) ?_
  show Goes p e below _ T1 (mkF m 37 #[.val (.ref b), .val (.int (3 : Int32)), .val (.int c)] [(.int (2 : Int32)), (.ref b)])
  refine Goes.of (fun _ => XS.iloadN X1.here hx rfl (hb hby d21_37) rfl) ?_
  show Goes p e below _ T1 (mkF m 38 #[.val (.ref b), .val (.int (3 : Int32)), .val (.int c)] [(.int c), (.int (2 : Int32)), (.ref b)])
  refine goGetS X1 hx hZ hown (host := "") (Or.inl (hw _ (List.mem_of_getElem? (i := 130) rfl))) Via.refl eT1 (Sh.ext O0.2) (g := (mkF m 38 #[.val (.ref b), .val (.int (3 : Int32)), .val (.int c)] [(.int c), (.int (2 : Int32)), (.ref b)])) rfl (hb hby d21_38) ?_
  intro T2 X2 eT2
  show Goes p e below _ T2 (mkF m 41 #[.val (.ref b), .val (.int (3 : Int32)), .val (.int c)] [(.int (0 : Int32)), (.int c), (.int (2 : Int32)), (.ref b)])
  refine Goes.of (fun _ => XS.ishr X2.here hx rfl (hb hby d21_41) rfl) ?_
  show Goes p e below _ T2 (mkF m 42 #[.val (.ref b), .val (.int (3 : Int32)), .val (.int c)] [(.int (c >>> ((0 : Int32) &&& 31))), (.int (2 : Int32)), (.ref b)])
  refine Goes.of (fun _ => XS.i2b X2.here hx rfl (hb hby d21_42) rfl) ?_
  show Goes p e below _ T2 (mkF m 43 #[.val (.ref b), .val (.int (3 : Int32)), .val (.int c)] [(.int ((c >>> ((0 : Int32) &&& 31)).toInt8.toInt32)), (.int (2 : Int32)), (.ref b)])
  refine goStB 2 X2 hx hZ eT2 Vb (by decide) (by decide) rfl (Nat.lt_of_lt_of_le (Nat.lt_succ_self _) (Nat.le_of_ble_eq_true rfl)) (g := (mkF m 43 #[.val (.ref b), .val (.int (3 : Int32)), .val (.int c)] [(.int ((c >>> ((0 : Int32) &&& 31)).toInt8.toInt32)), (.int (2 : Int32)), (.ref b)])) rfl rfl (hb hby d21_43) ?_
  intro T3 h3 X3 eT3 W3 Vb
  have N3 := Fr.snoc X3 N0 g_b
  have Kp := Kp.wr W3 (Or.inl (List.mem_of_getElem? (i := 0) rfl))
  have O0 := O0.wr W3 g_b
  have Vb : Arv Z h3 b kb .byte (4 : Int32) [(.int x0), (.int x1), (.int (nar .byte ((c >>> ((0 : Int32) &&& 31)).toInt8.toInt32))), (.int x3)] (.int (0 : Int32)) := Vb
  show Goes p e below _ T3 (mkF m 44 #[.val (.ref b), .val (.int (3 : Int32)), .val (.int c)] [])
  refine Goes.of (fun _ => XS.aloadN X3.here hx rfl (hb hby d21_44) rfl rfl) ?_
  show Goes p e below _ T3 (mkF m 45 #[.val (.ref b), .val (.int (3 : Int32)), .val (.int c)] [(.ref b)])
  refine Goes.of (fun _ => XS.iloadN X3.here hx rfl (hb hby d21_45) rfl) ?_
  show Goes p e below _ T3 (mkF m 46 #[.val (.ref b), .val (.int (3 : Int32)), .val (.int c)] [(.int (3 : Int32)), (.ref b)])
  refine Goes.of (fun _ => XS.iloadN X3.here hx rfl (hb hby d21_46) rfl) ?_
  show Goes p e below _ T3 (mkF m 47 #[.val (.ref b), .val (.int (3 : Int32)), .val (.int c)] [(.int c), (.int (3 : Int32)), (.ref b)])
  refine goGetS X3 hx hZ hown (host := "") (Or.inl (hw _ (List.mem_of_getElem? (i := 131) rfl))) Via.refl eT3 (Sl.ext O0.2) (g := (mkF m 47 #[.val (.ref b), .val (.int (3 : Int32)), .val (.int c)] [(.int c), (.int (3 : Int32)), (.ref b)])) rfl (hb hby d21_47) ?_
  intro T4 X4 eT4
  show Goes p e below _ T4 (mkF m 50 #[.val (.ref b), .val (.int (3 : Int32)), .val (.int c)] [(.int (8 : Int32)), (.int c), (.int (3 : Int32)), (.ref b)])
  refine Goes.of (fun _ => XS.ishr X4.here hx rfl (hb hby d21_50) rfl) ?_
  show Goes p e below _ T4 (mkF m 51 #[.val (.ref b), .val (.int (3 : Int32)), .val (.int c)] [(.int (c >>> ((8 : Int32) &&& 31))), (.int (3 : Int32)), (.ref b)])
  refine Goes.of (fun _ => XS.i2b X4.here hx rfl (hb hby d21_51) rfl) ?_
  show Goes p e below _ T4 (mkF m 52 #[.val (.ref b), .val (.int (3 : Int32)), .val (.int c)] [(.int ((c >>> ((8 : Int32) &&& 31)).toInt8.toInt32)), (.int (3 : Int32)), (.ref b)])
  refine goStB 3 X4 hx hZ eT4 Vb (by decide) (by decide) rfl (Nat.lt_of_lt_of_le (Nat.lt_succ_self _) (Nat.le_of_ble_eq_true rfl)) (g := (mkF m 52 #[.val (.ref b), .val (.int (3 : Int32)), .val (.int c)] [(.int ((c >>> ((8 : Int32) &&& 31)).toInt8.toInt32)), (.int (3 : Int32)), (.ref b)])) rfl rfl (hb hby d21_52) ?_
  intro T5 h5 X5 eT5 W5 Vb
  have N5 := Fr.snoc X5 N3 g_b
  have Kp := Kp.wr W5 (Or.inl (List.mem_of_getElem? (i := 0) rfl))
  have O0 := O0.wr W5 g_b
  have Vb : Arv Z h5 b kb .byte (4 : Int32) [(.int x0), (.int x1), (.int (nar .byte ((c >>> ((0 : Int32) &&& 31)).toInt8.toInt32))), (.int (nar .byte ((c >>> ((8 : Int32) &&& 31)).toInt8.toInt32)))] (.int (0 : Int32)) := Vb
  show Goes p e below _ T5 (mkF m 53 #[.val (.ref b), .val (.int (3 : Int32)), .val (.int c)] [])
  exact retVoid X5 hx hret hlk (hb hby d21_53) eT5 (by decide) (by decide) ⟨rfl, N5, Kp, Vb⟩
set_option maxRecDepth 65536 in
set_option maxHeartbeats 40000000 in
theorem rm_put6_0 (l : Launch) (Z : State) (a0 : Array Value) (hw : ∀ d ∈ tables_1, d.before a0 Z = true) (b : Addr) (kb : ClassId) (x0 x1 x2 x3 x4 x5 c : Int32) (h0 : Heap) (n0 : Nat) (O0 : Old Z n0 h0) (Sa : Sta Z Z.heap "java/lang/StringUTF16" "$assertionsDisabled" "Z" (.int (1 : Int32))) (Sh : Sta Z Z.heap "java/lang/StringUTF16" "HI_BYTE_SHIFT" "I" (.int (0 : Int32))) (Sl : Sta Z Z.heap "java/lang/StringUTF16" "LO_BYTE_SHIFT" "I" (.int (8 : Int32))) (g_b : n0 ≤ b) (Vb : Arv Z h0 b kb .byte (6 : Int32) [(.int x0), (.int x1), (.int x2), (.int x3), (.int x4), (.int x5)] (.int (0 : Int32))) :
    Rm l (⟨"java/lang/StringUTF16", "putChar", "([BII)V"⟩ : MethodName) jdk_52_method_4_code 3 none ({ frames := 0, cells := 0, slots := 0, locals := 0 } : Room) [] Z #[(.ref b), (.int (0 : Int32)), (.int c)] h0 (fun v h L => v = none ∧ Fr n0 L ∧ Keep h0 h [b] ∧ Arv Z h b kb .byte (6 : Int32) [(.int (nar .byte ((c >>> ((0 : Int32) &&& 31)).toInt8.toInt32))), (.int (nar .byte ((c >>> ((8 : Int32) &&& 31)).toInt8.toInt32))), (.int x2), (.int x3), (.int x4), (.int x5)] (.int (0 : Int32))) := by
  refine Rm.of (plainFor_of_name pn_java_lang_StringUTF16) ?_
  intro p e s m below meth cod T X hx hZ hby hml hown hnm hret hlk eT0
  have hown : s.vm.findClass "java/lang/StringUTF16" = some m.cls := hown
  have hnm : meth.name = "putChar" := hnm
  have N0 := Fr.nil n0
  have Kp := Keep.refl h0 [b]
  refine Goes.cast (ef_21 m b (0 : Int32) c) ?_
  show Goes p e below _ T (mkF m 0 #[.val (.ref b), .val (.int (0 : Int32)), .val (.int c)] [])
  refine goGetS X hx hZ hown (host := "") (Or.inl (hw _ (List.mem_of_getElem? (i := 129) rfl))) Via.refl eT0 (Sa.ext O0.2) (g := (mkF m 0 #[.val (.ref b), .val (.int (0 : Int32)), .val (.int c)] [])) rfl (hb hby d21_0) ?_
  intro T1 X1 eT1
  show Goes p e below _ T1 (mkF m 3 #[.val (.ref b), .val (.int (0 : Int32)), .val (.int c)] [(.int (1 : Int32))])
  refine Goes.of (fun _ => XS.ifYes X1.here hx rfl (pc0 := 3) (pc' := 28) rfl (hb hby d21_3) rfl ((if0 _ _).trans (feq (by decide)).2) (by decide) (by decide)) ?_
  show Goes p e below _ T1 (mkF m 28 #[.val (.ref b), .val (.int (0 : Int32)), .val (.int c)] [])
  refine Goes.of (fun _ => XS.iloadN X1.here hx rfl (hb hby d21_28) rfl) ?_
  show Goes p e below _ T1 (mkF m 29 #[.val (.ref b), .val (.int (0 : Int32)), .val (.int c)] [(.int (0 : Int32))])
  refine Goes.of (fun _ => XS.iconst X1.here hx rfl (hb hby d21_29)) ?_
  show Goes p e below _ T1 (mkF m 30 #[.val (.ref b), .val (.int (0 : Int32)), .val (.int c)] [(.int (1 : Int32)), (.int (0 : Int32))])
  refine Goes.of (fun _ => XS.ishl X1.here hx rfl (hb hby d21_30) rfl) ?_
  show Goes p e below _ T1 (mkF m 31 #[.val (.ref b), .val (.int (0 : Int32)), .val (.int c)] [(.int (0 : Int32))])
  refine Goes.of (fun _ => XS.istoreN X1.here hx rfl (hb hby d21_31) rfl (l' := #[.val (.ref b), .val (.int (0 : Int32)), .val (.int c)]) rfl) ?_
  show Goes p e below _ T1 (mkF m 32 #[.val (.ref b), .val (.int (0 : Int32)), .val (.int c)] [])
  refine Goes.of (fun _ => XS.aloadN X1.here hx rfl (hb hby d21_32) rfl rfl) ?_
  show Goes p e below _ T1 (mkF m 33 #[.val (.ref b), .val (.int (0 : Int32)), .val (.int c)] [(.ref b)])
  refine Goes.of (fun _ => XS.iloadN X1.here hx rfl (hb hby d21_33) rfl) ?_
  show Goes p e below _ T1 (mkF m 34 #[.val (.ref b), .val (.int (0 : Int32)), .val (.int c)] [(.int (0 : Int32)), (.ref b)])
  refine Goes.of (fun _ => XS.iinc X1.here hx rfl (hb hby d21_34) rfl (l' := #[.val (.ref b), .val (.int (1 : Int32)), .val (.int c)]) rfl) ?_
  show Goes p e below _ T1 (mkF m 37 #[.val (.ref b), .val (.int (1 : Int32)), .val (.int c)] [(.int (0 : Int32)), (.ref b)])
  refine Goes.of (fun _ => XS.iloadN X1.here hx rfl (hb hby d21_37) rfl) ?_
  show Goes p e below _ T1 (mkF m 38 #[.val (.ref b), .val (.int (1 : Int32)), .val (.int c)] [(.int c), (.int (0 : Int32)), (.ref b)])
  refine goGetS X1 hx hZ hown (host := "") (Or.inl (hw _ (List.mem_of_getElem? (i := 130) rfl))) Via.refl eT1 (Sh.ext O0.2) (g := (mkF m 38 #[.val (.ref b), .val (.int (1 : Int32)), .val (.int c)] [(.int c), (.int (0 : Int32)), (.ref b)])) rfl (hb hby d21_38) ?_
  intro T2 X2 eT2
  show Goes p e below _ T2 (mkF m 41 #[.val (.ref b), .val (.int (1 : Int32)), .val (.int c)] [(.int (0 : Int32)), (.int c), (.int (0 : Int32)), (.ref b)])
  refine Goes.of (fun _ => XS.ishr X2.here hx rfl (hb hby d21_41) rfl) ?_
  show Goes p e below _ T2 (mkF m 42 #[.val (.ref b), .val (.int (1 : Int32)), .val (.int c)] [(.int (c >>> ((0 : Int32) &&& 31))), (.int (0 : Int32)), (.ref b)])
  refine Goes.of (fun _ => XS.i2b X2.here hx rfl (hb hby d21_42) rfl) ?_
  show Goes p e below _ T2 (mkF m 43 #[.val (.ref b), .val (.int (1 : Int32)), .val (.int c)] [(.int ((c >>> ((0 : Int32) &&& 31)).toInt8.toInt32)), (.int (0 : Int32)), (.ref b)])
  refine goStB 0 X2 hx hZ eT2 Vb (by decide) (by decide) rfl (Nat.lt_of_lt_of_le (Nat.lt_succ_self _) (Nat.le_of_ble_eq_true rfl)) (g := (mkF m 43 #[.val (.ref b), .val (.int (1 : Int32)), .val (.int c)] [(.int ((c >>> ((0 : Int32) &&& 31)).toInt8.toInt32)), (.int (0 : Int32)), (.ref b)])) rfl rfl (hb hby d21_43) ?_
  intro T3 h3 X3 eT3 W3 Vb
  have N3 := Fr.snoc X3 N0 g_b
  have Kp := Kp.wr W3 (Or.inl (List.mem_of_getElem? (i := 0) rfl))
  have O0 := O0.wr W3 g_b
  have Vb : Arv Z h3 b kb .byte (6 : Int32) [(.int (nar .byte ((c >>> ((0 : Int32) &&& 31)).toInt8.toInt32))), (.int x1), (.int x2), (.int x3), (.int x4), (.int x5)] (.int (0 : Int32)) := Vb
  show Goes p e below _ T3 (mkF m 44 #[.val (.ref b), .val (.int (1 : Int32)), .val (.int c)] [])
  refine Goes.of (fun _ => XS.aloadN X3.here hx rfl (hb hby d21_44) rfl rfl) ?_
  show Goes p e below _ T3 (mkF m 45 #[.val (.ref b), .val (.int (1 : Int32)), .val (.int c)] [(.ref b)])
  refine Goes.of (fun _ => XS.iloadN X3.here hx rfl (hb hby d21_45) rfl) ?_
  show Goes p e below _ T3 (mkF m 46 #[.val (.ref b), .val (.int (1 : Int32)), .val (.int c)] [(.int (1 : Int32)), (.ref b)])
  refine Goes.of (fun _ => XS.iloadN X3.here hx rfl (hb hby d21_46) rfl) ?_
  show Goes p e below _ T3 (mkF m 47 #[.val (.ref b), .val (.int (1 : Int32)), .val (.int c)] [(.int c), (.int (1 : Int32)), (.ref b)])
  refine goGetS X3 hx hZ hown (host := "") (Or.inl (hw _ (List.mem_of_getElem? (i := 131) rfl))) Via.refl eT3 (Sl.ext O0.2) (g := (mkF m 47 #[.val (.ref b), .val (.int (1 : Int32)), .val (.int c)] [(.int c), (.int (1 : Int32)), (.ref b)])) rfl (hb hby d21_47) ?_
  intro T4 X4 eT4
  show Goes p e below _ T4 (mkF m 50 #[.val (.ref b), .val (.int (1 : Int32)), .val (.int c)] [(.int (8 : Int32)), (.int c), (.int (1 : Int32)), (.ref b)])
  refine Goes.of (fun _ => XS.ishr X4.here hx rfl (hb hby d21_50) rfl) ?_
  show Goes p e below _ T4 (mkF m 51 #[.val (.ref b), .val (.int (1 : Int32)), .val (.int c)] [(.int (c >>> ((8 : Int32) &&& 31))), (.int (1 : Int32)), (.ref b)])
  refine Goes.of (fun _ => XS.i2b X4.here hx rfl (hb hby d21_51) rfl) ?_
  show Goes p e below _ T4 (mkF m 52 #[.val (.ref b), .val (.int (1 : Int32)), .val (.int c)] [(.int ((c >>> ((8 : Int32) &&& 31)).toInt8.toInt32)), (.int (1 : Int32)), (.ref b)])
  refine goStB 1 X4 hx hZ eT4 Vb (by decide) (by decide) rfl (Nat.lt_of_lt_of_le (Nat.lt_succ_self _) (Nat.le_of_ble_eq_true rfl)) (g := (mkF m 52 #[.val (.ref b), .val (.int (1 : Int32)), .val (.int c)] [(.int ((c >>> ((8 : Int32) &&& 31)).toInt8.toInt32)), (.int (1 : Int32)), (.ref b)])) rfl rfl (hb hby d21_52) ?_
  intro T5 h5 X5 eT5 W5 Vb
  have N5 := Fr.snoc X5 N3 g_b
  have Kp := Kp.wr W5 (Or.inl (List.mem_of_getElem? (i := 0) rfl))
  have O0 := O0.wr W5 g_b
  have Vb : Arv Z h5 b kb .byte (6 : Int32) [(.int (nar .byte ((c >>> ((0 : Int32) &&& 31)).toInt8.toInt32))), (.int (nar .byte ((c >>> ((8 : Int32) &&& 31)).toInt8.toInt32))), (.int x2), (.int x3), (.int x4), (.int x5)] (.int (0 : Int32)) := Vb
  show Goes p e below _ T5 (mkF m 53 #[.val (.ref b), .val (.int (1 : Int32)), .val (.int c)] [])
  exact retVoid X5 hx hret hlk (hb hby d21_53) eT5 (by decide) (by decide) ⟨rfl, N5, Kp, Vb⟩
set_option maxRecDepth 65536 in
set_option maxHeartbeats 40000000 in
theorem rm_put6_1 (l : Launch) (Z : State) (a0 : Array Value) (hw : ∀ d ∈ tables_1, d.before a0 Z = true) (b : Addr) (kb : ClassId) (x0 x1 x2 x3 x4 x5 c : Int32) (h0 : Heap) (n0 : Nat) (O0 : Old Z n0 h0) (Sa : Sta Z Z.heap "java/lang/StringUTF16" "$assertionsDisabled" "Z" (.int (1 : Int32))) (Sh : Sta Z Z.heap "java/lang/StringUTF16" "HI_BYTE_SHIFT" "I" (.int (0 : Int32))) (Sl : Sta Z Z.heap "java/lang/StringUTF16" "LO_BYTE_SHIFT" "I" (.int (8 : Int32))) (g_b : n0 ≤ b) (Vb : Arv Z h0 b kb .byte (6 : Int32) [(.int x0), (.int x1), (.int x2), (.int x3), (.int x4), (.int x5)] (.int (0 : Int32))) :
    Rm l (⟨"java/lang/StringUTF16", "putChar", "([BII)V"⟩ : MethodName) jdk_52_method_4_code 3 none ({ frames := 0, cells := 0, slots := 0, locals := 0 } : Room) [] Z #[(.ref b), (.int (1 : Int32)), (.int c)] h0 (fun v h L => v = none ∧ Fr n0 L ∧ Keep h0 h [b] ∧ Arv Z h b kb .byte (6 : Int32) [(.int x0), (.int x1), (.int (nar .byte ((c >>> ((0 : Int32) &&& 31)).toInt8.toInt32))), (.int (nar .byte ((c >>> ((8 : Int32) &&& 31)).toInt8.toInt32))), (.int x4), (.int x5)] (.int (0 : Int32))) := by
  refine Rm.of (plainFor_of_name pn_java_lang_StringUTF16) ?_
  intro p e s m below meth cod T X hx hZ hby hml hown hnm hret hlk eT0
  have hown : s.vm.findClass "java/lang/StringUTF16" = some m.cls := hown
  have hnm : meth.name = "putChar" := hnm
  have N0 := Fr.nil n0
  have Kp := Keep.refl h0 [b]
  refine Goes.cast (ef_21 m b (1 : Int32) c) ?_
  show Goes p e below _ T (mkF m 0 #[.val (.ref b), .val (.int (1 : Int32)), .val (.int c)] [])
  refine goGetS X hx hZ hown (host := "") (Or.inl (hw _ (List.mem_of_getElem? (i := 129) rfl))) Via.refl eT0 (Sa.ext O0.2) (g := (mkF m 0 #[.val (.ref b), .val (.int (1 : Int32)), .val (.int c)] [])) rfl (hb hby d21_0) ?_
  intro T1 X1 eT1
  show Goes p e below _ T1 (mkF m 3 #[.val (.ref b), .val (.int (1 : Int32)), .val (.int c)] [(.int (1 : Int32))])
  refine Goes.of (fun _ => XS.ifYes X1.here hx rfl (pc0 := 3) (pc' := 28) rfl (hb hby d21_3) rfl ((if0 _ _).trans (feq (by decide)).2) (by decide) (by decide)) ?_
  show Goes p e below _ T1 (mkF m 28 #[.val (.ref b), .val (.int (1 : Int32)), .val (.int c)] [])
  refine Goes.of (fun _ => XS.iloadN X1.here hx rfl (hb hby d21_28) rfl) ?_
  show Goes p e below _ T1 (mkF m 29 #[.val (.ref b), .val (.int (1 : Int32)), .val (.int c)] [(.int (1 : Int32))])
  refine Goes.of (fun _ => XS.iconst X1.here hx rfl (hb hby d21_29)) ?_
  show Goes p e below _ T1 (mkF m 30 #[.val (.ref b), .val (.int (1 : Int32)), .val (.int c)] [(.int (1 : Int32)), (.int (1 : Int32))])
  refine Goes.of (fun _ => XS.ishl X1.here hx rfl (hb hby d21_30) rfl) ?_
  show Goes p e below _ T1 (mkF m 31 #[.val (.ref b), .val (.int (1 : Int32)), .val (.int c)] [(.int (2 : Int32))])
  refine Goes.of (fun _ => XS.istoreN X1.here hx rfl (hb hby d21_31) rfl (l' := #[.val (.ref b), .val (.int (2 : Int32)), .val (.int c)]) rfl) ?_
  show Goes p e below _ T1 (mkF m 32 #[.val (.ref b), .val (.int (2 : Int32)), .val (.int c)] [])
  refine Goes.of (fun _ => XS.aloadN X1.here hx rfl (hb hby d21_32) rfl rfl) ?_
  show Goes p e below _ T1 (mkF m 33 #[.val (.ref b), .val (.int (2 : Int32)), .val (.int c)] [(.ref b)])
  refine Goes.of (fun _ => XS.iloadN X1.here hx rfl (hb hby d21_33) rfl) ?_
  show Goes p e below _ T1 (mkF m 34 #[.val (.ref b), .val (.int (2 : Int32)), .val (.int c)] [(.int (2 : Int32)), (.ref b)])
  refine Goes.of (fun _ => XS.iinc X1.here hx rfl (hb hby d21_34) rfl (l' := #[.val (.ref b), .val (.int (3 : Int32)), .val (.int c)]) rfl) ?_
  show Goes p e below _ T1 (mkF m 37 #[.val (.ref b), .val (.int (3 : Int32)), .val (.int c)] [(.int (2 : Int32)), (.ref b)])
  refine Goes.of (fun _ => XS.iloadN X1.here hx rfl (hb hby d21_37) rfl) ?_
  show Goes p e below _ T1 (mkF m 38 #[.val (.ref b), .val (.int (3 : Int32)), .val (.int c)] [(.int c), (.int (2 : Int32)), (.ref b)])
  refine goGetS X1 hx hZ hown (host := "") (Or.inl (hw _ (List.mem_of_getElem? (i := 130) rfl))) Via.refl eT1 (Sh.ext O0.2) (g := (mkF m 38 #[.val (.ref b), .val (.int (3 : Int32)), .val (.int c)] [(.int c), (.int (2 : Int32)), (.ref b)])) rfl (hb hby d21_38) ?_
  intro T2 X2 eT2
  show Goes p e below _ T2 (mkF m 41 #[.val (.ref b), .val (.int (3 : Int32)), .val (.int c)] [(.int (0 : Int32)), (.int c), (.int (2 : Int32)), (.ref b)])
  refine Goes.of (fun _ => XS.ishr X2.here hx rfl (hb hby d21_41) rfl) ?_
  show Goes p e below _ T2 (mkF m 42 #[.val (.ref b), .val (.int (3 : Int32)), .val (.int c)] [(.int (c >>> ((0 : Int32) &&& 31))), (.int (2 : Int32)), (.ref b)])
  refine Goes.of (fun _ => XS.i2b X2.here hx rfl (hb hby d21_42) rfl) ?_
  show Goes p e below _ T2 (mkF m 43 #[.val (.ref b), .val (.int (3 : Int32)), .val (.int c)] [(.int ((c >>> ((0 : Int32) &&& 31)).toInt8.toInt32)), (.int (2 : Int32)), (.ref b)])
  refine goStB 2 X2 hx hZ eT2 Vb (by decide) (by decide) rfl (Nat.lt_of_lt_of_le (Nat.lt_succ_self _) (Nat.le_of_ble_eq_true rfl)) (g := (mkF m 43 #[.val (.ref b), .val (.int (3 : Int32)), .val (.int c)] [(.int ((c >>> ((0 : Int32) &&& 31)).toInt8.toInt32)), (.int (2 : Int32)), (.ref b)])) rfl rfl (hb hby d21_43) ?_
  intro T3 h3 X3 eT3 W3 Vb
  have N3 := Fr.snoc X3 N0 g_b
  have Kp := Kp.wr W3 (Or.inl (List.mem_of_getElem? (i := 0) rfl))
  have O0 := O0.wr W3 g_b
  have Vb : Arv Z h3 b kb .byte (6 : Int32) [(.int x0), (.int x1), (.int (nar .byte ((c >>> ((0 : Int32) &&& 31)).toInt8.toInt32))), (.int x3), (.int x4), (.int x5)] (.int (0 : Int32)) := Vb
  show Goes p e below _ T3 (mkF m 44 #[.val (.ref b), .val (.int (3 : Int32)), .val (.int c)] [])
  refine Goes.of (fun _ => XS.aloadN X3.here hx rfl (hb hby d21_44) rfl rfl) ?_
  show Goes p e below _ T3 (mkF m 45 #[.val (.ref b), .val (.int (3 : Int32)), .val (.int c)] [(.ref b)])
  refine Goes.of (fun _ => XS.iloadN X3.here hx rfl (hb hby d21_45) rfl) ?_
  show Goes p e below _ T3 (mkF m 46 #[.val (.ref b), .val (.int (3 : Int32)), .val (.int c)] [(.int (3 : Int32)), (.ref b)])
  refine Goes.of (fun _ => XS.iloadN X3.here hx rfl (hb hby d21_46) rfl) ?_
  show Goes p e below _ T3 (mkF m 47 #[.val (.ref b), .val (.int (3 : Int32)), .val (.int c)] [(.int c), (.int (3 : Int32)), (.ref b)])
  refine goGetS X3 hx hZ hown (host := "") (Or.inl (hw _ (List.mem_of_getElem? (i := 131) rfl))) Via.refl eT3 (Sl.ext O0.2) (g := (mkF m 47 #[.val (.ref b), .val (.int (3 : Int32)), .val (.int c)] [(.int c), (.int (3 : Int32)), (.ref b)])) rfl (hb hby d21_47) ?_
  intro T4 X4 eT4
  show Goes p e below _ T4 (mkF m 50 #[.val (.ref b), .val (.int (3 : Int32)), .val (.int c)] [(.int (8 : Int32)), (.int c), (.int (3 : Int32)), (.ref b)])
  refine Goes.of (fun _ => XS.ishr X4.here hx rfl (hb hby d21_50) rfl) ?_
  show Goes p e below _ T4 (mkF m 51 #[.val (.ref b), .val (.int (3 : Int32)), .val (.int c)] [(.int (c >>> ((8 : Int32) &&& 31))), (.int (3 : Int32)), (.ref b)])
  refine Goes.of (fun _ => XS.i2b X4.here hx rfl (hb hby d21_51) rfl) ?_
  show Goes p e below _ T4 (mkF m 52 #[.val (.ref b), .val (.int (3 : Int32)), .val (.int c)] [(.int ((c >>> ((8 : Int32) &&& 31)).toInt8.toInt32)), (.int (3 : Int32)), (.ref b)])
  refine goStB 3 X4 hx hZ eT4 Vb (by decide) (by decide) rfl (Nat.lt_of_lt_of_le (Nat.lt_succ_self _) (Nat.le_of_ble_eq_true rfl)) (g := (mkF m 52 #[.val (.ref b), .val (.int (3 : Int32)), .val (.int c)] [(.int ((c >>> ((8 : Int32) &&& 31)).toInt8.toInt32)), (.int (3 : Int32)), (.ref b)])) rfl rfl (hb hby d21_52) ?_
  intro T5 h5 X5 eT5 W5 Vb
  have N5 := Fr.snoc X5 N3 g_b
  have Kp := Kp.wr W5 (Or.inl (List.mem_of_getElem? (i := 0) rfl))
  have O0 := O0.wr W5 g_b
  have Vb : Arv Z h5 b kb .byte (6 : Int32) [(.int x0), (.int x1), (.int (nar .byte ((c >>> ((0 : Int32) &&& 31)).toInt8.toInt32))), (.int (nar .byte ((c >>> ((8 : Int32) &&& 31)).toInt8.toInt32))), (.int x4), (.int x5)] (.int (0 : Int32)) := Vb
  show Goes p e below _ T5 (mkF m 53 #[.val (.ref b), .val (.int (3 : Int32)), .val (.int c)] [])
  exact retVoid X5 hx hret hlk (hb hby d21_53) eT5 (by decide) (by decide) ⟨rfl, N5, Kp, Vb⟩
set_option maxRecDepth 65536 in
set_option maxHeartbeats 40000000 in
theorem rm_put6_2 (l : Launch) (Z : State) (a0 : Array Value) (hw : ∀ d ∈ tables_1, d.before a0 Z = true) (b : Addr) (kb : ClassId) (x0 x1 x2 x3 x4 x5 c : Int32) (h0 : Heap) (n0 : Nat) (O0 : Old Z n0 h0) (Sa : Sta Z Z.heap "java/lang/StringUTF16" "$assertionsDisabled" "Z" (.int (1 : Int32))) (Sh : Sta Z Z.heap "java/lang/StringUTF16" "HI_BYTE_SHIFT" "I" (.int (0 : Int32))) (Sl : Sta Z Z.heap "java/lang/StringUTF16" "LO_BYTE_SHIFT" "I" (.int (8 : Int32))) (g_b : n0 ≤ b) (Vb : Arv Z h0 b kb .byte (6 : Int32) [(.int x0), (.int x1), (.int x2), (.int x3), (.int x4), (.int x5)] (.int (0 : Int32))) :
    Rm l (⟨"java/lang/StringUTF16", "putChar", "([BII)V"⟩ : MethodName) jdk_52_method_4_code 3 none ({ frames := 0, cells := 0, slots := 0, locals := 0 } : Room) [] Z #[(.ref b), (.int (2 : Int32)), (.int c)] h0 (fun v h L => v = none ∧ Fr n0 L ∧ Keep h0 h [b] ∧ Arv Z h b kb .byte (6 : Int32) [(.int x0), (.int x1), (.int x2), (.int x3), (.int (nar .byte ((c >>> ((0 : Int32) &&& 31)).toInt8.toInt32))), (.int (nar .byte ((c >>> ((8 : Int32) &&& 31)).toInt8.toInt32)))] (.int (0 : Int32))) := by
  refine Rm.of (plainFor_of_name pn_java_lang_StringUTF16) ?_
  intro p e s m below meth cod T X hx hZ hby hml hown hnm hret hlk eT0
  have hown : s.vm.findClass "java/lang/StringUTF16" = some m.cls := hown
  have hnm : meth.name = "putChar" := hnm
  have N0 := Fr.nil n0
  have Kp := Keep.refl h0 [b]
  refine Goes.cast (ef_21 m b (2 : Int32) c) ?_
  show Goes p e below _ T (mkF m 0 #[.val (.ref b), .val (.int (2 : Int32)), .val (.int c)] [])
  refine goGetS X hx hZ hown (host := "") (Or.inl (hw _ (List.mem_of_getElem? (i := 129) rfl))) Via.refl eT0 (Sa.ext O0.2) (g := (mkF m 0 #[.val (.ref b), .val (.int (2 : Int32)), .val (.int c)] [])) rfl (hb hby d21_0) ?_
  intro T1 X1 eT1
  show Goes p e below _ T1 (mkF m 3 #[.val (.ref b), .val (.int (2 : Int32)), .val (.int c)] [(.int (1 : Int32))])
  refine Goes.of (fun _ => XS.ifYes X1.here hx rfl (pc0 := 3) (pc' := 28) rfl (hb hby d21_3) rfl ((if0 _ _).trans (feq (by decide)).2) (by decide) (by decide)) ?_
  show Goes p e below _ T1 (mkF m 28 #[.val (.ref b), .val (.int (2 : Int32)), .val (.int c)] [])
  refine Goes.of (fun _ => XS.iloadN X1.here hx rfl (hb hby d21_28) rfl) ?_
  show Goes p e below _ T1 (mkF m 29 #[.val (.ref b), .val (.int (2 : Int32)), .val (.int c)] [(.int (2 : Int32))])
  refine Goes.of (fun _ => XS.iconst X1.here hx rfl (hb hby d21_29)) ?_
  show Goes p e below _ T1 (mkF m 30 #[.val (.ref b), .val (.int (2 : Int32)), .val (.int c)] [(.int (1 : Int32)), (.int (2 : Int32))])
  refine Goes.of (fun _ => XS.ishl X1.here hx rfl (hb hby d21_30) rfl) ?_
  show Goes p e below _ T1 (mkF m 31 #[.val (.ref b), .val (.int (2 : Int32)), .val (.int c)] [(.int (4 : Int32))])
  refine Goes.of (fun _ => XS.istoreN X1.here hx rfl (hb hby d21_31) rfl (l' := #[.val (.ref b), .val (.int (4 : Int32)), .val (.int c)]) rfl) ?_
  show Goes p e below _ T1 (mkF m 32 #[.val (.ref b), .val (.int (4 : Int32)), .val (.int c)] [])
  refine Goes.of (fun _ => XS.aloadN X1.here hx rfl (hb hby d21_32) rfl rfl) ?_
  show Goes p e below _ T1 (mkF m 33 #[.val (.ref b), .val (.int (4 : Int32)), .val (.int c)] [(.ref b)])
  refine Goes.of (fun _ => XS.iloadN X1.here hx rfl (hb hby d21_33) rfl) ?_
  show Goes p e below _ T1 (mkF m 34 #[.val (.ref b), .val (.int (4 : Int32)), .val (.int c)] [(.int (4 : Int32)), (.ref b)])
  refine Goes.of (fun _ => XS.iinc X1.here hx rfl (hb hby d21_34) rfl (l' := #[.val (.ref b), .val (.int (5 : Int32)), .val (.int c)]) rfl) ?_
  show Goes p e below _ T1 (mkF m 37 #[.val (.ref b), .val (.int (5 : Int32)), .val (.int c)] [(.int (4 : Int32)), (.ref b)])
  refine Goes.of (fun _ => XS.iloadN X1.here hx rfl (hb hby d21_37) rfl) ?_
  show Goes p e below _ T1 (mkF m 38 #[.val (.ref b), .val (.int (5 : Int32)), .val (.int c)] [(.int c), (.int (4 : Int32)), (.ref b)])
  refine goGetS X1 hx hZ hown (host := "") (Or.inl (hw _ (List.mem_of_getElem? (i := 130) rfl))) Via.refl eT1 (Sh.ext O0.2) (g := (mkF m 38 #[.val (.ref b), .val (.int (5 : Int32)), .val (.int c)] [(.int c), (.int (4 : Int32)), (.ref b)])) rfl (hb hby d21_38) ?_
  intro T2 X2 eT2
  show Goes p e below _ T2 (mkF m 41 #[.val (.ref b), .val (.int (5 : Int32)), .val (.int c)] [(.int (0 : Int32)), (.int c), (.int (4 : Int32)), (.ref b)])
  refine Goes.of (fun _ => XS.ishr X2.here hx rfl (hb hby d21_41) rfl) ?_
  show Goes p e below _ T2 (mkF m 42 #[.val (.ref b), .val (.int (5 : Int32)), .val (.int c)] [(.int (c >>> ((0 : Int32) &&& 31))), (.int (4 : Int32)), (.ref b)])
  refine Goes.of (fun _ => XS.i2b X2.here hx rfl (hb hby d21_42) rfl) ?_
  show Goes p e below _ T2 (mkF m 43 #[.val (.ref b), .val (.int (5 : Int32)), .val (.int c)] [(.int ((c >>> ((0 : Int32) &&& 31)).toInt8.toInt32)), (.int (4 : Int32)), (.ref b)])
  refine goStB 4 X2 hx hZ eT2 Vb (by decide) (by decide) rfl (Nat.lt_of_lt_of_le (Nat.lt_succ_self _) (Nat.le_of_ble_eq_true rfl)) (g := (mkF m 43 #[.val (.ref b), .val (.int (5 : Int32)), .val (.int c)] [(.int ((c >>> ((0 : Int32) &&& 31)).toInt8.toInt32)), (.int (4 : Int32)), (.ref b)])) rfl rfl (hb hby d21_43) ?_
  intro T3 h3 X3 eT3 W3 Vb
  have N3 := Fr.snoc X3 N0 g_b
  have Kp := Kp.wr W3 (Or.inl (List.mem_of_getElem? (i := 0) rfl))
  have O0 := O0.wr W3 g_b
  have Vb : Arv Z h3 b kb .byte (6 : Int32) [(.int x0), (.int x1), (.int x2), (.int x3), (.int (nar .byte ((c >>> ((0 : Int32) &&& 31)).toInt8.toInt32))), (.int x5)] (.int (0 : Int32)) := Vb
  show Goes p e below _ T3 (mkF m 44 #[.val (.ref b), .val (.int (5 : Int32)), .val (.int c)] [])
  refine Goes.of (fun _ => XS.aloadN X3.here hx rfl (hb hby d21_44) rfl rfl) ?_
  show Goes p e below _ T3 (mkF m 45 #[.val (.ref b), .val (.int (5 : Int32)), .val (.int c)] [(.ref b)])
  refine Goes.of (fun _ => XS.iloadN X3.here hx rfl (hb hby d21_45) rfl) ?_
  show Goes p e below _ T3 (mkF m 46 #[.val (.ref b), .val (.int (5 : Int32)), .val (.int c)] [(.int (5 : Int32)), (.ref b)])
  refine Goes.of (fun _ => XS.iloadN X3.here hx rfl (hb hby d21_46) rfl) ?_
  show Goes p e below _ T3 (mkF m 47 #[.val (.ref b), .val (.int (5 : Int32)), .val (.int c)] [(.int c), (.int (5 : Int32)), (.ref b)])
  refine goGetS X3 hx hZ hown (host := "") (Or.inl (hw _ (List.mem_of_getElem? (i := 131) rfl))) Via.refl eT3 (Sl.ext O0.2) (g := (mkF m 47 #[.val (.ref b), .val (.int (5 : Int32)), .val (.int c)] [(.int c), (.int (5 : Int32)), (.ref b)])) rfl (hb hby d21_47) ?_
  intro T4 X4 eT4
  show Goes p e below _ T4 (mkF m 50 #[.val (.ref b), .val (.int (5 : Int32)), .val (.int c)] [(.int (8 : Int32)), (.int c), (.int (5 : Int32)), (.ref b)])
  refine Goes.of (fun _ => XS.ishr X4.here hx rfl (hb hby d21_50) rfl) ?_
  show Goes p e below _ T4 (mkF m 51 #[.val (.ref b), .val (.int (5 : Int32)), .val (.int c)] [(.int (c >>> ((8 : Int32) &&& 31))), (.int (5 : Int32)), (.ref b)])
  refine Goes.of (fun _ => XS.i2b X4.here hx rfl (hb hby d21_51) rfl) ?_
  show Goes p e below _ T4 (mkF m 52 #[.val (.ref b), .val (.int (5 : Int32)), .val (.int c)] [(.int ((c >>> ((8 : Int32) &&& 31)).toInt8.toInt32)), (.int (5 : Int32)), (.ref b)])
  refine goStB 5 X4 hx hZ eT4 Vb (by decide) (by decide) rfl (Nat.lt_of_lt_of_le (Nat.lt_succ_self _) (Nat.le_of_ble_eq_true rfl)) (g := (mkF m 52 #[.val (.ref b), .val (.int (5 : Int32)), .val (.int c)] [(.int ((c >>> ((8 : Int32) &&& 31)).toInt8.toInt32)), (.int (5 : Int32)), (.ref b)])) rfl rfl (hb hby d21_52) ?_
  intro T5 h5 X5 eT5 W5 Vb
  have N5 := Fr.snoc X5 N3 g_b
  have Kp := Kp.wr W5 (Or.inl (List.mem_of_getElem? (i := 0) rfl))
  have O0 := O0.wr W5 g_b
  have Vb : Arv Z h5 b kb .byte (6 : Int32) [(.int x0), (.int x1), (.int x2), (.int x3), (.int (nar .byte ((c >>> ((0 : Int32) &&& 31)).toInt8.toInt32))), (.int (nar .byte ((c >>> ((8 : Int32) &&& 31)).toInt8.toInt32)))] (.int (0 : Int32)) := Vb
  show Goes p e below _ T5 (mkF m 53 #[.val (.ref b), .val (.int (5 : Int32)), .val (.int c)] [])
  exact retVoid X5 hx hret hlk (hb hby d21_53) eT5 (by decide) (by decide) ⟨rfl, N5, Kp, Vb⟩
set_option maxRecDepth 65536 in
set_option maxHeartbeats 40000000 in
theorem rm_get4_0 (l : Launch) (Z : State) (a0 : Array Value) (hw : ∀ d ∈ tables_1, d.before a0 Z = true) (b : Addr) (kb : ClassId) (x0 x1 x2 x3 : Int32) (h0 : Heap) (n0 : Nat) (O0 : Old Z n0 h0) (Sa : Sta Z Z.heap "java/lang/StringUTF16" "$assertionsDisabled" "Z" (.int (1 : Int32))) (Sh : Sta Z Z.heap "java/lang/StringUTF16" "HI_BYTE_SHIFT" "I" (.int (0 : Int32))) (Sl : Sta Z Z.heap "java/lang/StringUTF16" "LO_BYTE_SHIFT" "I" (.int (8 : Int32))) (Vb : Arv Z h0 b kb .byte (4 : Int32) [(.int x0), (.int x1), (.int x2), (.int x3)] (.int (0 : Int32))) :
    Rm l (⟨"java/lang/StringUTF16", "getChar", "([BI)C"⟩ : MethodName) jdk_52_method_5_code 2 (some .char) ({ frames := 0, cells := 0, slots := 0, locals := 0 } : Room) [] Z #[(.ref b), (.int (0 : Int32))] h0 (fun v h L => v = some (.int (nar .char ((((x0 &&& (255 : Int32)) <<< ((0 : Int32) &&& 31)) ||| ((x1 &&& (255 : Int32)) <<< ((8 : Int32) &&& 31))).toUInt32.toUInt16.toUInt32.toInt32))) ∧ Fr n0 L ∧ h = h0) := by
  refine Rm.of (plainFor_of_name pn_java_lang_StringUTF16) ?_
  intro p e s m below meth cod T X hx hZ hby hml hown hnm hret hlk eT0
  have hown : s.vm.findClass "java/lang/StringUTF16" = some m.cls := hown
  have hnm : meth.name = "getChar" := hnm
  have N0 := Fr.nil n0
  refine Goes.cast (ef_26 m b (0 : Int32)) ?_
  show Goes p e below _ T (mkF m 0 #[.val (.ref b), .val (.int (0 : Int32))] [])
  refine goGetS X hx hZ hown (host := "") (Or.inl (hw _ (List.mem_of_getElem? (i := 129) rfl))) Via.refl eT0 (Sa.ext O0.2) (g := (mkF m 0 #[.val (.ref b), .val (.int (0 : Int32))] [])) rfl (hb hby d26_0) ?_
  intro T1 X1 eT1
  show Goes p e below _ T1 (mkF m 3 #[.val (.ref b), .val (.int (0 : Int32))] [(.int (1 : Int32))])
  refine Goes.of (fun _ => XS.ifYes X1.here hx rfl (pc0 := 3) (pc' := 28) rfl (hb hby d26_3) rfl ((if0 _ _).trans (feq (by decide)).2) (by decide) (by decide)) ?_
  show Goes p e below _ T1 (mkF m 28 #[.val (.ref b), .val (.int (0 : Int32))] [])
  refine Goes.of (fun _ => XS.iloadN X1.here hx rfl (hb hby d26_28) rfl) ?_
  show Goes p e below _ T1 (mkF m 29 #[.val (.ref b), .val (.int (0 : Int32))] [(.int (0 : Int32))])
  refine Goes.of (fun _ => XS.iconst X1.here hx rfl (hb hby d26_29)) ?_
  show Goes p e below _ T1 (mkF m 30 #[.val (.ref b), .val (.int (0 : Int32))] [(.int (1 : Int32)), (.int (0 : Int32))])
  refine Goes.of (fun _ => XS.ishl X1.here hx rfl (hb hby d26_30) rfl) ?_
  show Goes p e below _ T1 (mkF m 31 #[.val (.ref b), .val (.int (0 : Int32))] [(.int (0 : Int32))])
  refine Goes.of (fun _ => XS.istoreN X1.here hx rfl (hb hby d26_31) rfl (l' := #[.val (.ref b), .val (.int (0 : Int32))]) rfl) ?_
  show Goes p e below _ T1 (mkF m 32 #[.val (.ref b), .val (.int (0 : Int32))] [])
  refine Goes.of (fun _ => XS.aloadN X1.here hx rfl (hb hby d26_32) rfl rfl) ?_
  show Goes p e below _ T1 (mkF m 33 #[.val (.ref b), .val (.int (0 : Int32))] [(.ref b)])
  refine Goes.of (fun _ => XS.iloadN X1.here hx rfl (hb hby d26_33) rfl) ?_
  show Goes p e below _ T1 (mkF m 34 #[.val (.ref b), .val (.int (0 : Int32))] [(.int (0 : Int32)), (.ref b)])
  refine Goes.of (fun _ => XS.iinc X1.here hx rfl (hb hby d26_34) rfl (l' := #[.val (.ref b), .val (.int (1 : Int32))]) rfl) ?_
  show Goes p e below _ T1 (mkF m 37 #[.val (.ref b), .val (.int (1 : Int32))] [(.int (0 : Int32)), (.ref b)])
  refine goLdB (.int x0) X1 hx hZ eT1 Vb (by decide) (by decide) rfl (g := (mkF m 37 #[.val (.ref b), .val (.int (1 : Int32))] [(.int (0 : Int32)), (.ref b)])) rfl rfl (hb hby d26_37) ?_
  show Goes p e below _ T1 (mkF m 38 #[.val (.ref b), .val (.int (1 : Int32))] [(.int x0)])
  refine Goes.of (fun _ => XS.sipush X1.here hx rfl (hb hby d26_38)) ?_
  show Goes p e below _ T1 (mkF m 41 #[.val (.ref b), .val (.int (1 : Int32))] [(.int (255 : Int32)), (.int x0)])
  refine Goes.of (fun _ => XS.iand X1.here hx rfl (hb hby d26_41) rfl) ?_
  show Goes p e below _ T1 (mkF m 42 #[.val (.ref b), .val (.int (1 : Int32))] [(.int (x0 &&& (255 : Int32)))])
  refine goGetS X1 hx hZ hown (host := "") (Or.inl (hw _ (List.mem_of_getElem? (i := 130) rfl))) Via.refl eT1 (Sh.ext O0.2) (g := (mkF m 42 #[.val (.ref b), .val (.int (1 : Int32))] [(.int (x0 &&& (255 : Int32)))])) rfl (hb hby d26_42) ?_
  intro T3 X3 eT3
  show Goes p e below _ T3 (mkF m 45 #[.val (.ref b), .val (.int (1 : Int32))] [(.int (0 : Int32)), (.int (x0 &&& (255 : Int32)))])
  refine Goes.of (fun _ => XS.ishl X3.here hx rfl (hb hby d26_45) rfl) ?_
  show Goes p e below _ T3 (mkF m 46 #[.val (.ref b), .val (.int (1 : Int32))] [(.int ((x0 &&& (255 : Int32)) <<< ((0 : Int32) &&& 31)))])
  refine Goes.of (fun _ => XS.aloadN X3.here hx rfl (hb hby d26_46) rfl rfl) ?_
  show Goes p e below _ T3 (mkF m 47 #[.val (.ref b), .val (.int (1 : Int32))] [(.ref b), (.int ((x0 &&& (255 : Int32)) <<< ((0 : Int32) &&& 31)))])
  refine Goes.of (fun _ => XS.iloadN X3.here hx rfl (hb hby d26_47) rfl) ?_
  show Goes p e below _ T3 (mkF m 48 #[.val (.ref b), .val (.int (1 : Int32))] [(.int (1 : Int32)), (.ref b), (.int ((x0 &&& (255 : Int32)) <<< ((0 : Int32) &&& 31)))])
  refine goLdB (.int x1) X3 hx hZ eT3 Vb (by decide) (by decide) rfl (g := (mkF m 48 #[.val (.ref b), .val (.int (1 : Int32))] [(.int (1 : Int32)), (.ref b), (.int ((x0 &&& (255 : Int32)) <<< ((0 : Int32) &&& 31)))])) rfl rfl (hb hby d26_48) ?_
  show Goes p e below _ T3 (mkF m 49 #[.val (.ref b), .val (.int (1 : Int32))] [(.int x1), (.int ((x0 &&& (255 : Int32)) <<< ((0 : Int32) &&& 31)))])
  refine Goes.of (fun _ => XS.sipush X3.here hx rfl (hb hby d26_49)) ?_
  show Goes p e below _ T3 (mkF m 52 #[.val (.ref b), .val (.int (1 : Int32))] [(.int (255 : Int32)), (.int x1), (.int ((x0 &&& (255 : Int32)) <<< ((0 : Int32) &&& 31)))])
  refine Goes.of (fun _ => XS.iand X3.here hx rfl (hb hby d26_52) rfl) ?_
  show Goes p e below _ T3 (mkF m 53 #[.val (.ref b), .val (.int (1 : Int32))] [(.int (x1 &&& (255 : Int32))), (.int ((x0 &&& (255 : Int32)) <<< ((0 : Int32) &&& 31)))])
  refine goGetS X3 hx hZ hown (host := "") (Or.inl (hw _ (List.mem_of_getElem? (i := 131) rfl))) Via.refl eT3 (Sl.ext O0.2) (g := (mkF m 53 #[.val (.ref b), .val (.int (1 : Int32))] [(.int (x1 &&& (255 : Int32))), (.int ((x0 &&& (255 : Int32)) <<< ((0 : Int32) &&& 31)))])) rfl (hb hby d26_53) ?_
  intro T5 X5 eT5
  show Goes p e below _ T5 (mkF m 56 #[.val (.ref b), .val (.int (1 : Int32))] [(.int (8 : Int32)), (.int (x1 &&& (255 : Int32))), (.int ((x0 &&& (255 : Int32)) <<< ((0 : Int32) &&& 31)))])
  refine Goes.of (fun _ => XS.ishl X5.here hx rfl (hb hby d26_56) rfl) ?_
  show Goes p e below _ T5 (mkF m 57 #[.val (.ref b), .val (.int (1 : Int32))] [(.int ((x1 &&& (255 : Int32)) <<< ((8 : Int32) &&& 31))), (.int ((x0 &&& (255 : Int32)) <<< ((0 : Int32) &&& 31)))])
  refine Goes.of (fun _ => XS.ior X5.here hx rfl (hb hby d26_57) rfl) ?_
  show Goes p e below _ T5 (mkF m 58 #[.val (.ref b), .val (.int (1 : Int32))] [(.int (((x0 &&& (255 : Int32)) <<< ((0 : Int32) &&& 31)) ||| ((x1 &&& (255 : Int32)) <<< ((8 : Int32) &&& 31))))])
  refine Goes.of (fun _ => XS.i2c X5.here hx rfl (hb hby d26_58) rfl) ?_
  show Goes p e below _ T5 (mkF m 59 #[.val (.ref b), .val (.int (1 : Int32))] [(.int ((((x0 &&& (255 : Int32)) <<< ((0 : Int32) &&& 31)) ||| ((x1 &&& (255 : Int32)) <<< ((8 : Int32) &&& 31))).toUInt32.toUInt16.toUInt32.toInt32))])
  exact retZ (t := .char) X5 hx hret hlk (by simp) (hb hby d26_59) eT5 (by decide) (by decide) ⟨rfl, N0, rfl⟩
set_option maxRecDepth 65536 in
set_option maxHeartbeats 40000000 in
theorem rm_get4_1 (l : Launch) (Z : State) (a0 : Array Value) (hw : ∀ d ∈ tables_1, d.before a0 Z = true) (b : Addr) (kb : ClassId) (x0 x1 x2 x3 : Int32) (h0 : Heap) (n0 : Nat) (O0 : Old Z n0 h0) (Sa : Sta Z Z.heap "java/lang/StringUTF16" "$assertionsDisabled" "Z" (.int (1 : Int32))) (Sh : Sta Z Z.heap "java/lang/StringUTF16" "HI_BYTE_SHIFT" "I" (.int (0 : Int32))) (Sl : Sta Z Z.heap "java/lang/StringUTF16" "LO_BYTE_SHIFT" "I" (.int (8 : Int32))) (Vb : Arv Z h0 b kb .byte (4 : Int32) [(.int x0), (.int x1), (.int x2), (.int x3)] (.int (0 : Int32))) :
    Rm l (⟨"java/lang/StringUTF16", "getChar", "([BI)C"⟩ : MethodName) jdk_52_method_5_code 2 (some .char) ({ frames := 0, cells := 0, slots := 0, locals := 0 } : Room) [] Z #[(.ref b), (.int (1 : Int32))] h0 (fun v h L => v = some (.int (nar .char ((((x2 &&& (255 : Int32)) <<< ((0 : Int32) &&& 31)) ||| ((x3 &&& (255 : Int32)) <<< ((8 : Int32) &&& 31))).toUInt32.toUInt16.toUInt32.toInt32))) ∧ Fr n0 L ∧ h = h0) := by
  refine Rm.of (plainFor_of_name pn_java_lang_StringUTF16) ?_
  intro p e s m below meth cod T X hx hZ hby hml hown hnm hret hlk eT0
  have hown : s.vm.findClass "java/lang/StringUTF16" = some m.cls := hown
  have hnm : meth.name = "getChar" := hnm
  have N0 := Fr.nil n0
  refine Goes.cast (ef_26 m b (1 : Int32)) ?_
  show Goes p e below _ T (mkF m 0 #[.val (.ref b), .val (.int (1 : Int32))] [])
  refine goGetS X hx hZ hown (host := "") (Or.inl (hw _ (List.mem_of_getElem? (i := 129) rfl))) Via.refl eT0 (Sa.ext O0.2) (g := (mkF m 0 #[.val (.ref b), .val (.int (1 : Int32))] [])) rfl (hb hby d26_0) ?_
  intro T1 X1 eT1
  show Goes p e below _ T1 (mkF m 3 #[.val (.ref b), .val (.int (1 : Int32))] [(.int (1 : Int32))])
  refine Goes.of (fun _ => XS.ifYes X1.here hx rfl (pc0 := 3) (pc' := 28) rfl (hb hby d26_3) rfl ((if0 _ _).trans (feq (by decide)).2) (by decide) (by decide)) ?_
  show Goes p e below _ T1 (mkF m 28 #[.val (.ref b), .val (.int (1 : Int32))] [])
  refine Goes.of (fun _ => XS.iloadN X1.here hx rfl (hb hby d26_28) rfl) ?_
  show Goes p e below _ T1 (mkF m 29 #[.val (.ref b), .val (.int (1 : Int32))] [(.int (1 : Int32))])
  refine Goes.of (fun _ => XS.iconst X1.here hx rfl (hb hby d26_29)) ?_
  show Goes p e below _ T1 (mkF m 30 #[.val (.ref b), .val (.int (1 : Int32))] [(.int (1 : Int32)), (.int (1 : Int32))])
  refine Goes.of (fun _ => XS.ishl X1.here hx rfl (hb hby d26_30) rfl) ?_
  show Goes p e below _ T1 (mkF m 31 #[.val (.ref b), .val (.int (1 : Int32))] [(.int (2 : Int32))])
  refine Goes.of (fun _ => XS.istoreN X1.here hx rfl (hb hby d26_31) rfl (l' := #[.val (.ref b), .val (.int (2 : Int32))]) rfl) ?_
  show Goes p e below _ T1 (mkF m 32 #[.val (.ref b), .val (.int (2 : Int32))] [])
  refine Goes.of (fun _ => XS.aloadN X1.here hx rfl (hb hby d26_32) rfl rfl) ?_
  show Goes p e below _ T1 (mkF m 33 #[.val (.ref b), .val (.int (2 : Int32))] [(.ref b)])
  refine Goes.of (fun _ => XS.iloadN X1.here hx rfl (hb hby d26_33) rfl) ?_
  show Goes p e below _ T1 (mkF m 34 #[.val (.ref b), .val (.int (2 : Int32))] [(.int (2 : Int32)), (.ref b)])
  refine Goes.of (fun _ => XS.iinc X1.here hx rfl (hb hby d26_34) rfl (l' := #[.val (.ref b), .val (.int (3 : Int32))]) rfl) ?_
  show Goes p e below _ T1 (mkF m 37 #[.val (.ref b), .val (.int (3 : Int32))] [(.int (2 : Int32)), (.ref b)])
  refine goLdB (.int x2) X1 hx hZ eT1 Vb (by decide) (by decide) rfl (g := (mkF m 37 #[.val (.ref b), .val (.int (3 : Int32))] [(.int (2 : Int32)), (.ref b)])) rfl rfl (hb hby d26_37) ?_
  show Goes p e below _ T1 (mkF m 38 #[.val (.ref b), .val (.int (3 : Int32))] [(.int x2)])
  refine Goes.of (fun _ => XS.sipush X1.here hx rfl (hb hby d26_38)) ?_
  show Goes p e below _ T1 (mkF m 41 #[.val (.ref b), .val (.int (3 : Int32))] [(.int (255 : Int32)), (.int x2)])
  refine Goes.of (fun _ => XS.iand X1.here hx rfl (hb hby d26_41) rfl) ?_
  show Goes p e below _ T1 (mkF m 42 #[.val (.ref b), .val (.int (3 : Int32))] [(.int (x2 &&& (255 : Int32)))])
  refine goGetS X1 hx hZ hown (host := "") (Or.inl (hw _ (List.mem_of_getElem? (i := 130) rfl))) Via.refl eT1 (Sh.ext O0.2) (g := (mkF m 42 #[.val (.ref b), .val (.int (3 : Int32))] [(.int (x2 &&& (255 : Int32)))])) rfl (hb hby d26_42) ?_
  intro T3 X3 eT3
  show Goes p e below _ T3 (mkF m 45 #[.val (.ref b), .val (.int (3 : Int32))] [(.int (0 : Int32)), (.int (x2 &&& (255 : Int32)))])
  refine Goes.of (fun _ => XS.ishl X3.here hx rfl (hb hby d26_45) rfl) ?_
  show Goes p e below _ T3 (mkF m 46 #[.val (.ref b), .val (.int (3 : Int32))] [(.int ((x2 &&& (255 : Int32)) <<< ((0 : Int32) &&& 31)))])
  refine Goes.of (fun _ => XS.aloadN X3.here hx rfl (hb hby d26_46) rfl rfl) ?_
  show Goes p e below _ T3 (mkF m 47 #[.val (.ref b), .val (.int (3 : Int32))] [(.ref b), (.int ((x2 &&& (255 : Int32)) <<< ((0 : Int32) &&& 31)))])
  refine Goes.of (fun _ => XS.iloadN X3.here hx rfl (hb hby d26_47) rfl) ?_
  show Goes p e below _ T3 (mkF m 48 #[.val (.ref b), .val (.int (3 : Int32))] [(.int (3 : Int32)), (.ref b), (.int ((x2 &&& (255 : Int32)) <<< ((0 : Int32) &&& 31)))])
  refine goLdB (.int x3) X3 hx hZ eT3 Vb (by decide) (by decide) rfl (g := (mkF m 48 #[.val (.ref b), .val (.int (3 : Int32))] [(.int (3 : Int32)), (.ref b), (.int ((x2 &&& (255 : Int32)) <<< ((0 : Int32) &&& 31)))])) rfl rfl (hb hby d26_48) ?_
  show Goes p e below _ T3 (mkF m 49 #[.val (.ref b), .val (.int (3 : Int32))] [(.int x3), (.int ((x2 &&& (255 : Int32)) <<< ((0 : Int32) &&& 31)))])
  refine Goes.of (fun _ => XS.sipush X3.here hx rfl (hb hby d26_49)) ?_
  show Goes p e below _ T3 (mkF m 52 #[.val (.ref b), .val (.int (3 : Int32))] [(.int (255 : Int32)), (.int x3), (.int ((x2 &&& (255 : Int32)) <<< ((0 : Int32) &&& 31)))])
  refine Goes.of (fun _ => XS.iand X3.here hx rfl (hb hby d26_52) rfl) ?_
  show Goes p e below _ T3 (mkF m 53 #[.val (.ref b), .val (.int (3 : Int32))] [(.int (x3 &&& (255 : Int32))), (.int ((x2 &&& (255 : Int32)) <<< ((0 : Int32) &&& 31)))])
  refine goGetS X3 hx hZ hown (host := "") (Or.inl (hw _ (List.mem_of_getElem? (i := 131) rfl))) Via.refl eT3 (Sl.ext O0.2) (g := (mkF m 53 #[.val (.ref b), .val (.int (3 : Int32))] [(.int (x3 &&& (255 : Int32))), (.int ((x2 &&& (255 : Int32)) <<< ((0 : Int32) &&& 31)))])) rfl (hb hby d26_53) ?_
  intro T5 X5 eT5
  show Goes p e below _ T5 (mkF m 56 #[.val (.ref b), .val (.int (3 : Int32))] [(.int (8 : Int32)), (.int (x3 &&& (255 : Int32))), (.int ((x2 &&& (255 : Int32)) <<< ((0 : Int32) &&& 31)))])
  refine Goes.of (fun _ => XS.ishl X5.here hx rfl (hb hby d26_56) rfl) ?_
  show Goes p e below _ T5 (mkF m 57 #[.val (.ref b), .val (.int (3 : Int32))] [(.int ((x3 &&& (255 : Int32)) <<< ((8 : Int32) &&& 31))), (.int ((x2 &&& (255 : Int32)) <<< ((0 : Int32) &&& 31)))])
  refine Goes.of (fun _ => XS.ior X5.here hx rfl (hb hby d26_57) rfl) ?_
  show Goes p e below _ T5 (mkF m 58 #[.val (.ref b), .val (.int (3 : Int32))] [(.int (((x2 &&& (255 : Int32)) <<< ((0 : Int32) &&& 31)) ||| ((x3 &&& (255 : Int32)) <<< ((8 : Int32) &&& 31))))])
  refine Goes.of (fun _ => XS.i2c X5.here hx rfl (hb hby d26_58) rfl) ?_
  show Goes p e below _ T5 (mkF m 59 #[.val (.ref b), .val (.int (3 : Int32))] [(.int ((((x2 &&& (255 : Int32)) <<< ((0 : Int32) &&& 31)) ||| ((x3 &&& (255 : Int32)) <<< ((8 : Int32) &&& 31))).toUInt32.toUInt16.toUInt32.toInt32))])
  exact retZ (t := .char) X5 hx hret hlk (by simp) (hb hby d26_59) eT5 (by decide) (by decide) ⟨rfl, N0, rfl⟩
set_option maxRecDepth 65536 in
set_option maxHeartbeats 40000000 in
theorem rm_get6_0 (l : Launch) (Z : State) (a0 : Array Value) (hw : ∀ d ∈ tables_1, d.before a0 Z = true) (b : Addr) (kb : ClassId) (x0 x1 x2 x3 x4 x5 : Int32) (h0 : Heap) (n0 : Nat) (O0 : Old Z n0 h0) (Sa : Sta Z Z.heap "java/lang/StringUTF16" "$assertionsDisabled" "Z" (.int (1 : Int32))) (Sh : Sta Z Z.heap "java/lang/StringUTF16" "HI_BYTE_SHIFT" "I" (.int (0 : Int32))) (Sl : Sta Z Z.heap "java/lang/StringUTF16" "LO_BYTE_SHIFT" "I" (.int (8 : Int32))) (Vb : Arv Z h0 b kb .byte (6 : Int32) [(.int x0), (.int x1), (.int x2), (.int x3), (.int x4), (.int x5)] (.int (0 : Int32))) :
    Rm l (⟨"java/lang/StringUTF16", "getChar", "([BI)C"⟩ : MethodName) jdk_52_method_5_code 2 (some .char) ({ frames := 0, cells := 0, slots := 0, locals := 0 } : Room) [] Z #[(.ref b), (.int (0 : Int32))] h0 (fun v h L => v = some (.int (nar .char ((((x0 &&& (255 : Int32)) <<< ((0 : Int32) &&& 31)) ||| ((x1 &&& (255 : Int32)) <<< ((8 : Int32) &&& 31))).toUInt32.toUInt16.toUInt32.toInt32))) ∧ Fr n0 L ∧ h = h0) := by
  refine Rm.of (plainFor_of_name pn_java_lang_StringUTF16) ?_
  intro p e s m below meth cod T X hx hZ hby hml hown hnm hret hlk eT0
  have hown : s.vm.findClass "java/lang/StringUTF16" = some m.cls := hown
  have hnm : meth.name = "getChar" := hnm
  have N0 := Fr.nil n0
  refine Goes.cast (ef_26 m b (0 : Int32)) ?_
  show Goes p e below _ T (mkF m 0 #[.val (.ref b), .val (.int (0 : Int32))] [])
  refine goGetS X hx hZ hown (host := "") (Or.inl (hw _ (List.mem_of_getElem? (i := 129) rfl))) Via.refl eT0 (Sa.ext O0.2) (g := (mkF m 0 #[.val (.ref b), .val (.int (0 : Int32))] [])) rfl (hb hby d26_0) ?_
  intro T1 X1 eT1
  show Goes p e below _ T1 (mkF m 3 #[.val (.ref b), .val (.int (0 : Int32))] [(.int (1 : Int32))])
  refine Goes.of (fun _ => XS.ifYes X1.here hx rfl (pc0 := 3) (pc' := 28) rfl (hb hby d26_3) rfl ((if0 _ _).trans (feq (by decide)).2) (by decide) (by decide)) ?_
  show Goes p e below _ T1 (mkF m 28 #[.val (.ref b), .val (.int (0 : Int32))] [])
  refine Goes.of (fun _ => XS.iloadN X1.here hx rfl (hb hby d26_28) rfl) ?_
  show Goes p e below _ T1 (mkF m 29 #[.val (.ref b), .val (.int (0 : Int32))] [(.int (0 : Int32))])
  refine Goes.of (fun _ => XS.iconst X1.here hx rfl (hb hby d26_29)) ?_
  show Goes p e below _ T1 (mkF m 30 #[.val (.ref b), .val (.int (0 : Int32))] [(.int (1 : Int32)), (.int (0 : Int32))])
  refine Goes.of (fun _ => XS.ishl X1.here hx rfl (hb hby d26_30) rfl) ?_
  show Goes p e below _ T1 (mkF m 31 #[.val (.ref b), .val (.int (0 : Int32))] [(.int (0 : Int32))])
  refine Goes.of (fun _ => XS.istoreN X1.here hx rfl (hb hby d26_31) rfl (l' := #[.val (.ref b), .val (.int (0 : Int32))]) rfl) ?_
  show Goes p e below _ T1 (mkF m 32 #[.val (.ref b), .val (.int (0 : Int32))] [])
  refine Goes.of (fun _ => XS.aloadN X1.here hx rfl (hb hby d26_32) rfl rfl) ?_
  show Goes p e below _ T1 (mkF m 33 #[.val (.ref b), .val (.int (0 : Int32))] [(.ref b)])
  refine Goes.of (fun _ => XS.iloadN X1.here hx rfl (hb hby d26_33) rfl) ?_
  show Goes p e below _ T1 (mkF m 34 #[.val (.ref b), .val (.int (0 : Int32))] [(.int (0 : Int32)), (.ref b)])
  refine Goes.of (fun _ => XS.iinc X1.here hx rfl (hb hby d26_34) rfl (l' := #[.val (.ref b), .val (.int (1 : Int32))]) rfl) ?_
  show Goes p e below _ T1 (mkF m 37 #[.val (.ref b), .val (.int (1 : Int32))] [(.int (0 : Int32)), (.ref b)])
  refine goLdB (.int x0) X1 hx hZ eT1 Vb (by decide) (by decide) rfl (g := (mkF m 37 #[.val (.ref b), .val (.int (1 : Int32))] [(.int (0 : Int32)), (.ref b)])) rfl rfl (hb hby d26_37) ?_
  show Goes p e below _ T1 (mkF m 38 #[.val (.ref b), .val (.int (1 : Int32))] [(.int x0)])
  refine Goes.of (fun _ => XS.sipush X1.here hx rfl (hb hby d26_38)) ?_
  show Goes p e below _ T1 (mkF m 41 #[.val (.ref b), .val (.int (1 : Int32))] [(.int (255 : Int32)), (.int x0)])
  refine Goes.of (fun _ => XS.iand X1.here hx rfl (hb hby d26_41) rfl) ?_
  show Goes p e below _ T1 (mkF m 42 #[.val (.ref b), .val (.int (1 : Int32))] [(.int (x0 &&& (255 : Int32)))])
  refine goGetS X1 hx hZ hown (host := "") (Or.inl (hw _ (List.mem_of_getElem? (i := 130) rfl))) Via.refl eT1 (Sh.ext O0.2) (g := (mkF m 42 #[.val (.ref b), .val (.int (1 : Int32))] [(.int (x0 &&& (255 : Int32)))])) rfl (hb hby d26_42) ?_
  intro T3 X3 eT3
  show Goes p e below _ T3 (mkF m 45 #[.val (.ref b), .val (.int (1 : Int32))] [(.int (0 : Int32)), (.int (x0 &&& (255 : Int32)))])
  refine Goes.of (fun _ => XS.ishl X3.here hx rfl (hb hby d26_45) rfl) ?_
  show Goes p e below _ T3 (mkF m 46 #[.val (.ref b), .val (.int (1 : Int32))] [(.int ((x0 &&& (255 : Int32)) <<< ((0 : Int32) &&& 31)))])
  refine Goes.of (fun _ => XS.aloadN X3.here hx rfl (hb hby d26_46) rfl rfl) ?_
  show Goes p e below _ T3 (mkF m 47 #[.val (.ref b), .val (.int (1 : Int32))] [(.ref b), (.int ((x0 &&& (255 : Int32)) <<< ((0 : Int32) &&& 31)))])
  refine Goes.of (fun _ => XS.iloadN X3.here hx rfl (hb hby d26_47) rfl) ?_
  show Goes p e below _ T3 (mkF m 48 #[.val (.ref b), .val (.int (1 : Int32))] [(.int (1 : Int32)), (.ref b), (.int ((x0 &&& (255 : Int32)) <<< ((0 : Int32) &&& 31)))])
  refine goLdB (.int x1) X3 hx hZ eT3 Vb (by decide) (by decide) rfl (g := (mkF m 48 #[.val (.ref b), .val (.int (1 : Int32))] [(.int (1 : Int32)), (.ref b), (.int ((x0 &&& (255 : Int32)) <<< ((0 : Int32) &&& 31)))])) rfl rfl (hb hby d26_48) ?_
  show Goes p e below _ T3 (mkF m 49 #[.val (.ref b), .val (.int (1 : Int32))] [(.int x1), (.int ((x0 &&& (255 : Int32)) <<< ((0 : Int32) &&& 31)))])
  refine Goes.of (fun _ => XS.sipush X3.here hx rfl (hb hby d26_49)) ?_
  show Goes p e below _ T3 (mkF m 52 #[.val (.ref b), .val (.int (1 : Int32))] [(.int (255 : Int32)), (.int x1), (.int ((x0 &&& (255 : Int32)) <<< ((0 : Int32) &&& 31)))])
  refine Goes.of (fun _ => XS.iand X3.here hx rfl (hb hby d26_52) rfl) ?_
  show Goes p e below _ T3 (mkF m 53 #[.val (.ref b), .val (.int (1 : Int32))] [(.int (x1 &&& (255 : Int32))), (.int ((x0 &&& (255 : Int32)) <<< ((0 : Int32) &&& 31)))])
  refine goGetS X3 hx hZ hown (host := "") (Or.inl (hw _ (List.mem_of_getElem? (i := 131) rfl))) Via.refl eT3 (Sl.ext O0.2) (g := (mkF m 53 #[.val (.ref b), .val (.int (1 : Int32))] [(.int (x1 &&& (255 : Int32))), (.int ((x0 &&& (255 : Int32)) <<< ((0 : Int32) &&& 31)))])) rfl (hb hby d26_53) ?_
  intro T5 X5 eT5
  show Goes p e below _ T5 (mkF m 56 #[.val (.ref b), .val (.int (1 : Int32))] [(.int (8 : Int32)), (.int (x1 &&& (255 : Int32))), (.int ((x0 &&& (255 : Int32)) <<< ((0 : Int32) &&& 31)))])
  refine Goes.of (fun _ => XS.ishl X5.here hx rfl (hb hby d26_56) rfl) ?_
  show Goes p e below _ T5 (mkF m 57 #[.val (.ref b), .val (.int (1 : Int32))] [(.int ((x1 &&& (255 : Int32)) <<< ((8 : Int32) &&& 31))), (.int ((x0 &&& (255 : Int32)) <<< ((0 : Int32) &&& 31)))])
  refine Goes.of (fun _ => XS.ior X5.here hx rfl (hb hby d26_57) rfl) ?_
  show Goes p e below _ T5 (mkF m 58 #[.val (.ref b), .val (.int (1 : Int32))] [(.int (((x0 &&& (255 : Int32)) <<< ((0 : Int32) &&& 31)) ||| ((x1 &&& (255 : Int32)) <<< ((8 : Int32) &&& 31))))])
  refine Goes.of (fun _ => XS.i2c X5.here hx rfl (hb hby d26_58) rfl) ?_
  show Goes p e below _ T5 (mkF m 59 #[.val (.ref b), .val (.int (1 : Int32))] [(.int ((((x0 &&& (255 : Int32)) <<< ((0 : Int32) &&& 31)) ||| ((x1 &&& (255 : Int32)) <<< ((8 : Int32) &&& 31))).toUInt32.toUInt16.toUInt32.toInt32))])
  exact retZ (t := .char) X5 hx hret hlk (by simp) (hb hby d26_59) eT5 (by decide) (by decide) ⟨rfl, N0, rfl⟩
set_option maxRecDepth 65536 in
set_option maxHeartbeats 40000000 in
theorem rm_get6_1 (l : Launch) (Z : State) (a0 : Array Value) (hw : ∀ d ∈ tables_1, d.before a0 Z = true) (b : Addr) (kb : ClassId) (x0 x1 x2 x3 x4 x5 : Int32) (h0 : Heap) (n0 : Nat) (O0 : Old Z n0 h0) (Sa : Sta Z Z.heap "java/lang/StringUTF16" "$assertionsDisabled" "Z" (.int (1 : Int32))) (Sh : Sta Z Z.heap "java/lang/StringUTF16" "HI_BYTE_SHIFT" "I" (.int (0 : Int32))) (Sl : Sta Z Z.heap "java/lang/StringUTF16" "LO_BYTE_SHIFT" "I" (.int (8 : Int32))) (Vb : Arv Z h0 b kb .byte (6 : Int32) [(.int x0), (.int x1), (.int x2), (.int x3), (.int x4), (.int x5)] (.int (0 : Int32))) :
    Rm l (⟨"java/lang/StringUTF16", "getChar", "([BI)C"⟩ : MethodName) jdk_52_method_5_code 2 (some .char) ({ frames := 0, cells := 0, slots := 0, locals := 0 } : Room) [] Z #[(.ref b), (.int (1 : Int32))] h0 (fun v h L => v = some (.int (nar .char ((((x2 &&& (255 : Int32)) <<< ((0 : Int32) &&& 31)) ||| ((x3 &&& (255 : Int32)) <<< ((8 : Int32) &&& 31))).toUInt32.toUInt16.toUInt32.toInt32))) ∧ Fr n0 L ∧ h = h0) := by
  refine Rm.of (plainFor_of_name pn_java_lang_StringUTF16) ?_
  intro p e s m below meth cod T X hx hZ hby hml hown hnm hret hlk eT0
  have hown : s.vm.findClass "java/lang/StringUTF16" = some m.cls := hown
  have hnm : meth.name = "getChar" := hnm
  have N0 := Fr.nil n0
  refine Goes.cast (ef_26 m b (1 : Int32)) ?_
  show Goes p e below _ T (mkF m 0 #[.val (.ref b), .val (.int (1 : Int32))] [])
  refine goGetS X hx hZ hown (host := "") (Or.inl (hw _ (List.mem_of_getElem? (i := 129) rfl))) Via.refl eT0 (Sa.ext O0.2) (g := (mkF m 0 #[.val (.ref b), .val (.int (1 : Int32))] [])) rfl (hb hby d26_0) ?_
  intro T1 X1 eT1
  show Goes p e below _ T1 (mkF m 3 #[.val (.ref b), .val (.int (1 : Int32))] [(.int (1 : Int32))])
  refine Goes.of (fun _ => XS.ifYes X1.here hx rfl (pc0 := 3) (pc' := 28) rfl (hb hby d26_3) rfl ((if0 _ _).trans (feq (by decide)).2) (by decide) (by decide)) ?_
  show Goes p e below _ T1 (mkF m 28 #[.val (.ref b), .val (.int (1 : Int32))] [])
  refine Goes.of (fun _ => XS.iloadN X1.here hx rfl (hb hby d26_28) rfl) ?_
  show Goes p e below _ T1 (mkF m 29 #[.val (.ref b), .val (.int (1 : Int32))] [(.int (1 : Int32))])
  refine Goes.of (fun _ => XS.iconst X1.here hx rfl (hb hby d26_29)) ?_
  show Goes p e below _ T1 (mkF m 30 #[.val (.ref b), .val (.int (1 : Int32))] [(.int (1 : Int32)), (.int (1 : Int32))])
  refine Goes.of (fun _ => XS.ishl X1.here hx rfl (hb hby d26_30) rfl) ?_
  show Goes p e below _ T1 (mkF m 31 #[.val (.ref b), .val (.int (1 : Int32))] [(.int (2 : Int32))])
  refine Goes.of (fun _ => XS.istoreN X1.here hx rfl (hb hby d26_31) rfl (l' := #[.val (.ref b), .val (.int (2 : Int32))]) rfl) ?_
  show Goes p e below _ T1 (mkF m 32 #[.val (.ref b), .val (.int (2 : Int32))] [])
  refine Goes.of (fun _ => XS.aloadN X1.here hx rfl (hb hby d26_32) rfl rfl) ?_
  show Goes p e below _ T1 (mkF m 33 #[.val (.ref b), .val (.int (2 : Int32))] [(.ref b)])
  refine Goes.of (fun _ => XS.iloadN X1.here hx rfl (hb hby d26_33) rfl) ?_
  show Goes p e below _ T1 (mkF m 34 #[.val (.ref b), .val (.int (2 : Int32))] [(.int (2 : Int32)), (.ref b)])
  refine Goes.of (fun _ => XS.iinc X1.here hx rfl (hb hby d26_34) rfl (l' := #[.val (.ref b), .val (.int (3 : Int32))]) rfl) ?_
  show Goes p e below _ T1 (mkF m 37 #[.val (.ref b), .val (.int (3 : Int32))] [(.int (2 : Int32)), (.ref b)])
  refine goLdB (.int x2) X1 hx hZ eT1 Vb (by decide) (by decide) rfl (g := (mkF m 37 #[.val (.ref b), .val (.int (3 : Int32))] [(.int (2 : Int32)), (.ref b)])) rfl rfl (hb hby d26_37) ?_
  show Goes p e below _ T1 (mkF m 38 #[.val (.ref b), .val (.int (3 : Int32))] [(.int x2)])
  refine Goes.of (fun _ => XS.sipush X1.here hx rfl (hb hby d26_38)) ?_
  show Goes p e below _ T1 (mkF m 41 #[.val (.ref b), .val (.int (3 : Int32))] [(.int (255 : Int32)), (.int x2)])
  refine Goes.of (fun _ => XS.iand X1.here hx rfl (hb hby d26_41) rfl) ?_
  show Goes p e below _ T1 (mkF m 42 #[.val (.ref b), .val (.int (3 : Int32))] [(.int (x2 &&& (255 : Int32)))])
  refine goGetS X1 hx hZ hown (host := "") (Or.inl (hw _ (List.mem_of_getElem? (i := 130) rfl))) Via.refl eT1 (Sh.ext O0.2) (g := (mkF m 42 #[.val (.ref b), .val (.int (3 : Int32))] [(.int (x2 &&& (255 : Int32)))])) rfl (hb hby d26_42) ?_
  intro T3 X3 eT3
  show Goes p e below _ T3 (mkF m 45 #[.val (.ref b), .val (.int (3 : Int32))] [(.int (0 : Int32)), (.int (x2 &&& (255 : Int32)))])
  refine Goes.of (fun _ => XS.ishl X3.here hx rfl (hb hby d26_45) rfl) ?_
  show Goes p e below _ T3 (mkF m 46 #[.val (.ref b), .val (.int (3 : Int32))] [(.int ((x2 &&& (255 : Int32)) <<< ((0 : Int32) &&& 31)))])
  refine Goes.of (fun _ => XS.aloadN X3.here hx rfl (hb hby d26_46) rfl rfl) ?_
  show Goes p e below _ T3 (mkF m 47 #[.val (.ref b), .val (.int (3 : Int32))] [(.ref b), (.int ((x2 &&& (255 : Int32)) <<< ((0 : Int32) &&& 31)))])
  refine Goes.of (fun _ => XS.iloadN X3.here hx rfl (hb hby d26_47) rfl) ?_
  show Goes p e below _ T3 (mkF m 48 #[.val (.ref b), .val (.int (3 : Int32))] [(.int (3 : Int32)), (.ref b), (.int ((x2 &&& (255 : Int32)) <<< ((0 : Int32) &&& 31)))])
  refine goLdB (.int x3) X3 hx hZ eT3 Vb (by decide) (by decide) rfl (g := (mkF m 48 #[.val (.ref b), .val (.int (3 : Int32))] [(.int (3 : Int32)), (.ref b), (.int ((x2 &&& (255 : Int32)) <<< ((0 : Int32) &&& 31)))])) rfl rfl (hb hby d26_48) ?_
  show Goes p e below _ T3 (mkF m 49 #[.val (.ref b), .val (.int (3 : Int32))] [(.int x3), (.int ((x2 &&& (255 : Int32)) <<< ((0 : Int32) &&& 31)))])
  refine Goes.of (fun _ => XS.sipush X3.here hx rfl (hb hby d26_49)) ?_
  show Goes p e below _ T3 (mkF m 52 #[.val (.ref b), .val (.int (3 : Int32))] [(.int (255 : Int32)), (.int x3), (.int ((x2 &&& (255 : Int32)) <<< ((0 : Int32) &&& 31)))])
  refine Goes.of (fun _ => XS.iand X3.here hx rfl (hb hby d26_52) rfl) ?_
  show Goes p e below _ T3 (mkF m 53 #[.val (.ref b), .val (.int (3 : Int32))] [(.int (x3 &&& (255 : Int32))), (.int ((x2 &&& (255 : Int32)) <<< ((0 : Int32) &&& 31)))])
  refine goGetS X3 hx hZ hown (host := "") (Or.inl (hw _ (List.mem_of_getElem? (i := 131) rfl))) Via.refl eT3 (Sl.ext O0.2) (g := (mkF m 53 #[.val (.ref b), .val (.int (3 : Int32))] [(.int (x3 &&& (255 : Int32))), (.int ((x2 &&& (255 : Int32)) <<< ((0 : Int32) &&& 31)))])) rfl (hb hby d26_53) ?_
  intro T5 X5 eT5
  show Goes p e below _ T5 (mkF m 56 #[.val (.ref b), .val (.int (3 : Int32))] [(.int (8 : Int32)), (.int (x3 &&& (255 : Int32))), (.int ((x2 &&& (255 : Int32)) <<< ((0 : Int32) &&& 31)))])
  refine Goes.of (fun _ => XS.ishl X5.here hx rfl (hb hby d26_56) rfl) ?_
  show Goes p e below _ T5 (mkF m 57 #[.val (.ref b), .val (.int (3 : Int32))] [(.int ((x3 &&& (255 : Int32)) <<< ((8 : Int32) &&& 31))), (.int ((x2 &&& (255 : Int32)) <<< ((0 : Int32) &&& 31)))])
  refine Goes.of (fun _ => XS.ior X5.here hx rfl (hb hby d26_57) rfl) ?_
  show Goes p e below _ T5 (mkF m 58 #[.val (.ref b), .val (.int (3 : Int32))] [(.int (((x2 &&& (255 : Int32)) <<< ((0 : Int32) &&& 31)) ||| ((x3 &&& (255 : Int32)) <<< ((8 : Int32) &&& 31))))])
  refine Goes.of (fun _ => XS.i2c X5.here hx rfl (hb hby d26_58) rfl) ?_
  show Goes p e below _ T5 (mkF m 59 #[.val (.ref b), .val (.int (3 : Int32))] [(.int ((((x2 &&& (255 : Int32)) <<< ((0 : Int32) &&& 31)) ||| ((x3 &&& (255 : Int32)) <<< ((8 : Int32) &&& 31))).toUInt32.toUInt16.toUInt32.toInt32))])
  exact retZ (t := .char) X5 hx hret hlk (by simp) (hb hby d26_59) eT5 (by decide) (by decide) ⟨rfl, N0, rfl⟩
set_option maxRecDepth 65536 in
set_option maxHeartbeats 40000000 in
theorem rm_get6_2 (l : Launch) (Z : State) (a0 : Array Value) (hw : ∀ d ∈ tables_1, d.before a0 Z = true) (b : Addr) (kb : ClassId) (x0 x1 x2 x3 x4 x5 : Int32) (h0 : Heap) (n0 : Nat) (O0 : Old Z n0 h0) (Sa : Sta Z Z.heap "java/lang/StringUTF16" "$assertionsDisabled" "Z" (.int (1 : Int32))) (Sh : Sta Z Z.heap "java/lang/StringUTF16" "HI_BYTE_SHIFT" "I" (.int (0 : Int32))) (Sl : Sta Z Z.heap "java/lang/StringUTF16" "LO_BYTE_SHIFT" "I" (.int (8 : Int32))) (Vb : Arv Z h0 b kb .byte (6 : Int32) [(.int x0), (.int x1), (.int x2), (.int x3), (.int x4), (.int x5)] (.int (0 : Int32))) :
    Rm l (⟨"java/lang/StringUTF16", "getChar", "([BI)C"⟩ : MethodName) jdk_52_method_5_code 2 (some .char) ({ frames := 0, cells := 0, slots := 0, locals := 0 } : Room) [] Z #[(.ref b), (.int (2 : Int32))] h0 (fun v h L => v = some (.int (nar .char ((((x4 &&& (255 : Int32)) <<< ((0 : Int32) &&& 31)) ||| ((x5 &&& (255 : Int32)) <<< ((8 : Int32) &&& 31))).toUInt32.toUInt16.toUInt32.toInt32))) ∧ Fr n0 L ∧ h = h0) := by
  refine Rm.of (plainFor_of_name pn_java_lang_StringUTF16) ?_
  intro p e s m below meth cod T X hx hZ hby hml hown hnm hret hlk eT0
  have hown : s.vm.findClass "java/lang/StringUTF16" = some m.cls := hown
  have hnm : meth.name = "getChar" := hnm
  have N0 := Fr.nil n0
  refine Goes.cast (ef_26 m b (2 : Int32)) ?_
  show Goes p e below _ T (mkF m 0 #[.val (.ref b), .val (.int (2 : Int32))] [])
  refine goGetS X hx hZ hown (host := "") (Or.inl (hw _ (List.mem_of_getElem? (i := 129) rfl))) Via.refl eT0 (Sa.ext O0.2) (g := (mkF m 0 #[.val (.ref b), .val (.int (2 : Int32))] [])) rfl (hb hby d26_0) ?_
  intro T1 X1 eT1
  show Goes p e below _ T1 (mkF m 3 #[.val (.ref b), .val (.int (2 : Int32))] [(.int (1 : Int32))])
  refine Goes.of (fun _ => XS.ifYes X1.here hx rfl (pc0 := 3) (pc' := 28) rfl (hb hby d26_3) rfl ((if0 _ _).trans (feq (by decide)).2) (by decide) (by decide)) ?_
  show Goes p e below _ T1 (mkF m 28 #[.val (.ref b), .val (.int (2 : Int32))] [])
  refine Goes.of (fun _ => XS.iloadN X1.here hx rfl (hb hby d26_28) rfl) ?_
  show Goes p e below _ T1 (mkF m 29 #[.val (.ref b), .val (.int (2 : Int32))] [(.int (2 : Int32))])
  refine Goes.of (fun _ => XS.iconst X1.here hx rfl (hb hby d26_29)) ?_
  show Goes p e below _ T1 (mkF m 30 #[.val (.ref b), .val (.int (2 : Int32))] [(.int (1 : Int32)), (.int (2 : Int32))])
  refine Goes.of (fun _ => XS.ishl X1.here hx rfl (hb hby d26_30) rfl) ?_
  show Goes p e below _ T1 (mkF m 31 #[.val (.ref b), .val (.int (2 : Int32))] [(.int (4 : Int32))])
  refine Goes.of (fun _ => XS.istoreN X1.here hx rfl (hb hby d26_31) rfl (l' := #[.val (.ref b), .val (.int (4 : Int32))]) rfl) ?_
  show Goes p e below _ T1 (mkF m 32 #[.val (.ref b), .val (.int (4 : Int32))] [])
  refine Goes.of (fun _ => XS.aloadN X1.here hx rfl (hb hby d26_32) rfl rfl) ?_
  show Goes p e below _ T1 (mkF m 33 #[.val (.ref b), .val (.int (4 : Int32))] [(.ref b)])
  refine Goes.of (fun _ => XS.iloadN X1.here hx rfl (hb hby d26_33) rfl) ?_
  show Goes p e below _ T1 (mkF m 34 #[.val (.ref b), .val (.int (4 : Int32))] [(.int (4 : Int32)), (.ref b)])
  refine Goes.of (fun _ => XS.iinc X1.here hx rfl (hb hby d26_34) rfl (l' := #[.val (.ref b), .val (.int (5 : Int32))]) rfl) ?_
  show Goes p e below _ T1 (mkF m 37 #[.val (.ref b), .val (.int (5 : Int32))] [(.int (4 : Int32)), (.ref b)])
  refine goLdB (.int x4) X1 hx hZ eT1 Vb (by decide) (by decide) rfl (g := (mkF m 37 #[.val (.ref b), .val (.int (5 : Int32))] [(.int (4 : Int32)), (.ref b)])) rfl rfl (hb hby d26_37) ?_
  show Goes p e below _ T1 (mkF m 38 #[.val (.ref b), .val (.int (5 : Int32))] [(.int x4)])
  refine Goes.of (fun _ => XS.sipush X1.here hx rfl (hb hby d26_38)) ?_
  show Goes p e below _ T1 (mkF m 41 #[.val (.ref b), .val (.int (5 : Int32))] [(.int (255 : Int32)), (.int x4)])
  refine Goes.of (fun _ => XS.iand X1.here hx rfl (hb hby d26_41) rfl) ?_
  show Goes p e below _ T1 (mkF m 42 #[.val (.ref b), .val (.int (5 : Int32))] [(.int (x4 &&& (255 : Int32)))])
  refine goGetS X1 hx hZ hown (host := "") (Or.inl (hw _ (List.mem_of_getElem? (i := 130) rfl))) Via.refl eT1 (Sh.ext O0.2) (g := (mkF m 42 #[.val (.ref b), .val (.int (5 : Int32))] [(.int (x4 &&& (255 : Int32)))])) rfl (hb hby d26_42) ?_
  intro T3 X3 eT3
  show Goes p e below _ T3 (mkF m 45 #[.val (.ref b), .val (.int (5 : Int32))] [(.int (0 : Int32)), (.int (x4 &&& (255 : Int32)))])
  refine Goes.of (fun _ => XS.ishl X3.here hx rfl (hb hby d26_45) rfl) ?_
  show Goes p e below _ T3 (mkF m 46 #[.val (.ref b), .val (.int (5 : Int32))] [(.int ((x4 &&& (255 : Int32)) <<< ((0 : Int32) &&& 31)))])
  refine Goes.of (fun _ => XS.aloadN X3.here hx rfl (hb hby d26_46) rfl rfl) ?_
  show Goes p e below _ T3 (mkF m 47 #[.val (.ref b), .val (.int (5 : Int32))] [(.ref b), (.int ((x4 &&& (255 : Int32)) <<< ((0 : Int32) &&& 31)))])
  refine Goes.of (fun _ => XS.iloadN X3.here hx rfl (hb hby d26_47) rfl) ?_
  show Goes p e below _ T3 (mkF m 48 #[.val (.ref b), .val (.int (5 : Int32))] [(.int (5 : Int32)), (.ref b), (.int ((x4 &&& (255 : Int32)) <<< ((0 : Int32) &&& 31)))])
  refine goLdB (.int x5) X3 hx hZ eT3 Vb (by decide) (by decide) rfl (g := (mkF m 48 #[.val (.ref b), .val (.int (5 : Int32))] [(.int (5 : Int32)), (.ref b), (.int ((x4 &&& (255 : Int32)) <<< ((0 : Int32) &&& 31)))])) rfl rfl (hb hby d26_48) ?_
  show Goes p e below _ T3 (mkF m 49 #[.val (.ref b), .val (.int (5 : Int32))] [(.int x5), (.int ((x4 &&& (255 : Int32)) <<< ((0 : Int32) &&& 31)))])
  refine Goes.of (fun _ => XS.sipush X3.here hx rfl (hb hby d26_49)) ?_
  show Goes p e below _ T3 (mkF m 52 #[.val (.ref b), .val (.int (5 : Int32))] [(.int (255 : Int32)), (.int x5), (.int ((x4 &&& (255 : Int32)) <<< ((0 : Int32) &&& 31)))])
  refine Goes.of (fun _ => XS.iand X3.here hx rfl (hb hby d26_52) rfl) ?_
  show Goes p e below _ T3 (mkF m 53 #[.val (.ref b), .val (.int (5 : Int32))] [(.int (x5 &&& (255 : Int32))), (.int ((x4 &&& (255 : Int32)) <<< ((0 : Int32) &&& 31)))])
  refine goGetS X3 hx hZ hown (host := "") (Or.inl (hw _ (List.mem_of_getElem? (i := 131) rfl))) Via.refl eT3 (Sl.ext O0.2) (g := (mkF m 53 #[.val (.ref b), .val (.int (5 : Int32))] [(.int (x5 &&& (255 : Int32))), (.int ((x4 &&& (255 : Int32)) <<< ((0 : Int32) &&& 31)))])) rfl (hb hby d26_53) ?_
  intro T5 X5 eT5
  show Goes p e below _ T5 (mkF m 56 #[.val (.ref b), .val (.int (5 : Int32))] [(.int (8 : Int32)), (.int (x5 &&& (255 : Int32))), (.int ((x4 &&& (255 : Int32)) <<< ((0 : Int32) &&& 31)))])
  refine Goes.of (fun _ => XS.ishl X5.here hx rfl (hb hby d26_56) rfl) ?_
  show Goes p e below _ T5 (mkF m 57 #[.val (.ref b), .val (.int (5 : Int32))] [(.int ((x5 &&& (255 : Int32)) <<< ((8 : Int32) &&& 31))), (.int ((x4 &&& (255 : Int32)) <<< ((0 : Int32) &&& 31)))])
  refine Goes.of (fun _ => XS.ior X5.here hx rfl (hb hby d26_57) rfl) ?_
  show Goes p e below _ T5 (mkF m 58 #[.val (.ref b), .val (.int (5 : Int32))] [(.int (((x4 &&& (255 : Int32)) <<< ((0 : Int32) &&& 31)) ||| ((x5 &&& (255 : Int32)) <<< ((8 : Int32) &&& 31))))])
  refine Goes.of (fun _ => XS.i2c X5.here hx rfl (hb hby d26_58) rfl) ?_
  show Goes p e below _ T5 (mkF m 59 #[.val (.ref b), .val (.int (5 : Int32))] [(.int ((((x4 &&& (255 : Int32)) <<< ((0 : Int32) &&& 31)) ||| ((x5 &&& (255 : Int32)) <<< ((8 : Int32) &&& 31))).toUInt32.toUInt16.toUInt32.toInt32))])
  exact retZ (t := .char) X5 hx hret hlk (by simp) (hb hby d26_59) eT5 (by decide) (by decide) ⟨rfl, N0, rfl⟩
set_option maxRecDepth 65536 in
set_option maxHeartbeats 40000000 in
theorem rm_tob3_2 (l : Launch) (Z : State) (a0 : Array Value) (hw : ∀ d ∈ tables_1, d.before a0 Z = true) (a : Addr) (ka : ClassId) (c0 c1 : Int32) (h0 : Heap) (n0 : Nat) (O0 : Old Z n0 h0) (Sa : Sta Z Z.heap "java/lang/StringUTF16" "$assertionsDisabled" "Z" (.int (1 : Int32))) (Sh : Sta Z Z.heap "java/lang/StringUTF16" "HI_BYTE_SHIFT" "I" (.int (0 : Int32))) (Sl : Sta Z Z.heap "java/lang/StringUTF16" "LO_BYTE_SHIFT" "I" (.int (8 : Int32))) (Va : Arv Z h0 a ka .char (2 : Int32) [(.int c0), (.int c1)] (.int (0 : Int32))) :
    Rm l (⟨"java/lang/StringUTF16", "toBytes", "([CII)[B"⟩ : MethodName) jdk_52_method_14_code 5 (some (.array .byte)) ({ frames := 2, cells := 1, slots := 4, locals := 24 } : Room) [] Z #[(.ref a), (.int (0 : Int32)), (.int (2 : Int32))] h0 (fun v h L => ∃ (b : Addr) (kb : ClassId), v = some (.ref b) ∧ Fr n0 L ∧ Keep h0 h [] ∧ n0 ≤ b ∧ h0.size ≤ b ∧ Arv Z h b kb .byte (4 : Int32) [(.int (nar .byte ((c0 >>> ((0 : Int32) &&& 31)).toInt8.toInt32))), (.int (nar .byte ((c0 >>> ((8 : Int32) &&& 31)).toInt8.toInt32))), (.int (nar .byte ((c1 >>> ((0 : Int32) &&& 31)).toInt8.toInt32))), (.int (nar .byte ((c1 >>> ((8 : Int32) &&& 31)).toInt8.toInt32)))] (.int (0 : Int32))) := by
  refine Rm.of (plainFor_of_name pn_java_lang_StringUTF16) ?_
  intro p e s m below meth cod T X hx hZ hby hml hown hnm hret hlk eT0
  have hown : s.vm.findClass "java/lang/StringUTF16" = some m.cls := hown
  have hnm : meth.name = "toBytes" := hnm
  have N0 := Fr.nil n0
  have Kp := Keep.refl h0 []
  refine Goes.cast (ef_23 m a (0 : Int32) (2 : Int32)) ?_
  show Goes p e below _ T (mkF m 0 #[.val (.ref a), .val (.int (0 : Int32)), .val (.int (2 : Int32)), .unset, .unset] [])
  refine Goes.of (fun _ => XS.iloadN X.here hx rfl (hb hby d23_0) rfl) ?_
  show Goes p e below _ T (mkF m 1 #[.val (.ref a), .val (.int (0 : Int32)), .val (.int (2 : Int32)), .unset, .unset] [(.int (2 : Int32))])
  refine goStatic 0 X hx hZ hown (hw _ (List.mem_of_getElem? (i := 141) rfl)) (hw _ (List.mem_of_getElem? (i := 142) rfl)) (hw _ (List.mem_of_getElem? (i := 97) rfl)) (hw _ (List.mem_of_getElem? (i := 143) rfl)) (by decide) (rm_nbf2 l Z a0 hw h0 n0 O0) eT0 (g := (mkF m 1 #[.val (.ref a), .val (.int (0 : Int32)), .val (.int (2 : Int32)), .unset, .unset] [(.int (2 : Int32))])) rfl (by rw [hml]; rfl) [(.int (2 : Int32))] [] (lenOf pd__I__B rfl) rfl rfl (by show 2 * 0 + _ ≤ _; exact Nat.le_of_eq rfl) (hb hby d23_1) (by decide) (by decide) (by decide) (by decide) ?_
  intro v1 T1 L1 X1 q1
  obtain ⟨nb1, kn1, rfl, Nq1, Kq1, gq1, sq1, Vn1⟩ := q1
  have N1 := Fr.app N0 Nq1
  have g_nb1 : n0 ≤ nb1 := gq1
  have sz_nb1 : h0.size ≤ nb1 := Nat.le_trans Kp.1 sq1
  have ne_a_nb1 : a ≠ nb1 := Nat.ne_of_lt (Nat.lt_of_lt_of_le Va.lt sq1)
  have Va := Va.keep Kq1 nin0
  have Kp := Kp.trans Kq1 all0
  have O0 := O0.keep Kq1 all0
  show Goes p e below _ T1 (mkF m 4 #[.val (.ref a), .val (.int (0 : Int32)), .val (.int (2 : Int32)), .unset, .unset] [(.ref nb1)])
  refine Goes.of (fun _ => XS.astoreN X1.here hx rfl (hb hby d23_4) rfl rfl (l' := #[.val (.ref a), .val (.int (0 : Int32)), .val (.int (2 : Int32)), .val (.ref nb1), .unset]) rfl) ?_
  show Goes p e below _ T1 (mkF m 5 #[.val (.ref a), .val (.int (0 : Int32)), .val (.int (2 : Int32)), .val (.ref nb1), .unset] [])
  refine Goes.of (fun _ => XS.iconst X1.here hx rfl (hb hby d23_5)) ?_
  show Goes p e below _ T1 (mkF m 6 #[.val (.ref a), .val (.int (0 : Int32)), .val (.int (2 : Int32)), .val (.ref nb1), .unset] [(.int (0 : Int32))])
  refine Goes.of (fun _ => XS.istore X1.here hx rfl (hb hby d23_6) rfl (l' := #[.val (.ref a), .val (.int (0 : Int32)), .val (.int (2 : Int32)), .val (.ref nb1), .val (.int (0 : Int32))]) rfl) ?_
  show Goes p e below _ T1 (mkF m 8 #[.val (.ref a), .val (.int (0 : Int32)), .val (.int (2 : Int32)), .val (.ref nb1), .val (.int (0 : Int32))] [])
  refine Goes.of (fun _ => XS.iload X1.here hx rfl (hb hby d23_8) rfl) ?_
  show Goes p e below _ T1 (mkF m 10 #[.val (.ref a), .val (.int (0 : Int32)), .val (.int (2 : Int32)), .val (.ref nb1), .val (.int (0 : Int32))] [(.int (0 : Int32))])
  refine Goes.of (fun _ => XS.iloadN X1.here hx rfl (hb hby d23_10) rfl) ?_
  show Goes p e below _ T1 (mkF m 11 #[.val (.ref a), .val (.int (0 : Int32)), .val (.int (2 : Int32)), .val (.ref nb1), .val (.int (0 : Int32))] [(.int (2 : Int32)), (.int (0 : Int32))])
  refine Goes.of (fun _ => XS.icmpNo X1.here hx rfl (hb hby d23_11) rfl (tlt (by decide)).2.1) ?_
  show Goes p e below _ T1 (mkF m 14 #[.val (.ref a), .val (.int (0 : Int32)), .val (.int (2 : Int32)), .val (.ref nb1), .val (.int (0 : Int32))] [])
  refine Goes.of (fun _ => XS.aloadN X1.here hx rfl (hb hby d23_14) rfl rfl) ?_
  show Goes p e below _ T1 (mkF m 15 #[.val (.ref a), .val (.int (0 : Int32)), .val (.int (2 : Int32)), .val (.ref nb1), .val (.int (0 : Int32))] [(.ref nb1)])
  refine Goes.of (fun _ => XS.iload X1.here hx rfl (hb hby d23_15) rfl) ?_
  show Goes p e below _ T1 (mkF m 17 #[.val (.ref a), .val (.int (0 : Int32)), .val (.int (2 : Int32)), .val (.ref nb1), .val (.int (0 : Int32))] [(.int (0 : Int32)), (.ref nb1)])
  refine Goes.of (fun _ => XS.aloadN X1.here hx rfl (hb hby d23_17) rfl rfl) ?_
  show Goes p e below _ T1 (mkF m 18 #[.val (.ref a), .val (.int (0 : Int32)), .val (.int (2 : Int32)), .val (.ref nb1), .val (.int (0 : Int32))] [(.ref a), (.int (0 : Int32)), (.ref nb1)])
  refine Goes.of (fun _ => XS.iloadN X1.here hx rfl (hb hby d23_18) rfl) ?_
  show Goes p e below _ T1 (mkF m 19 #[.val (.ref a), .val (.int (0 : Int32)), .val (.int (2 : Int32)), .val (.ref nb1), .val (.int (0 : Int32))] [(.int (0 : Int32)), (.ref a), (.int (0 : Int32)), (.ref nb1)])
  refine goLdC (.int c0) X1 hx hZ (rfl : T1.heap = _) Va (by decide) (by decide) rfl (g := (mkF m 19 #[.val (.ref a), .val (.int (0 : Int32)), .val (.int (2 : Int32)), .val (.ref nb1), .val (.int (0 : Int32))] [(.int (0 : Int32)), (.ref a), (.int (0 : Int32)), (.ref nb1)])) rfl rfl (hb hby d23_19) ?_
  show Goes p e below _ T1 (mkF m 20 #[.val (.ref a), .val (.int (0 : Int32)), .val (.int (2 : Int32)), .val (.ref nb1), .val (.int (0 : Int32))] [(.int c0), (.int (0 : Int32)), (.ref nb1)])
  refine goStatic 0 X1 hx hZ hown (hw _ (List.mem_of_getElem? (i := 126) rfl)) (hw _ (List.mem_of_getElem? (i := 127) rfl)) (hw _ (List.mem_of_getElem? (i := 97) rfl)) (hw _ (List.mem_of_getElem? (i := 128) rfl)) (by decide) (rm_put4_0 l Z a0 hw nb1 _ (0 : Int32) (0 : Int32) (0 : Int32) (0 : Int32) c0 T1.heap n0 O0 Sa Sh Sl g_nb1 Vn1) (rfl : T1.heap = _) (g := (mkF m 20 #[.val (.ref a), .val (.int (0 : Int32)), .val (.int (2 : Int32)), .val (.ref nb1), .val (.int (0 : Int32))] [(.int c0), (.int (0 : Int32)), (.ref nb1)])) rfl (by rw [hml]; rfl) [(.ref nb1), (.int (0 : Int32)), (.int c0)] [] (lenOf pd___BII_V rfl) rfl rfl (by show 2 * 0 + _ ≤ _; exact Nat.le_of_eq rfl) (hb hby d23_20) (by decide) (by decide) (by decide) (by decide) ?_
  intro v3 T3 L3 X3 q3
  obtain ⟨rfl, Nq3, Kq3, Vp3⟩ := q3
  have N3 := Fr.app N1 Nq3
  have Va := Va.keep Kq3 (ninS ne_a_nb1 nin0)
  have Kp := Kp.trans Kq3 (allS (Or.inr sz_nb1) all0)
  have O0 := O0.keep Kq3 (allS g_nb1 all0)
  show Goes p e below _ T3 (mkF m 23 #[.val (.ref a), .val (.int (0 : Int32)), .val (.int (2 : Int32)), .val (.ref nb1), .val (.int (0 : Int32))] [])
  refine Goes.of (fun _ => XS.iinc X3.here hx rfl (hb hby d23_23) rfl (l' := #[.val (.ref a), .val (.int (1 : Int32)), .val (.int (2 : Int32)), .val (.ref nb1), .val (.int (0 : Int32))]) rfl) ?_
  show Goes p e below _ T3 (mkF m 26 #[.val (.ref a), .val (.int (1 : Int32)), .val (.int (2 : Int32)), .val (.ref nb1), .val (.int (0 : Int32))] [])
  refine Goes.of (fun _ => XS.iinc X3.here hx rfl (hb hby d23_26) rfl (l' := #[.val (.ref a), .val (.int (1 : Int32)), .val (.int (2 : Int32)), .val (.ref nb1), .val (.int (1 : Int32))]) rfl) ?_
  show Goes p e below _ T3 (mkF m 29 #[.val (.ref a), .val (.int (1 : Int32)), .val (.int (2 : Int32)), .val (.ref nb1), .val (.int (1 : Int32))] [])
  refine Goes.of (fun _ => XS.goto X3.here hx rfl (pc0 := 29) (pc' := 8) rfl (hb hby d23_29) (by decide) (by decide)) ?_
  show Goes p e below _ T3 (mkF m 8 #[.val (.ref a), .val (.int (1 : Int32)), .val (.int (2 : Int32)), .val (.ref nb1), .val (.int (1 : Int32))] [])
  refine Goes.of (fun _ => XS.iload X3.here hx rfl (hb hby d23_8) rfl) ?_
  show Goes p e below _ T3 (mkF m 10 #[.val (.ref a), .val (.int (1 : Int32)), .val (.int (2 : Int32)), .val (.ref nb1), .val (.int (1 : Int32))] [(.int (1 : Int32))])
  refine Goes.of (fun _ => XS.iloadN X3.here hx rfl (hb hby d23_10) rfl) ?_
  show Goes p e below _ T3 (mkF m 11 #[.val (.ref a), .val (.int (1 : Int32)), .val (.int (2 : Int32)), .val (.ref nb1), .val (.int (1 : Int32))] [(.int (2 : Int32)), (.int (1 : Int32))])
  refine Goes.of (fun _ => XS.icmpNo X3.here hx rfl (hb hby d23_11) rfl (tlt (by decide)).2.1) ?_
  show Goes p e below _ T3 (mkF m 14 #[.val (.ref a), .val (.int (1 : Int32)), .val (.int (2 : Int32)), .val (.ref nb1), .val (.int (1 : Int32))] [])
  refine Goes.of (fun _ => XS.aloadN X3.here hx rfl (hb hby d23_14) rfl rfl) ?_
  show Goes p e below _ T3 (mkF m 15 #[.val (.ref a), .val (.int (1 : Int32)), .val (.int (2 : Int32)), .val (.ref nb1), .val (.int (1 : Int32))] [(.ref nb1)])
  refine Goes.of (fun _ => XS.iload X3.here hx rfl (hb hby d23_15) rfl) ?_
  show Goes p e below _ T3 (mkF m 17 #[.val (.ref a), .val (.int (1 : Int32)), .val (.int (2 : Int32)), .val (.ref nb1), .val (.int (1 : Int32))] [(.int (1 : Int32)), (.ref nb1)])
  refine Goes.of (fun _ => XS.aloadN X3.here hx rfl (hb hby d23_17) rfl rfl) ?_
  show Goes p e below _ T3 (mkF m 18 #[.val (.ref a), .val (.int (1 : Int32)), .val (.int (2 : Int32)), .val (.ref nb1), .val (.int (1 : Int32))] [(.ref a), (.int (1 : Int32)), (.ref nb1)])
  refine Goes.of (fun _ => XS.iloadN X3.here hx rfl (hb hby d23_18) rfl) ?_
  show Goes p e below _ T3 (mkF m 19 #[.val (.ref a), .val (.int (1 : Int32)), .val (.int (2 : Int32)), .val (.ref nb1), .val (.int (1 : Int32))] [(.int (1 : Int32)), (.ref a), (.int (1 : Int32)), (.ref nb1)])
  refine goLdC (.int c1) X3 hx hZ (rfl : T3.heap = _) Va (by decide) (by decide) rfl (g := (mkF m 19 #[.val (.ref a), .val (.int (1 : Int32)), .val (.int (2 : Int32)), .val (.ref nb1), .val (.int (1 : Int32))] [(.int (1 : Int32)), (.ref a), (.int (1 : Int32)), (.ref nb1)])) rfl rfl (hb hby d23_19) ?_
  show Goes p e below _ T3 (mkF m 20 #[.val (.ref a), .val (.int (1 : Int32)), .val (.int (2 : Int32)), .val (.ref nb1), .val (.int (1 : Int32))] [(.int c1), (.int (1 : Int32)), (.ref nb1)])
  refine goStatic 0 X3 hx hZ hown (hw _ (List.mem_of_getElem? (i := 126) rfl)) (hw _ (List.mem_of_getElem? (i := 127) rfl)) (hw _ (List.mem_of_getElem? (i := 97) rfl)) (hw _ (List.mem_of_getElem? (i := 128) rfl)) (by decide) (rm_put4_1 l Z a0 hw nb1 _ (nar .byte ((c0 >>> ((0 : Int32) &&& 31)).toInt8.toInt32)) (nar .byte ((c0 >>> ((8 : Int32) &&& 31)).toInt8.toInt32)) (0 : Int32) (0 : Int32) c1 T3.heap n0 O0 Sa Sh Sl g_nb1 Vp3) (rfl : T3.heap = _) (g := (mkF m 20 #[.val (.ref a), .val (.int (1 : Int32)), .val (.int (2 : Int32)), .val (.ref nb1), .val (.int (1 : Int32))] [(.int c1), (.int (1 : Int32)), (.ref nb1)])) rfl (by rw [hml]; rfl) [(.ref nb1), (.int (1 : Int32)), (.int c1)] [] (lenOf pd___BII_V rfl) rfl rfl (by show 2 * 0 + _ ≤ _; exact Nat.le_of_eq rfl) (hb hby d23_20) (by decide) (by decide) (by decide) (by decide) ?_
  intro v5 T5 L5 X5 q5
  obtain ⟨rfl, Nq5, Kq5, Vp5⟩ := q5
  have N5 := Fr.app N3 Nq5
  have Va := Va.keep Kq5 (ninS ne_a_nb1 nin0)
  have Kp := Kp.trans Kq5 (allS (Or.inr sz_nb1) all0)
  have O0 := O0.keep Kq5 (allS g_nb1 all0)
  show Goes p e below _ T5 (mkF m 23 #[.val (.ref a), .val (.int (1 : Int32)), .val (.int (2 : Int32)), .val (.ref nb1), .val (.int (1 : Int32))] [])
  refine Goes.of (fun _ => XS.iinc X5.here hx rfl (hb hby d23_23) rfl (l' := #[.val (.ref a), .val (.int (2 : Int32)), .val (.int (2 : Int32)), .val (.ref nb1), .val (.int (1 : Int32))]) rfl) ?_
  show Goes p e below _ T5 (mkF m 26 #[.val (.ref a), .val (.int (2 : Int32)), .val (.int (2 : Int32)), .val (.ref nb1), .val (.int (1 : Int32))] [])
  refine Goes.of (fun _ => XS.iinc X5.here hx rfl (hb hby d23_26) rfl (l' := #[.val (.ref a), .val (.int (2 : Int32)), .val (.int (2 : Int32)), .val (.ref nb1), .val (.int (2 : Int32))]) rfl) ?_
  show Goes p e below _ T5 (mkF m 29 #[.val (.ref a), .val (.int (2 : Int32)), .val (.int (2 : Int32)), .val (.ref nb1), .val (.int (2 : Int32))] [])
  refine Goes.of (fun _ => XS.goto X5.here hx rfl (pc0 := 29) (pc' := 8) rfl (hb hby d23_29) (by decide) (by decide)) ?_
  show Goes p e below _ T5 (mkF m 8 #[.val (.ref a), .val (.int (2 : Int32)), .val (.int (2 : Int32)), .val (.ref nb1), .val (.int (2 : Int32))] [])
  refine Goes.of (fun _ => XS.iload X5.here hx rfl (hb hby d23_8) rfl) ?_
  show Goes p e below _ T5 (mkF m 10 #[.val (.ref a), .val (.int (2 : Int32)), .val (.int (2 : Int32)), .val (.ref nb1), .val (.int (2 : Int32))] [(.int (2 : Int32))])
  refine Goes.of (fun _ => XS.iloadN X5.here hx rfl (hb hby d23_10) rfl) ?_
  show Goes p e below _ T5 (mkF m 11 #[.val (.ref a), .val (.int (2 : Int32)), .val (.int (2 : Int32)), .val (.ref nb1), .val (.int (2 : Int32))] [(.int (2 : Int32)), (.int (2 : Int32))])
  refine Goes.of (fun _ => XS.icmpYes X5.here hx rfl (pc0 := 11) (pc' := 32) rfl (hb hby d23_11) rfl (flt (by decide)).2.1 (by decide) (by decide)) ?_
  show Goes p e below _ T5 (mkF m 32 #[.val (.ref a), .val (.int (2 : Int32)), .val (.int (2 : Int32)), .val (.ref nb1), .val (.int (2 : Int32))] [])
  refine Goes.of (fun _ => XS.aloadN X5.here hx rfl (hb hby d23_32) rfl rfl) ?_
  show Goes p e below _ T5 (mkF m 33 #[.val (.ref a), .val (.int (2 : Int32)), .val (.int (2 : Int32)), .val (.ref nb1), .val (.int (2 : Int32))] [(.ref nb1)])
  exact retRef X5 hx hret hlk rfl rfl (hb hby d23_33) (rfl : T5.heap = _) (by decide) (by decide) ⟨nb1, _, rfl, N5, Kp, g_nb1, sz_nb1, Vp5⟩
set_option maxRecDepth 65536 in
set_option maxHeartbeats 40000000 in
theorem rm_tob3_3 (l : Launch) (Z : State) (a0 : Array Value) (hw : ∀ d ∈ tables_1, d.before a0 Z = true) (a : Addr) (ka : ClassId) (c0 c1 c2 : Int32) (h0 : Heap) (n0 : Nat) (O0 : Old Z n0 h0) (Sa : Sta Z Z.heap "java/lang/StringUTF16" "$assertionsDisabled" "Z" (.int (1 : Int32))) (Sh : Sta Z Z.heap "java/lang/StringUTF16" "HI_BYTE_SHIFT" "I" (.int (0 : Int32))) (Sl : Sta Z Z.heap "java/lang/StringUTF16" "LO_BYTE_SHIFT" "I" (.int (8 : Int32))) (Va : Arv Z h0 a ka .char (3 : Int32) [(.int c0), (.int c1), (.int c2)] (.int (0 : Int32))) :
    Rm l (⟨"java/lang/StringUTF16", "toBytes", "([CII)[B"⟩ : MethodName) jdk_52_method_14_code 5 (some (.array .byte)) ({ frames := 2, cells := 1, slots := 6, locals := 24 } : Room) [] Z #[(.ref a), (.int (0 : Int32)), (.int (3 : Int32))] h0 (fun v h L => ∃ (b : Addr) (kb : ClassId), v = some (.ref b) ∧ Fr n0 L ∧ Keep h0 h [] ∧ n0 ≤ b ∧ h0.size ≤ b ∧ Arv Z h b kb .byte (6 : Int32) [(.int (nar .byte ((c0 >>> ((0 : Int32) &&& 31)).toInt8.toInt32))), (.int (nar .byte ((c0 >>> ((8 : Int32) &&& 31)).toInt8.toInt32))), (.int (nar .byte ((c1 >>> ((0 : Int32) &&& 31)).toInt8.toInt32))), (.int (nar .byte ((c1 >>> ((8 : Int32) &&& 31)).toInt8.toInt32))), (.int (nar .byte ((c2 >>> ((0 : Int32) &&& 31)).toInt8.toInt32))), (.int (nar .byte ((c2 >>> ((8 : Int32) &&& 31)).toInt8.toInt32)))] (.int (0 : Int32))) := by
  refine Rm.of (plainFor_of_name pn_java_lang_StringUTF16) ?_
  intro p e s m below meth cod T X hx hZ hby hml hown hnm hret hlk eT0
  have hown : s.vm.findClass "java/lang/StringUTF16" = some m.cls := hown
  have hnm : meth.name = "toBytes" := hnm
  have N0 := Fr.nil n0
  have Kp := Keep.refl h0 []
  refine Goes.cast (ef_23 m a (0 : Int32) (3 : Int32)) ?_
  show Goes p e below _ T (mkF m 0 #[.val (.ref a), .val (.int (0 : Int32)), .val (.int (3 : Int32)), .unset, .unset] [])
  refine Goes.of (fun _ => XS.iloadN X.here hx rfl (hb hby d23_0) rfl) ?_
  show Goes p e below _ T (mkF m 1 #[.val (.ref a), .val (.int (0 : Int32)), .val (.int (3 : Int32)), .unset, .unset] [(.int (3 : Int32))])
  refine goStatic 0 X hx hZ hown (hw _ (List.mem_of_getElem? (i := 141) rfl)) (hw _ (List.mem_of_getElem? (i := 142) rfl)) (hw _ (List.mem_of_getElem? (i := 97) rfl)) (hw _ (List.mem_of_getElem? (i := 143) rfl)) (by decide) (rm_nbf3 l Z a0 hw h0 n0 O0) eT0 (g := (mkF m 1 #[.val (.ref a), .val (.int (0 : Int32)), .val (.int (3 : Int32)), .unset, .unset] [(.int (3 : Int32))])) rfl (by rw [hml]; rfl) [(.int (3 : Int32))] [] (lenOf pd__I__B rfl) rfl rfl (by show 2 * 0 + _ ≤ _; exact Nat.le_of_eq rfl) (hb hby d23_1) (by decide) (by decide) (by decide) (by decide) ?_
  intro v1 T1 L1 X1 q1
  obtain ⟨nb1, kn1, rfl, Nq1, Kq1, gq1, sq1, Vn1⟩ := q1
  have N1 := Fr.app N0 Nq1
  have g_nb1 : n0 ≤ nb1 := gq1
  have sz_nb1 : h0.size ≤ nb1 := Nat.le_trans Kp.1 sq1
  have ne_a_nb1 : a ≠ nb1 := Nat.ne_of_lt (Nat.lt_of_lt_of_le Va.lt sq1)
  have Va := Va.keep Kq1 nin0
  have Kp := Kp.trans Kq1 all0
  have O0 := O0.keep Kq1 all0
  show Goes p e below _ T1 (mkF m 4 #[.val (.ref a), .val (.int (0 : Int32)), .val (.int (3 : Int32)), .unset, .unset] [(.ref nb1)])
  refine Goes.of (fun _ => XS.astoreN X1.here hx rfl (hb hby d23_4) rfl rfl (l' := #[.val (.ref a), .val (.int (0 : Int32)), .val (.int (3 : Int32)), .val (.ref nb1), .unset]) rfl) ?_
  show Goes p e below _ T1 (mkF m 5 #[.val (.ref a), .val (.int (0 : Int32)), .val (.int (3 : Int32)), .val (.ref nb1), .unset] [])
  refine Goes.of (fun _ => XS.iconst X1.here hx rfl (hb hby d23_5)) ?_
  show Goes p e below _ T1 (mkF m 6 #[.val (.ref a), .val (.int (0 : Int32)), .val (.int (3 : Int32)), .val (.ref nb1), .unset] [(.int (0 : Int32))])
  refine Goes.of (fun _ => XS.istore X1.here hx rfl (hb hby d23_6) rfl (l' := #[.val (.ref a), .val (.int (0 : Int32)), .val (.int (3 : Int32)), .val (.ref nb1), .val (.int (0 : Int32))]) rfl) ?_
  show Goes p e below _ T1 (mkF m 8 #[.val (.ref a), .val (.int (0 : Int32)), .val (.int (3 : Int32)), .val (.ref nb1), .val (.int (0 : Int32))] [])
  refine Goes.of (fun _ => XS.iload X1.here hx rfl (hb hby d23_8) rfl) ?_
  show Goes p e below _ T1 (mkF m 10 #[.val (.ref a), .val (.int (0 : Int32)), .val (.int (3 : Int32)), .val (.ref nb1), .val (.int (0 : Int32))] [(.int (0 : Int32))])
  refine Goes.of (fun _ => XS.iloadN X1.here hx rfl (hb hby d23_10) rfl) ?_
  show Goes p e below _ T1 (mkF m 11 #[.val (.ref a), .val (.int (0 : Int32)), .val (.int (3 : Int32)), .val (.ref nb1), .val (.int (0 : Int32))] [(.int (3 : Int32)), (.int (0 : Int32))])
  refine Goes.of (fun _ => XS.icmpNo X1.here hx rfl (hb hby d23_11) rfl (tlt (by decide)).2.1) ?_
  show Goes p e below _ T1 (mkF m 14 #[.val (.ref a), .val (.int (0 : Int32)), .val (.int (3 : Int32)), .val (.ref nb1), .val (.int (0 : Int32))] [])
  refine Goes.of (fun _ => XS.aloadN X1.here hx rfl (hb hby d23_14) rfl rfl) ?_
  show Goes p e below _ T1 (mkF m 15 #[.val (.ref a), .val (.int (0 : Int32)), .val (.int (3 : Int32)), .val (.ref nb1), .val (.int (0 : Int32))] [(.ref nb1)])
  refine Goes.of (fun _ => XS.iload X1.here hx rfl (hb hby d23_15) rfl) ?_
  show Goes p e below _ T1 (mkF m 17 #[.val (.ref a), .val (.int (0 : Int32)), .val (.int (3 : Int32)), .val (.ref nb1), .val (.int (0 : Int32))] [(.int (0 : Int32)), (.ref nb1)])
  refine Goes.of (fun _ => XS.aloadN X1.here hx rfl (hb hby d23_17) rfl rfl) ?_
  show Goes p e below _ T1 (mkF m 18 #[.val (.ref a), .val (.int (0 : Int32)), .val (.int (3 : Int32)), .val (.ref nb1), .val (.int (0 : Int32))] [(.ref a), (.int (0 : Int32)), (.ref nb1)])
  refine Goes.of (fun _ => XS.iloadN X1.here hx rfl (hb hby d23_18) rfl) ?_
  show Goes p e below _ T1 (mkF m 19 #[.val (.ref a), .val (.int (0 : Int32)), .val (.int (3 : Int32)), .val (.ref nb1), .val (.int (0 : Int32))] [(.int (0 : Int32)), (.ref a), (.int (0 : Int32)), (.ref nb1)])
  refine goLdC (.int c0) X1 hx hZ (rfl : T1.heap = _) Va (by decide) (by decide) rfl (g := (mkF m 19 #[.val (.ref a), .val (.int (0 : Int32)), .val (.int (3 : Int32)), .val (.ref nb1), .val (.int (0 : Int32))] [(.int (0 : Int32)), (.ref a), (.int (0 : Int32)), (.ref nb1)])) rfl rfl (hb hby d23_19) ?_
  show Goes p e below _ T1 (mkF m 20 #[.val (.ref a), .val (.int (0 : Int32)), .val (.int (3 : Int32)), .val (.ref nb1), .val (.int (0 : Int32))] [(.int c0), (.int (0 : Int32)), (.ref nb1)])
  refine goStatic 0 X1 hx hZ hown (hw _ (List.mem_of_getElem? (i := 126) rfl)) (hw _ (List.mem_of_getElem? (i := 127) rfl)) (hw _ (List.mem_of_getElem? (i := 97) rfl)) (hw _ (List.mem_of_getElem? (i := 128) rfl)) (by decide) (rm_put6_0 l Z a0 hw nb1 _ (0 : Int32) (0 : Int32) (0 : Int32) (0 : Int32) (0 : Int32) (0 : Int32) c0 T1.heap n0 O0 Sa Sh Sl g_nb1 Vn1) (rfl : T1.heap = _) (g := (mkF m 20 #[.val (.ref a), .val (.int (0 : Int32)), .val (.int (3 : Int32)), .val (.ref nb1), .val (.int (0 : Int32))] [(.int c0), (.int (0 : Int32)), (.ref nb1)])) rfl (by rw [hml]; rfl) [(.ref nb1), (.int (0 : Int32)), (.int c0)] [] (lenOf pd___BII_V rfl) rfl rfl (by show 2 * 0 + _ ≤ _; exact Nat.le_of_eq rfl) (hb hby d23_20) (by decide) (by decide) (by decide) (by decide) ?_
  intro v3 T3 L3 X3 q3
  obtain ⟨rfl, Nq3, Kq3, Vp3⟩ := q3
  have N3 := Fr.app N1 Nq3
  have Va := Va.keep Kq3 (ninS ne_a_nb1 nin0)
  have Kp := Kp.trans Kq3 (allS (Or.inr sz_nb1) all0)
  have O0 := O0.keep Kq3 (allS g_nb1 all0)
  show Goes p e below _ T3 (mkF m 23 #[.val (.ref a), .val (.int (0 : Int32)), .val (.int (3 : Int32)), .val (.ref nb1), .val (.int (0 : Int32))] [])
  refine Goes.of (fun _ => XS.iinc X3.here hx rfl (hb hby d23_23) rfl (l' := #[.val (.ref a), .val (.int (1 : Int32)), .val (.int (3 : Int32)), .val (.ref nb1), .val (.int (0 : Int32))]) rfl) ?_
  show Goes p e below _ T3 (mkF m 26 #[.val (.ref a), .val (.int (1 : Int32)), .val (.int (3 : Int32)), .val (.ref nb1), .val (.int (0 : Int32))] [])
  refine Goes.of (fun _ => XS.iinc X3.here hx rfl (hb hby d23_26) rfl (l' := #[.val (.ref a), .val (.int (1 : Int32)), .val (.int (3 : Int32)), .val (.ref nb1), .val (.int (1 : Int32))]) rfl) ?_
  show Goes p e below _ T3 (mkF m 29 #[.val (.ref a), .val (.int (1 : Int32)), .val (.int (3 : Int32)), .val (.ref nb1), .val (.int (1 : Int32))] [])
  refine Goes.of (fun _ => XS.goto X3.here hx rfl (pc0 := 29) (pc' := 8) rfl (hb hby d23_29) (by decide) (by decide)) ?_
  show Goes p e below _ T3 (mkF m 8 #[.val (.ref a), .val (.int (1 : Int32)), .val (.int (3 : Int32)), .val (.ref nb1), .val (.int (1 : Int32))] [])
  refine Goes.of (fun _ => XS.iload X3.here hx rfl (hb hby d23_8) rfl) ?_
  show Goes p e below _ T3 (mkF m 10 #[.val (.ref a), .val (.int (1 : Int32)), .val (.int (3 : Int32)), .val (.ref nb1), .val (.int (1 : Int32))] [(.int (1 : Int32))])
  refine Goes.of (fun _ => XS.iloadN X3.here hx rfl (hb hby d23_10) rfl) ?_
  show Goes p e below _ T3 (mkF m 11 #[.val (.ref a), .val (.int (1 : Int32)), .val (.int (3 : Int32)), .val (.ref nb1), .val (.int (1 : Int32))] [(.int (3 : Int32)), (.int (1 : Int32))])
  refine Goes.of (fun _ => XS.icmpNo X3.here hx rfl (hb hby d23_11) rfl (tlt (by decide)).2.1) ?_
  show Goes p e below _ T3 (mkF m 14 #[.val (.ref a), .val (.int (1 : Int32)), .val (.int (3 : Int32)), .val (.ref nb1), .val (.int (1 : Int32))] [])
  refine Goes.of (fun _ => XS.aloadN X3.here hx rfl (hb hby d23_14) rfl rfl) ?_
  show Goes p e below _ T3 (mkF m 15 #[.val (.ref a), .val (.int (1 : Int32)), .val (.int (3 : Int32)), .val (.ref nb1), .val (.int (1 : Int32))] [(.ref nb1)])
  refine Goes.of (fun _ => XS.iload X3.here hx rfl (hb hby d23_15) rfl) ?_
  show Goes p e below _ T3 (mkF m 17 #[.val (.ref a), .val (.int (1 : Int32)), .val (.int (3 : Int32)), .val (.ref nb1), .val (.int (1 : Int32))] [(.int (1 : Int32)), (.ref nb1)])
  refine Goes.of (fun _ => XS.aloadN X3.here hx rfl (hb hby d23_17) rfl rfl) ?_
  show Goes p e below _ T3 (mkF m 18 #[.val (.ref a), .val (.int (1 : Int32)), .val (.int (3 : Int32)), .val (.ref nb1), .val (.int (1 : Int32))] [(.ref a), (.int (1 : Int32)), (.ref nb1)])
  refine Goes.of (fun _ => XS.iloadN X3.here hx rfl (hb hby d23_18) rfl) ?_
  show Goes p e below _ T3 (mkF m 19 #[.val (.ref a), .val (.int (1 : Int32)), .val (.int (3 : Int32)), .val (.ref nb1), .val (.int (1 : Int32))] [(.int (1 : Int32)), (.ref a), (.int (1 : Int32)), (.ref nb1)])
  refine goLdC (.int c1) X3 hx hZ (rfl : T3.heap = _) Va (by decide) (by decide) rfl (g := (mkF m 19 #[.val (.ref a), .val (.int (1 : Int32)), .val (.int (3 : Int32)), .val (.ref nb1), .val (.int (1 : Int32))] [(.int (1 : Int32)), (.ref a), (.int (1 : Int32)), (.ref nb1)])) rfl rfl (hb hby d23_19) ?_
  show Goes p e below _ T3 (mkF m 20 #[.val (.ref a), .val (.int (1 : Int32)), .val (.int (3 : Int32)), .val (.ref nb1), .val (.int (1 : Int32))] [(.int c1), (.int (1 : Int32)), (.ref nb1)])
  refine goStatic 0 X3 hx hZ hown (hw _ (List.mem_of_getElem? (i := 126) rfl)) (hw _ (List.mem_of_getElem? (i := 127) rfl)) (hw _ (List.mem_of_getElem? (i := 97) rfl)) (hw _ (List.mem_of_getElem? (i := 128) rfl)) (by decide) (rm_put6_1 l Z a0 hw nb1 _ (nar .byte ((c0 >>> ((0 : Int32) &&& 31)).toInt8.toInt32)) (nar .byte ((c0 >>> ((8 : Int32) &&& 31)).toInt8.toInt32)) (0 : Int32) (0 : Int32) (0 : Int32) (0 : Int32) c1 T3.heap n0 O0 Sa Sh Sl g_nb1 Vp3) (rfl : T3.heap = _) (g := (mkF m 20 #[.val (.ref a), .val (.int (1 : Int32)), .val (.int (3 : Int32)), .val (.ref nb1), .val (.int (1 : Int32))] [(.int c1), (.int (1 : Int32)), (.ref nb1)])) rfl (by rw [hml]; rfl) [(.ref nb1), (.int (1 : Int32)), (.int c1)] [] (lenOf pd___BII_V rfl) rfl rfl (by show 2 * 0 + _ ≤ _; exact Nat.le_of_eq rfl) (hb hby d23_20) (by decide) (by decide) (by decide) (by decide) ?_
  intro v5 T5 L5 X5 q5
  obtain ⟨rfl, Nq5, Kq5, Vp5⟩ := q5
  have N5 := Fr.app N3 Nq5
  have Va := Va.keep Kq5 (ninS ne_a_nb1 nin0)
  have Kp := Kp.trans Kq5 (allS (Or.inr sz_nb1) all0)
  have O0 := O0.keep Kq5 (allS g_nb1 all0)
  show Goes p e below _ T5 (mkF m 23 #[.val (.ref a), .val (.int (1 : Int32)), .val (.int (3 : Int32)), .val (.ref nb1), .val (.int (1 : Int32))] [])
  refine Goes.of (fun _ => XS.iinc X5.here hx rfl (hb hby d23_23) rfl (l' := #[.val (.ref a), .val (.int (2 : Int32)), .val (.int (3 : Int32)), .val (.ref nb1), .val (.int (1 : Int32))]) rfl) ?_
  show Goes p e below _ T5 (mkF m 26 #[.val (.ref a), .val (.int (2 : Int32)), .val (.int (3 : Int32)), .val (.ref nb1), .val (.int (1 : Int32))] [])
  refine Goes.of (fun _ => XS.iinc X5.here hx rfl (hb hby d23_26) rfl (l' := #[.val (.ref a), .val (.int (2 : Int32)), .val (.int (3 : Int32)), .val (.ref nb1), .val (.int (2 : Int32))]) rfl) ?_
  show Goes p e below _ T5 (mkF m 29 #[.val (.ref a), .val (.int (2 : Int32)), .val (.int (3 : Int32)), .val (.ref nb1), .val (.int (2 : Int32))] [])
  refine Goes.of (fun _ => XS.goto X5.here hx rfl (pc0 := 29) (pc' := 8) rfl (hb hby d23_29) (by decide) (by decide)) ?_
  show Goes p e below _ T5 (mkF m 8 #[.val (.ref a), .val (.int (2 : Int32)), .val (.int (3 : Int32)), .val (.ref nb1), .val (.int (2 : Int32))] [])
  refine Goes.of (fun _ => XS.iload X5.here hx rfl (hb hby d23_8) rfl) ?_
  show Goes p e below _ T5 (mkF m 10 #[.val (.ref a), .val (.int (2 : Int32)), .val (.int (3 : Int32)), .val (.ref nb1), .val (.int (2 : Int32))] [(.int (2 : Int32))])
  refine Goes.of (fun _ => XS.iloadN X5.here hx rfl (hb hby d23_10) rfl) ?_
  show Goes p e below _ T5 (mkF m 11 #[.val (.ref a), .val (.int (2 : Int32)), .val (.int (3 : Int32)), .val (.ref nb1), .val (.int (2 : Int32))] [(.int (3 : Int32)), (.int (2 : Int32))])
  refine Goes.of (fun _ => XS.icmpNo X5.here hx rfl (hb hby d23_11) rfl (tlt (by decide)).2.1) ?_
  show Goes p e below _ T5 (mkF m 14 #[.val (.ref a), .val (.int (2 : Int32)), .val (.int (3 : Int32)), .val (.ref nb1), .val (.int (2 : Int32))] [])
  refine Goes.of (fun _ => XS.aloadN X5.here hx rfl (hb hby d23_14) rfl rfl) ?_
  show Goes p e below _ T5 (mkF m 15 #[.val (.ref a), .val (.int (2 : Int32)), .val (.int (3 : Int32)), .val (.ref nb1), .val (.int (2 : Int32))] [(.ref nb1)])
  refine Goes.of (fun _ => XS.iload X5.here hx rfl (hb hby d23_15) rfl) ?_
  show Goes p e below _ T5 (mkF m 17 #[.val (.ref a), .val (.int (2 : Int32)), .val (.int (3 : Int32)), .val (.ref nb1), .val (.int (2 : Int32))] [(.int (2 : Int32)), (.ref nb1)])
  refine Goes.of (fun _ => XS.aloadN X5.here hx rfl (hb hby d23_17) rfl rfl) ?_
  show Goes p e below _ T5 (mkF m 18 #[.val (.ref a), .val (.int (2 : Int32)), .val (.int (3 : Int32)), .val (.ref nb1), .val (.int (2 : Int32))] [(.ref a), (.int (2 : Int32)), (.ref nb1)])
  refine Goes.of (fun _ => XS.iloadN X5.here hx rfl (hb hby d23_18) rfl) ?_
  show Goes p e below _ T5 (mkF m 19 #[.val (.ref a), .val (.int (2 : Int32)), .val (.int (3 : Int32)), .val (.ref nb1), .val (.int (2 : Int32))] [(.int (2 : Int32)), (.ref a), (.int (2 : Int32)), (.ref nb1)])
  refine goLdC (.int c2) X5 hx hZ (rfl : T5.heap = _) Va (by decide) (by decide) rfl (g := (mkF m 19 #[.val (.ref a), .val (.int (2 : Int32)), .val (.int (3 : Int32)), .val (.ref nb1), .val (.int (2 : Int32))] [(.int (2 : Int32)), (.ref a), (.int (2 : Int32)), (.ref nb1)])) rfl rfl (hb hby d23_19) ?_
  show Goes p e below _ T5 (mkF m 20 #[.val (.ref a), .val (.int (2 : Int32)), .val (.int (3 : Int32)), .val (.ref nb1), .val (.int (2 : Int32))] [(.int c2), (.int (2 : Int32)), (.ref nb1)])
  refine goStatic 0 X5 hx hZ hown (hw _ (List.mem_of_getElem? (i := 126) rfl)) (hw _ (List.mem_of_getElem? (i := 127) rfl)) (hw _ (List.mem_of_getElem? (i := 97) rfl)) (hw _ (List.mem_of_getElem? (i := 128) rfl)) (by decide) (rm_put6_2 l Z a0 hw nb1 _ (nar .byte ((c0 >>> ((0 : Int32) &&& 31)).toInt8.toInt32)) (nar .byte ((c0 >>> ((8 : Int32) &&& 31)).toInt8.toInt32)) (nar .byte ((c1 >>> ((0 : Int32) &&& 31)).toInt8.toInt32)) (nar .byte ((c1 >>> ((8 : Int32) &&& 31)).toInt8.toInt32)) (0 : Int32) (0 : Int32) c2 T5.heap n0 O0 Sa Sh Sl g_nb1 Vp5) (rfl : T5.heap = _) (g := (mkF m 20 #[.val (.ref a), .val (.int (2 : Int32)), .val (.int (3 : Int32)), .val (.ref nb1), .val (.int (2 : Int32))] [(.int c2), (.int (2 : Int32)), (.ref nb1)])) rfl (by rw [hml]; rfl) [(.ref nb1), (.int (2 : Int32)), (.int c2)] [] (lenOf pd___BII_V rfl) rfl rfl (by show 2 * 0 + _ ≤ _; exact Nat.le_of_eq rfl) (hb hby d23_20) (by decide) (by decide) (by decide) (by decide) ?_
  intro v7 T7 L7 X7 q7
  obtain ⟨rfl, Nq7, Kq7, Vp7⟩ := q7
  have N7 := Fr.app N5 Nq7
  have Va := Va.keep Kq7 (ninS ne_a_nb1 nin0)
  have Kp := Kp.trans Kq7 (allS (Or.inr sz_nb1) all0)
  have O0 := O0.keep Kq7 (allS g_nb1 all0)
  show Goes p e below _ T7 (mkF m 23 #[.val (.ref a), .val (.int (2 : Int32)), .val (.int (3 : Int32)), .val (.ref nb1), .val (.int (2 : Int32))] [])
  refine Goes.of (fun _ => XS.iinc X7.here hx rfl (hb hby d23_23) rfl (l' := #[.val (.ref a), .val (.int (3 : Int32)), .val (.int (3 : Int32)), .val (.ref nb1), .val (.int (2 : Int32))]) rfl) ?_
  show Goes p e below _ T7 (mkF m 26 #[.val (.ref a), .val (.int (3 : Int32)), .val (.int (3 : Int32)), .val (.ref nb1), .val (.int (2 : Int32))] [])
  refine Goes.of (fun _ => XS.iinc X7.here hx rfl (hb hby d23_26) rfl (l' := #[.val (.ref a), .val (.int (3 : Int32)), .val (.int (3 : Int32)), .val (.ref nb1), .val (.int (3 : Int32))]) rfl) ?_
  show Goes p e below _ T7 (mkF m 29 #[.val (.ref a), .val (.int (3 : Int32)), .val (.int (3 : Int32)), .val (.ref nb1), .val (.int (3 : Int32))] [])
  refine Goes.of (fun _ => XS.goto X7.here hx rfl (pc0 := 29) (pc' := 8) rfl (hb hby d23_29) (by decide) (by decide)) ?_
  show Goes p e below _ T7 (mkF m 8 #[.val (.ref a), .val (.int (3 : Int32)), .val (.int (3 : Int32)), .val (.ref nb1), .val (.int (3 : Int32))] [])
  refine Goes.of (fun _ => XS.iload X7.here hx rfl (hb hby d23_8) rfl) ?_
  show Goes p e below _ T7 (mkF m 10 #[.val (.ref a), .val (.int (3 : Int32)), .val (.int (3 : Int32)), .val (.ref nb1), .val (.int (3 : Int32))] [(.int (3 : Int32))])
  refine Goes.of (fun _ => XS.iloadN X7.here hx rfl (hb hby d23_10) rfl) ?_
  show Goes p e below _ T7 (mkF m 11 #[.val (.ref a), .val (.int (3 : Int32)), .val (.int (3 : Int32)), .val (.ref nb1), .val (.int (3 : Int32))] [(.int (3 : Int32)), (.int (3 : Int32))])
  refine Goes.of (fun _ => XS.icmpYes X7.here hx rfl (pc0 := 11) (pc' := 32) rfl (hb hby d23_11) rfl (flt (by decide)).2.1 (by decide) (by decide)) ?_
  show Goes p e below _ T7 (mkF m 32 #[.val (.ref a), .val (.int (3 : Int32)), .val (.int (3 : Int32)), .val (.ref nb1), .val (.int (3 : Int32))] [])
  refine Goes.of (fun _ => XS.aloadN X7.here hx rfl (hb hby d23_32) rfl rfl) ?_
  show Goes p e below _ T7 (mkF m 33 #[.val (.ref a), .val (.int (3 : Int32)), .val (.int (3 : Int32)), .val (.ref nb1), .val (.int (3 : Int32))] [(.ref nb1)])
  exact retRef X7 hx hret hlk rfl rfl (hb hby d23_33) (rfl : T7.heap = _) (by decide) (by decide) ⟨nb1, _, rfl, N7, Kp, g_nb1, sz_nb1, Vp7⟩
set_option maxRecDepth 65536 in
set_option maxHeartbeats 40000000 in
theorem rm_comp5_2_0 (l : Launch) (Z : State) (a0 : Array Value) (hw : ∀ d ∈ tables_1, d.before a0 Z = true) (a b : Addr) (ka kb : ClassId) (c0 c1 : Int32) (h0 : Heap) (n0 : Nat) (O0 : Old Z n0 h0) (g_b : n0 ≤ b) (hab : a ≠ b) (Va : Arv Z h0 a ka .char (2 : Int32) [(.int c0), (.int c1)] (.int (0 : Int32))) (Vb : Arv Z h0 b kb .byte (2 : Int32) [(.int (0 : Int32)), (.int (0 : Int32))] (.int (0 : Int32))) (hk0 : (255 : Int32) < c0) :
    Rm l (⟨"java/lang/StringUTF16", "compress", "([CI[BII)I"⟩ : MethodName) jdk_52_method_21_code 7 (some .int) ({ frames := 0, cells := 0, slots := 0, locals := 0 } : Room) [] Z #[(.ref a), (.int (0 : Int32)), (.ref b), (.int (0 : Int32)), (.int (2 : Int32))] h0 (fun v h L => v = some (.int (0 : Int32)) ∧ Fr n0 L ∧ Keep h0 h [b] ∧ Arv Z h b kb .byte (2 : Int32) [(.int (0 : Int32)), (.int (0 : Int32))] (.int (0 : Int32))) := by
  refine Rm.of (plainFor_of_name pn_java_lang_StringUTF16) ?_
  intro p e s m below meth cod T X hx hZ hby hml hown hnm hret hlk eT0
  have hown : s.vm.findClass "java/lang/StringUTF16" = some m.cls := hown
  have hnm : meth.name = "compress" := hnm
  have N0 := Fr.nil n0
  have Kp := Keep.refl h0 [b]
  refine Goes.cast (ef_15 m a (0 : Int32) b (0 : Int32) (2 : Int32)) ?_
  show Goes p e below _ T (mkF m 0 #[.val (.ref a), .val (.int (0 : Int32)), .val (.ref b), .val (.int (0 : Int32)), .val (.int (2 : Int32)), .unset, .unset] [])
  refine Goes.of (fun _ => XS.iconst X.here hx rfl (hb hby d15_0)) ?_
  show Goes p e below _ T (mkF m 1 #[.val (.ref a), .val (.int (0 : Int32)), .val (.ref b), .val (.int (0 : Int32)), .val (.int (2 : Int32)), .unset, .unset] [(.int (0 : Int32))])
  refine Goes.of (fun _ => XS.istore X.here hx rfl (hb hby d15_1) rfl (l' := #[.val (.ref a), .val (.int (0 : Int32)), .val (.ref b), .val (.int (0 : Int32)), .val (.int (2 : Int32)), .val (.int (0 : Int32)), .unset]) rfl) ?_
  show Goes p e below _ T (mkF m 3 #[.val (.ref a), .val (.int (0 : Int32)), .val (.ref b), .val (.int (0 : Int32)), .val (.int (2 : Int32)), .val (.int (0 : Int32)), .unset] [])
  refine Goes.of (fun _ => XS.iload X.here hx rfl (hb hby d15_3) rfl) ?_
  show Goes p e below _ T (mkF m 5 #[.val (.ref a), .val (.int (0 : Int32)), .val (.ref b), .val (.int (0 : Int32)), .val (.int (2 : Int32)), .val (.int (0 : Int32)), .unset] [(.int (0 : Int32))])
  refine Goes.of (fun _ => XS.iload X.here hx rfl (hb hby d15_5) rfl) ?_
  show Goes p e below _ T (mkF m 7 #[.val (.ref a), .val (.int (0 : Int32)), .val (.ref b), .val (.int (0 : Int32)), .val (.int (2 : Int32)), .val (.int (0 : Int32)), .unset] [(.int (2 : Int32)), (.int (0 : Int32))])
  refine Goes.of (fun _ => XS.icmpNo X.here hx rfl (hb hby d15_7) rfl (tlt (by decide)).2.1) ?_
  show Goes p e below _ T (mkF m 10 #[.val (.ref a), .val (.int (0 : Int32)), .val (.ref b), .val (.int (0 : Int32)), .val (.int (2 : Int32)), .val (.int (0 : Int32)), .unset] [])
  refine Goes.of (fun _ => XS.aloadN X.here hx rfl (hb hby d15_10) rfl rfl) ?_
  show Goes p e below _ T (mkF m 11 #[.val (.ref a), .val (.int (0 : Int32)), .val (.ref b), .val (.int (0 : Int32)), .val (.int (2 : Int32)), .val (.int (0 : Int32)), .unset] [(.ref a)])
  refine Goes.of (fun _ => XS.iloadN X.here hx rfl (hb hby d15_11) rfl) ?_
  show Goes p e below _ T (mkF m 12 #[.val (.ref a), .val (.int (0 : Int32)), .val (.ref b), .val (.int (0 : Int32)), .val (.int (2 : Int32)), .val (.int (0 : Int32)), .unset] [(.int (0 : Int32)), (.ref a)])
  refine goLdC (.int c0) X hx hZ eT0 Va (by decide) (by decide) rfl (g := (mkF m 12 #[.val (.ref a), .val (.int (0 : Int32)), .val (.ref b), .val (.int (0 : Int32)), .val (.int (2 : Int32)), .val (.int (0 : Int32)), .unset] [(.int (0 : Int32)), (.ref a)])) rfl rfl (hb hby d15_12) ?_
  show Goes p e below _ T (mkF m 13 #[.val (.ref a), .val (.int (0 : Int32)), .val (.ref b), .val (.int (0 : Int32)), .val (.int (2 : Int32)), .val (.int (0 : Int32)), .unset] [(.int c0)])
  refine Goes.of (fun _ => XS.istore X.here hx rfl (hb hby d15_13) rfl (l' := #[.val (.ref a), .val (.int (0 : Int32)), .val (.ref b), .val (.int (0 : Int32)), .val (.int (2 : Int32)), .val (.int (0 : Int32)), .val (.int c0)]) rfl) ?_
  show Goes p e below _ T (mkF m 15 #[.val (.ref a), .val (.int (0 : Int32)), .val (.ref b), .val (.int (0 : Int32)), .val (.int (2 : Int32)), .val (.int (0 : Int32)), .val (.int c0)] [])
  refine Goes.of (fun _ => XS.iload X.here hx rfl (hb hby d15_15) rfl) ?_
  show Goes p e below _ T (mkF m 17 #[.val (.ref a), .val (.int (0 : Int32)), .val (.ref b), .val (.int (0 : Int32)), .val (.int (2 : Int32)), .val (.int (0 : Int32)), .val (.int c0)] [(.int c0)])
  refine Goes.of (fun _ => XS.sipush X.here hx rfl (hb hby d15_17)) ?_
  show Goes p e below _ T (mkF m 20 #[.val (.ref a), .val (.int (0 : Int32)), .val (.ref b), .val (.int (0 : Int32)), .val (.int (2 : Int32)), .val (.int (0 : Int32)), .val (.int c0)] [(.int (255 : Int32)), (.int c0)])
  refine Goes.of (fun _ => XS.icmpNo X.here hx rfl (hb hby d15_20) rfl (tlt hk0).2.2.2) ?_
  show Goes p e below _ T (mkF m 23 #[.val (.ref a), .val (.int (0 : Int32)), .val (.ref b), .val (.int (0 : Int32)), .val (.int (2 : Int32)), .val (.int (0 : Int32)), .val (.int c0)] [])
  refine Goes.of (fun _ => XS.iload X.here hx rfl (hb hby d15_23) rfl) ?_
  show Goes p e below _ T (mkF m 25 #[.val (.ref a), .val (.int (0 : Int32)), .val (.ref b), .val (.int (0 : Int32)), .val (.int (2 : Int32)), .val (.int (0 : Int32)), .val (.int c0)] [(.int (0 : Int32))])
  exact retInt X hx hret hlk (hb hby d15_25) eT0 (by decide) (by decide) ⟨rfl, N0, Kp, Vb⟩
set_option maxRecDepth 65536 in
set_option maxHeartbeats 40000000 in
theorem rm_comp3_2_0 (l : Launch) (Z : State) (a0 : Array Value) (hw : ∀ d ∈ tables_1, d.before a0 Z = true) (a : Addr) (ka : ClassId) (c0 c1 : Int32) (h0 : Heap) (n0 : Nat) (O0 : Old Z n0 h0) (Sa : Sta Z Z.heap "java/lang/StringUTF16" "$assertionsDisabled" "Z" (.int (1 : Int32))) (Sh : Sta Z Z.heap "java/lang/StringUTF16" "HI_BYTE_SHIFT" "I" (.int (0 : Int32))) (Sl : Sta Z Z.heap "java/lang/StringUTF16" "LO_BYTE_SHIFT" "I" (.int (8 : Int32))) (Va : Arv Z h0 a ka .char (2 : Int32) [(.int c0), (.int c1)] (.int (0 : Int32))) (hk0 : (255 : Int32) < c0) (hbd0 : ¬ c0 < 0 ∧ ¬ (65535 : Int32) < c0) (hbd1 : ¬ c1 < 0 ∧ ¬ (65535 : Int32) < c1) :
    Rm l (⟨"java/lang/StringUTF16", "compress", "([CII)[B"⟩ : MethodName) jdk_52_method_16_code 6 (some (.array .byte)) ({ frames := 3, cells := 2, slots := 6, locals := 40 } : Room) [] Z #[(.ref a), (.int (0 : Int32)), (.int (2 : Int32))] h0 (fun v h L => ∃ (b : Addr) (kb : ClassId), v = some (.ref b) ∧ Fr n0 L ∧ Keep h0 h [] ∧ n0 ≤ b ∧ h0.size ≤ b ∧ Arv Z h b kb .byte (4 : Int32) [(.int (nar .byte ((c0 >>> ((0 : Int32) &&& 31)).toInt8.toInt32))), (.int (nar .byte ((c0 >>> ((8 : Int32) &&& 31)).toInt8.toInt32))), (.int (nar .byte ((c1 >>> ((0 : Int32) &&& 31)).toInt8.toInt32))), (.int (nar .byte ((c1 >>> ((8 : Int32) &&& 31)).toInt8.toInt32)))] (.int (0 : Int32))) := by
  refine Rm.of (plainFor_of_name pn_java_lang_StringUTF16) ?_
  intro p e s m below meth cod T X hx hZ hby hml hown hnm hret hlk eT0
  have hown : s.vm.findClass "java/lang/StringUTF16" = some m.cls := hown
  have hnm : meth.name = "compress" := hnm
  have N0 := Fr.nil n0
  have Kp := Keep.refl h0 []
  refine Goes.cast (ef_14 m a (0 : Int32) (2 : Int32)) ?_
  show Goes p e below _ T (mkF m 0 #[.val (.ref a), .val (.int (0 : Int32)), .val (.int (2 : Int32)), .unset, .unset, .unset] [])
  refine Goes.of (fun _ => XS.iloadN X.here hx rfl (hb hby d14_0) rfl) ?_
  show Goes p e below _ T (mkF m 1 #[.val (.ref a), .val (.int (0 : Int32)), .val (.int (2 : Int32)), .unset, .unset, .unset] [(.int (2 : Int32))])
  refine goNewP 2 X hx hZ (hw _ (List.mem_of_getElem? (i := 99) rfl)) eT0 (g := (mkF m 1 #[.val (.ref a), .val (.int (0 : Int32)), .val (.int (2 : Int32)), .unset, .unset, .unset] [(.int (2 : Int32))])) rfl (hb hby d14_1) rfl (by decide) (by decide) (by decide) (by decide) (by decide) (ad := "[B") (by first | rfl | decide) ?_
  intro T1 h1 b1 kA1 X1 eT1 E1 hb1 V1 A1
  have g_b1 : n0 ≤ b1 := Nat.le_trans (oldLe O0) hb1
  have sz_b1 : h0.size ≤ b1 := Nat.le_trans Kp.1 hb1
  have ne_a_b1 : a ≠ b1 := Nat.ne_of_lt (Nat.lt_of_lt_of_le Va.lt hb1)
  have Va := Va.ext E1
  have Kp := Kp.ext E1
  have O0 := O0.ext E1
  have V1 : Arv Z h1 b1 kA1 .byte (2 : Int32) [(.int (0 : Int32)), (.int (0 : Int32))] (.int (0 : Int32)) := V1
  show Goes p e below _ T1 (mkF m 3 #[.val (.ref a), .val (.int (0 : Int32)), .val (.int (2 : Int32)), .unset, .unset, .unset] [(.ref b1)])
  refine Goes.of (fun _ => XS.astoreN X1.here hx rfl (hb hby d14_3) rfl rfl (l' := #[.val (.ref a), .val (.int (0 : Int32)), .val (.int (2 : Int32)), .val (.ref b1), .unset, .unset]) rfl) ?_
  show Goes p e below _ T1 (mkF m 4 #[.val (.ref a), .val (.int (0 : Int32)), .val (.int (2 : Int32)), .val (.ref b1), .unset, .unset] [])
  refine Goes.of (fun _ => XS.aloadN X1.here hx rfl (hb hby d14_4) rfl rfl) ?_
  show Goes p e below _ T1 (mkF m 5 #[.val (.ref a), .val (.int (0 : Int32)), .val (.int (2 : Int32)), .val (.ref b1), .unset, .unset] [(.ref a)])
  refine Goes.of (fun _ => XS.iloadN X1.here hx rfl (hb hby d14_5) rfl) ?_
  show Goes p e below _ T1 (mkF m 6 #[.val (.ref a), .val (.int (0 : Int32)), .val (.int (2 : Int32)), .val (.ref b1), .unset, .unset] [(.int (0 : Int32)), (.ref a)])
  refine Goes.of (fun _ => XS.aloadN X1.here hx rfl (hb hby d14_6) rfl rfl) ?_
  show Goes p e below _ T1 (mkF m 7 #[.val (.ref a), .val (.int (0 : Int32)), .val (.int (2 : Int32)), .val (.ref b1), .unset, .unset] [(.ref b1), (.int (0 : Int32)), (.ref a)])
  refine Goes.of (fun _ => XS.iconst X1.here hx rfl (hb hby d14_7)) ?_
  show Goes p e below _ T1 (mkF m 8 #[.val (.ref a), .val (.int (0 : Int32)), .val (.int (2 : Int32)), .val (.ref b1), .unset, .unset] [(.int (0 : Int32)), (.ref b1), (.int (0 : Int32)), (.ref a)])
  refine Goes.of (fun _ => XS.iloadN X1.here hx rfl (hb hby d14_8) rfl) ?_
  show Goes p e below _ T1 (mkF m 9 #[.val (.ref a), .val (.int (0 : Int32)), .val (.int (2 : Int32)), .val (.ref b1), .unset, .unset] [(.int (2 : Int32)), (.int (0 : Int32)), (.ref b1), (.int (0 : Int32)), (.ref a)])
  refine goStatic 0 X1 hx hZ hown (hw _ (List.mem_of_getElem? (i := 100) rfl)) (hw _ (List.mem_of_getElem? (i := 101) rfl)) (hw _ (List.mem_of_getElem? (i := 97) rfl)) (hw _ (List.mem_of_getElem? (i := 102) rfl)) (by decide) (rm_comp5_2_0 l Z a0 hw a b1 _ _ c0 c1 h1 n0 O0 g_b1 ne_a_b1 Va V1 hk0) eT1 (g := (mkF m 9 #[.val (.ref a), .val (.int (0 : Int32)), .val (.int (2 : Int32)), .val (.ref b1), .unset, .unset] [(.int (2 : Int32)), (.int (0 : Int32)), (.ref b1), (.int (0 : Int32)), (.ref a)])) rfl (by rw [hml]; rfl) [(.ref a), (.int (0 : Int32)), (.ref b1), (.int (0 : Int32)), (.int (2 : Int32))] [] (lenOf pd___CI_BII_I rfl) rfl rfl (by show 2 * 0 + _ ≤ _; exact Nat.le_of_eq rfl) (hb hby d14_9) (by decide) (by decide) (by decide) (by decide) ?_
  intro v2 T2 L2 X2 q2
  obtain ⟨rfl, Nq2, Kq2, Vq2⟩ := q2
  have N2 := Fr.app N0 Nq2
  have Va := Va.keep Kq2 (ninS ne_a_b1 nin0)
  have A1 := A1.keep Kq2
  have Kp := Kp.trans Kq2 (allS (Or.inr sz_b1) all0)
  have O0 := O0.keep Kq2 (allS g_b1 all0)
  show Goes p e below _ T2 (mkF m 12 #[.val (.ref a), .val (.int (0 : Int32)), .val (.int (2 : Int32)), .val (.ref b1), .unset, .unset] [(.int (0 : Int32))])
  refine Goes.of (fun _ => XS.istore X2.here hx rfl (hb hby d14_12) rfl (l' := #[.val (.ref a), .val (.int (0 : Int32)), .val (.int (2 : Int32)), .val (.ref b1), .val (.int (0 : Int32)), .unset]) rfl) ?_
  show Goes p e below _ T2 (mkF m 14 #[.val (.ref a), .val (.int (0 : Int32)), .val (.int (2 : Int32)), .val (.ref b1), .val (.int (0 : Int32)), .unset] [])
  refine Goes.of (fun _ => XS.iload X2.here hx rfl (hb hby d14_14) rfl) ?_
  show Goes p e below _ T2 (mkF m 16 #[.val (.ref a), .val (.int (0 : Int32)), .val (.int (2 : Int32)), .val (.ref b1), .val (.int (0 : Int32)), .unset] [(.int (0 : Int32))])
  refine Goes.of (fun _ => XS.iloadN X2.here hx rfl (hb hby d14_16) rfl) ?_
  show Goes p e below _ T2 (mkF m 17 #[.val (.ref a), .val (.int (0 : Int32)), .val (.int (2 : Int32)), .val (.ref b1), .val (.int (0 : Int32)), .unset] [(.int (2 : Int32)), (.int (0 : Int32))])
  refine Goes.of (fun _ => XS.icmpNo X2.here hx rfl (hb hby d14_17) rfl (feq (by decide)).1) ?_
  show Goes p e below _ T2 (mkF m 20 #[.val (.ref a), .val (.int (0 : Int32)), .val (.int (2 : Int32)), .val (.ref b1), .val (.int (0 : Int32)), .unset] [])
  refine Goes.of (fun _ => XS.aloadN X2.here hx rfl (hb hby d14_20) rfl rfl) ?_
  show Goes p e below _ T2 (mkF m 21 #[.val (.ref a), .val (.int (0 : Int32)), .val (.int (2 : Int32)), .val (.ref b1), .val (.int (0 : Int32)), .unset] [(.ref a)])
  refine Goes.of (fun _ => XS.iloadN X2.here hx rfl (hb hby d14_21) rfl) ?_
  show Goes p e below _ T2 (mkF m 22 #[.val (.ref a), .val (.int (0 : Int32)), .val (.int (2 : Int32)), .val (.ref b1), .val (.int (0 : Int32)), .unset] [(.int (0 : Int32)), (.ref a)])
  refine Goes.of (fun _ => XS.iloadN X2.here hx rfl (hb hby d14_22) rfl) ?_
  show Goes p e below _ T2 (mkF m 23 #[.val (.ref a), .val (.int (0 : Int32)), .val (.int (2 : Int32)), .val (.ref b1), .val (.int (0 : Int32)), .unset] [(.int (2 : Int32)), (.int (0 : Int32)), (.ref a)])
  refine goStatic 0 X2 hx hZ hown (hw _ (List.mem_of_getElem? (i := 138) rfl)) (hw _ (List.mem_of_getElem? (i := 139) rfl)) (hw _ (List.mem_of_getElem? (i := 97) rfl)) (hw _ (List.mem_of_getElem? (i := 140) rfl)) (by decide) (rm_tob3_2 l Z a0 hw a _ c0 c1 T2.heap n0 O0 Sa Sh Sl Va) (rfl : T2.heap = _) (g := (mkF m 23 #[.val (.ref a), .val (.int (0 : Int32)), .val (.int (2 : Int32)), .val (.ref b1), .val (.int (0 : Int32)), .unset] [(.int (2 : Int32)), (.int (0 : Int32)), (.ref a)])) rfl (by rw [hml]; rfl) [(.ref a), (.int (0 : Int32)), (.int (2 : Int32))] [] (lenOf pd___CII__B rfl) rfl rfl (by show 2 * 0 + _ ≤ _; exact Nat.le_of_eq rfl) (hb hby d14_23) (by decide) (by decide) (by decide) (by decide) ?_
  intro v3 T3 L3 X3 q3
  obtain ⟨tb3, kt3, rfl, Nq3, Kq3, gq3, sq3, Vt3⟩ := q3
  have N3 := Fr.app N2 Nq3
  have g_tb3 : n0 ≤ tb3 := gq3
  have sz_tb3 : h0.size ≤ tb3 := Nat.le_trans Kp.1 sq3
  have ne_a_tb3 : a ≠ tb3 := Nat.ne_of_lt (Nat.lt_of_lt_of_le Va.lt sq3)
  have ne_b1_tb3 : b1 ≠ tb3 := Nat.ne_of_lt (Nat.lt_of_lt_of_le A1.lt sq3)
  have Va := Va.keep Kq3 nin0
  have A1 := A1.keep Kq3
  have Vq2 := Vq2.keep Kq3 nin0
  have Kp := Kp.trans Kq3 all0
  have O0 := O0.keep Kq3 all0
  show Goes p e below _ T3 (mkF m 26 #[.val (.ref a), .val (.int (0 : Int32)), .val (.int (2 : Int32)), .val (.ref b1), .val (.int (0 : Int32)), .unset] [(.ref tb3)])
  refine Goes.of (fun _ => XS.astore X3.here hx rfl (hb hby d14_26) rfl rfl (l' := #[.val (.ref a), .val (.int (0 : Int32)), .val (.int (2 : Int32)), .val (.ref b1), .val (.int (0 : Int32)), .val (.ref tb3)]) rfl) ?_
  show Goes p e below _ T3 (mkF m 28 #[.val (.ref a), .val (.int (0 : Int32)), .val (.int (2 : Int32)), .val (.ref b1), .val (.int (0 : Int32)), .val (.ref tb3)] [])
  refine Goes.of (fun _ => XS.aload X3.here hx rfl (hb hby d14_28) rfl rfl) ?_
  show Goes p e below _ T3 (mkF m 30 #[.val (.ref a), .val (.int (0 : Int32)), .val (.int (2 : Int32)), .val (.ref b1), .val (.int (0 : Int32)), .val (.ref tb3)] [(.ref tb3)])
  refine Goes.of (fun _ => XS.iload X3.here hx rfl (hb hby d14_30) rfl) ?_
  show Goes p e below _ T3 (mkF m 32 #[.val (.ref a), .val (.int (0 : Int32)), .val (.int (2 : Int32)), .val (.ref b1), .val (.int (0 : Int32)), .val (.ref tb3)] [(.int (0 : Int32)), (.ref tb3)])
  refine goStatic 0 X3 hx hZ hown (hw _ (List.mem_of_getElem? (i := 148) rfl)) (hw _ (List.mem_of_getElem? (i := 149) rfl)) (hw _ (List.mem_of_getElem? (i := 97) rfl)) (hw _ (List.mem_of_getElem? (i := 150) rfl)) (by decide) (rm_get4_0 l Z a0 hw tb3 _ (nar .byte ((c0 >>> ((0 : Int32) &&& 31)).toInt8.toInt32)) (nar .byte ((c0 >>> ((8 : Int32) &&& 31)).toInt8.toInt32)) (nar .byte ((c1 >>> ((0 : Int32) &&& 31)).toInt8.toInt32)) (nar .byte ((c1 >>> ((8 : Int32) &&& 31)).toInt8.toInt32)) T3.heap n0 O0 Sa Sh Sl Vt3) (rfl : T3.heap = _) (g := (mkF m 32 #[.val (.ref a), .val (.int (0 : Int32)), .val (.int (2 : Int32)), .val (.ref b1), .val (.int (0 : Int32)), .val (.ref tb3)] [(.int (0 : Int32)), (.ref tb3)])) rfl (by rw [hml]; rfl) [(.ref tb3), (.int (0 : Int32))] [] (lenOf pd___BI_C rfl) rfl rfl (by show 2 * 0 + _ ≤ _; exact Nat.le_of_eq rfl) (hb hby d14_32) (by decide) (by decide) (by decide) (by decide) ?_
  intro v4 T4 L4 X4 q4
  obtain ⟨rfl, Nq4, eT4⟩ := q4
  have N4 := Fr.app N3 Nq4
  show Goes p e below _ T4 (mkF m 35 #[.val (.ref a), .val (.int (0 : Int32)), .val (.int (2 : Int32)), .val (.ref b1), .val (.int (0 : Int32)), .val (.ref tb3)] [(.int (nar .char (((((nar .byte ((c0 >>> ((0 : Int32) &&& 31)).toInt8.toInt32)) &&& (255 : Int32)) <<< ((0 : Int32) &&& 31)) ||| (((nar .byte ((c0 >>> ((8 : Int32) &&& 31)).toInt8.toInt32)) &&& (255 : Int32)) <<< ((8 : Int32) &&& 31))).toUInt32.toUInt16.toUInt32.toInt32)))])
  refine Goes.of (fun _ => XS.sipush X4.here hx rfl (hb hby d14_35)) ?_
  show Goes p e below _ T4 (mkF m 38 #[.val (.ref a), .val (.int (0 : Int32)), .val (.int (2 : Int32)), .val (.ref b1), .val (.int (0 : Int32)), .val (.ref tb3)] [(.int (255 : Int32)), (.int (nar .char (((((nar .byte ((c0 >>> ((0 : Int32) &&& 31)).toInt8.toInt32)) &&& (255 : Int32)) <<< ((0 : Int32) &&& 31)) ||| (((nar .byte ((c0 >>> ((8 : Int32) &&& 31)).toInt8.toInt32)) &&& (255 : Int32)) <<< ((8 : Int32) &&& 31))).toUInt32.toUInt16.toUInt32.toInt32)))])
  refine Goes.of (fun _ => XS.icmpYes X4.here hx rfl (pc0 := 38) (pc' := 54) rfl (hb hby d14_38) rfl (tlt (by rw [getc c0 hbd0]; exact hk0)).2.2.1 (by decide) (by decide)) ?_
  show Goes p e below _ T4 (mkF m 54 #[.val (.ref a), .val (.int (0 : Int32)), .val (.int (2 : Int32)), .val (.ref b1), .val (.int (0 : Int32)), .val (.ref tb3)] [])
  refine Goes.of (fun _ => XS.aload X4.here hx rfl (hb hby d14_54) rfl rfl) ?_
  show Goes p e below _ T4 (mkF m 56 #[.val (.ref a), .val (.int (0 : Int32)), .val (.int (2 : Int32)), .val (.ref b1), .val (.int (0 : Int32)), .val (.ref tb3)] [(.ref tb3)])
  exact retRef X4 hx hret hlk rfl rfl (hb hby d14_56) eT4 (by decide) (by decide) ⟨tb3, _, rfl, N4, Kp, g_tb3, sz_tb3, Vt3⟩
set_option maxRecDepth 65536 in
set_option maxHeartbeats 40000000 in
theorem rm_comp5_2_1 (l : Launch) (Z : State) (a0 : Array Value) (hw : ∀ d ∈ tables_1, d.before a0 Z = true) (a b : Addr) (ka kb : ClassId) (c0 c1 : Int32) (h0 : Heap) (n0 : Nat) (O0 : Old Z n0 h0) (g_b : n0 ≤ b) (hab : a ≠ b) (Va : Arv Z h0 a ka .char (2 : Int32) [(.int c0), (.int c1)] (.int (0 : Int32))) (Vb : Arv Z h0 b kb .byte (2 : Int32) [(.int (0 : Int32)), (.int (0 : Int32))] (.int (0 : Int32))) (hk0 : ¬ (255 : Int32) < c0) (hk1 : (255 : Int32) < c1) :
    Rm l (⟨"java/lang/StringUTF16", "compress", "([CI[BII)I"⟩ : MethodName) jdk_52_method_21_code 7 (some .int) ({ frames := 0, cells := 0, slots := 0, locals := 0 } : Room) [] Z #[(.ref a), (.int (0 : Int32)), (.ref b), (.int (0 : Int32)), (.int (2 : Int32))] h0 (fun v h L => v = some (.int (1 : Int32)) ∧ Fr n0 L ∧ Keep h0 h [b] ∧ Arv Z h b kb .byte (2 : Int32) [(.int (nar .byte (c0.toInt8.toInt32))), (.int (0 : Int32))] (.int (0 : Int32))) := by
  refine Rm.of (plainFor_of_name pn_java_lang_StringUTF16) ?_
  intro p e s m below meth cod T X hx hZ hby hml hown hnm hret hlk eT0
  have hown : s.vm.findClass "java/lang/StringUTF16" = some m.cls := hown
  have hnm : meth.name = "compress" := hnm
  have N0 := Fr.nil n0
  have Kp := Keep.refl h0 [b]
  refine Goes.cast (ef_15 m a (0 : Int32) b (0 : Int32) (2 : Int32)) ?_
  show Goes p e below _ T (mkF m 0 #[.val (.ref a), .val (.int (0 : Int32)), .val (.ref b), .val (.int (0 : Int32)), .val (.int (2 : Int32)), .unset, .unset] [])
  refine Goes.of (fun _ => XS.iconst X.here hx rfl (hb hby d15_0)) ?_
  show Goes p e below _ T (mkF m 1 #[.val (.ref a), .val (.int (0 : Int32)), .val (.ref b), .val (.int (0 : Int32)), .val (.int (2 : Int32)), .unset, .unset] [(.int (0 : Int32))])
  refine Goes.of (fun _ => XS.istore X.here hx rfl (hb hby d15_1) rfl (l' := #[.val (.ref a), .val (.int (0 : Int32)), .val (.ref b), .val (.int (0 : Int32)), .val (.int (2 : Int32)), .val (.int (0 : Int32)), .unset]) rfl) ?_
  show Goes p e below _ T (mkF m 3 #[.val (.ref a), .val (.int (0 : Int32)), .val (.ref b), .val (.int (0 : Int32)), .val (.int (2 : Int32)), .val (.int (0 : Int32)), .unset] [])
  refine Goes.of (fun _ => XS.iload X.here hx rfl (hb hby d15_3) rfl) ?_
  show Goes p e below _ T (mkF m 5 #[.val (.ref a), .val (.int (0 : Int32)), .val (.ref b), .val (.int (0 : Int32)), .val (.int (2 : Int32)), .val (.int (0 : Int32)), .unset] [(.int (0 : Int32))])
  refine Goes.of (fun _ => XS.iload X.here hx rfl (hb hby d15_5) rfl) ?_
  show Goes p e below _ T (mkF m 7 #[.val (.ref a), .val (.int (0 : Int32)), .val (.ref b), .val (.int (0 : Int32)), .val (.int (2 : Int32)), .val (.int (0 : Int32)), .unset] [(.int (2 : Int32)), (.int (0 : Int32))])
  refine Goes.of (fun _ => XS.icmpNo X.here hx rfl (hb hby d15_7) rfl (tlt (by decide)).2.1) ?_
  show Goes p e below _ T (mkF m 10 #[.val (.ref a), .val (.int (0 : Int32)), .val (.ref b), .val (.int (0 : Int32)), .val (.int (2 : Int32)), .val (.int (0 : Int32)), .unset] [])
  refine Goes.of (fun _ => XS.aloadN X.here hx rfl (hb hby d15_10) rfl rfl) ?_
  show Goes p e below _ T (mkF m 11 #[.val (.ref a), .val (.int (0 : Int32)), .val (.ref b), .val (.int (0 : Int32)), .val (.int (2 : Int32)), .val (.int (0 : Int32)), .unset] [(.ref a)])
  refine Goes.of (fun _ => XS.iloadN X.here hx rfl (hb hby d15_11) rfl) ?_
  show Goes p e below _ T (mkF m 12 #[.val (.ref a), .val (.int (0 : Int32)), .val (.ref b), .val (.int (0 : Int32)), .val (.int (2 : Int32)), .val (.int (0 : Int32)), .unset] [(.int (0 : Int32)), (.ref a)])
  refine goLdC (.int c0) X hx hZ eT0 Va (by decide) (by decide) rfl (g := (mkF m 12 #[.val (.ref a), .val (.int (0 : Int32)), .val (.ref b), .val (.int (0 : Int32)), .val (.int (2 : Int32)), .val (.int (0 : Int32)), .unset] [(.int (0 : Int32)), (.ref a)])) rfl rfl (hb hby d15_12) ?_
  show Goes p e below _ T (mkF m 13 #[.val (.ref a), .val (.int (0 : Int32)), .val (.ref b), .val (.int (0 : Int32)), .val (.int (2 : Int32)), .val (.int (0 : Int32)), .unset] [(.int c0)])
  refine Goes.of (fun _ => XS.istore X.here hx rfl (hb hby d15_13) rfl (l' := #[.val (.ref a), .val (.int (0 : Int32)), .val (.ref b), .val (.int (0 : Int32)), .val (.int (2 : Int32)), .val (.int (0 : Int32)), .val (.int c0)]) rfl) ?_
  show Goes p e below _ T (mkF m 15 #[.val (.ref a), .val (.int (0 : Int32)), .val (.ref b), .val (.int (0 : Int32)), .val (.int (2 : Int32)), .val (.int (0 : Int32)), .val (.int c0)] [])
  refine Goes.of (fun _ => XS.iload X.here hx rfl (hb hby d15_15) rfl) ?_
  show Goes p e below _ T (mkF m 17 #[.val (.ref a), .val (.int (0 : Int32)), .val (.ref b), .val (.int (0 : Int32)), .val (.int (2 : Int32)), .val (.int (0 : Int32)), .val (.int c0)] [(.int c0)])
  refine Goes.of (fun _ => XS.sipush X.here hx rfl (hb hby d15_17)) ?_
  show Goes p e below _ T (mkF m 20 #[.val (.ref a), .val (.int (0 : Int32)), .val (.ref b), .val (.int (0 : Int32)), .val (.int (2 : Int32)), .val (.int (0 : Int32)), .val (.int c0)] [(.int (255 : Int32)), (.int c0)])
  refine Goes.of (fun _ => XS.icmpYes X.here hx rfl (pc0 := 20) (pc' := 26) rfl (hb hby d15_20) rfl (flt hk0).2.2.2 (by decide) (by decide)) ?_
  show Goes p e below _ T (mkF m 26 #[.val (.ref a), .val (.int (0 : Int32)), .val (.ref b), .val (.int (0 : Int32)), .val (.int (2 : Int32)), .val (.int (0 : Int32)), .val (.int c0)] [])
  refine Goes.of (fun _ => XS.aloadN X.here hx rfl (hb hby d15_26) rfl rfl) ?_
  show Goes p e below _ T (mkF m 27 #[.val (.ref a), .val (.int (0 : Int32)), .val (.ref b), .val (.int (0 : Int32)), .val (.int (2 : Int32)), .val (.int (0 : Int32)), .val (.int c0)] [(.ref b)])
  refine Goes.of (fun _ => XS.iloadN X.here hx rfl (hb hby d15_27) rfl) ?_
  show Goes p e below _ T (mkF m 28 #[.val (.ref a), .val (.int (0 : Int32)), .val (.ref b), .val (.int (0 : Int32)), .val (.int (2 : Int32)), .val (.int (0 : Int32)), .val (.int c0)] [(.int (0 : Int32)), (.ref b)])
  refine Goes.of (fun _ => XS.iload X.here hx rfl (hb hby d15_28) rfl) ?_
  show Goes p e below _ T (mkF m 30 #[.val (.ref a), .val (.int (0 : Int32)), .val (.ref b), .val (.int (0 : Int32)), .val (.int (2 : Int32)), .val (.int (0 : Int32)), .val (.int c0)] [(.int c0), (.int (0 : Int32)), (.ref b)])
  refine Goes.of (fun _ => XS.i2b X.here hx rfl (hb hby d15_30) rfl) ?_
  show Goes p e below _ T (mkF m 31 #[.val (.ref a), .val (.int (0 : Int32)), .val (.ref b), .val (.int (0 : Int32)), .val (.int (2 : Int32)), .val (.int (0 : Int32)), .val (.int c0)] [(.int (c0.toInt8.toInt32)), (.int (0 : Int32)), (.ref b)])
  refine goStB 0 X hx hZ eT0 Vb (by decide) (by decide) rfl (Nat.lt_of_lt_of_le (Nat.lt_succ_self _) (Nat.le_of_ble_eq_true rfl)) (g := (mkF m 31 #[.val (.ref a), .val (.int (0 : Int32)), .val (.ref b), .val (.int (0 : Int32)), .val (.int (2 : Int32)), .val (.int (0 : Int32)), .val (.int c0)] [(.int (c0.toInt8.toInt32)), (.int (0 : Int32)), (.ref b)])) rfl rfl (hb hby d15_31) ?_
  intro T2 h2 X2 eT2 W2 Vb
  have N2 := Fr.snoc X2 N0 g_b
  have Va := Va.other W2 hab
  have Kp := Kp.wr W2 (Or.inl (List.mem_of_getElem? (i := 0) rfl))
  have O0 := O0.wr W2 g_b
  have Vb : Arv Z h2 b kb .byte (2 : Int32) [(.int (nar .byte (c0.toInt8.toInt32))), (.int (0 : Int32))] (.int (0 : Int32)) := Vb
  show Goes p e below _ T2 (mkF m 32 #[.val (.ref a), .val (.int (0 : Int32)), .val (.ref b), .val (.int (0 : Int32)), .val (.int (2 : Int32)), .val (.int (0 : Int32)), .val (.int c0)] [])
  refine Goes.of (fun _ => XS.iinc X2.here hx rfl (hb hby d15_32) rfl (l' := #[.val (.ref a), .val (.int (1 : Int32)), .val (.ref b), .val (.int (0 : Int32)), .val (.int (2 : Int32)), .val (.int (0 : Int32)), .val (.int c0)]) rfl) ?_
  show Goes p e below _ T2 (mkF m 35 #[.val (.ref a), .val (.int (1 : Int32)), .val (.ref b), .val (.int (0 : Int32)), .val (.int (2 : Int32)), .val (.int (0 : Int32)), .val (.int c0)] [])
  refine Goes.of (fun _ => XS.iinc X2.here hx rfl (hb hby d15_35) rfl (l' := #[.val (.ref a), .val (.int (1 : Int32)), .val (.ref b), .val (.int (1 : Int32)), .val (.int (2 : Int32)), .val (.int (0 : Int32)), .val (.int c0)]) rfl) ?_
  show Goes p e below _ T2 (mkF m 38 #[.val (.ref a), .val (.int (1 : Int32)), .val (.ref b), .val (.int (1 : Int32)), .val (.int (2 : Int32)), .val (.int (0 : Int32)), .val (.int c0)] [])
  refine Goes.of (fun _ => XS.iinc X2.here hx rfl (hb hby d15_38) rfl (l' := #[.val (.ref a), .val (.int (1 : Int32)), .val (.ref b), .val (.int (1 : Int32)), .val (.int (2 : Int32)), .val (.int (1 : Int32)), .val (.int c0)]) rfl) ?_
  show Goes p e below _ T2 (mkF m 41 #[.val (.ref a), .val (.int (1 : Int32)), .val (.ref b), .val (.int (1 : Int32)), .val (.int (2 : Int32)), .val (.int (1 : Int32)), .val (.int c0)] [])
  refine Goes.of (fun _ => XS.goto X2.here hx rfl (pc0 := 41) (pc' := 3) rfl (hb hby d15_41) (by decide) (by decide)) ?_
  show Goes p e below _ T2 (mkF m 3 #[.val (.ref a), .val (.int (1 : Int32)), .val (.ref b), .val (.int (1 : Int32)), .val (.int (2 : Int32)), .val (.int (1 : Int32)), .val (.int c0)] [])
  refine Goes.of (fun _ => XS.iload X2.here hx rfl (hb hby d15_3) rfl) ?_
  show Goes p e below _ T2 (mkF m 5 #[.val (.ref a), .val (.int (1 : Int32)), .val (.ref b), .val (.int (1 : Int32)), .val (.int (2 : Int32)), .val (.int (1 : Int32)), .val (.int c0)] [(.int (1 : Int32))])
  refine Goes.of (fun _ => XS.iload X2.here hx rfl (hb hby d15_5) rfl) ?_
  show Goes p e below _ T2 (mkF m 7 #[.val (.ref a), .val (.int (1 : Int32)), .val (.ref b), .val (.int (1 : Int32)), .val (.int (2 : Int32)), .val (.int (1 : Int32)), .val (.int c0)] [(.int (2 : Int32)), (.int (1 : Int32))])
  refine Goes.of (fun _ => XS.icmpNo X2.here hx rfl (hb hby d15_7) rfl (tlt (by decide)).2.1) ?_
  show Goes p e below _ T2 (mkF m 10 #[.val (.ref a), .val (.int (1 : Int32)), .val (.ref b), .val (.int (1 : Int32)), .val (.int (2 : Int32)), .val (.int (1 : Int32)), .val (.int c0)] [])
  refine Goes.of (fun _ => XS.aloadN X2.here hx rfl (hb hby d15_10) rfl rfl) ?_
  show Goes p e below _ T2 (mkF m 11 #[.val (.ref a), .val (.int (1 : Int32)), .val (.ref b), .val (.int (1 : Int32)), .val (.int (2 : Int32)), .val (.int (1 : Int32)), .val (.int c0)] [(.ref a)])
  refine Goes.of (fun _ => XS.iloadN X2.here hx rfl (hb hby d15_11) rfl) ?_
  show Goes p e below _ T2 (mkF m 12 #[.val (.ref a), .val (.int (1 : Int32)), .val (.ref b), .val (.int (1 : Int32)), .val (.int (2 : Int32)), .val (.int (1 : Int32)), .val (.int c0)] [(.int (1 : Int32)), (.ref a)])
  refine goLdC (.int c1) X2 hx hZ eT2 Va (by decide) (by decide) rfl (g := (mkF m 12 #[.val (.ref a), .val (.int (1 : Int32)), .val (.ref b), .val (.int (1 : Int32)), .val (.int (2 : Int32)), .val (.int (1 : Int32)), .val (.int c0)] [(.int (1 : Int32)), (.ref a)])) rfl rfl (hb hby d15_12) ?_
  show Goes p e below _ T2 (mkF m 13 #[.val (.ref a), .val (.int (1 : Int32)), .val (.ref b), .val (.int (1 : Int32)), .val (.int (2 : Int32)), .val (.int (1 : Int32)), .val (.int c0)] [(.int c1)])
  refine Goes.of (fun _ => XS.istore X2.here hx rfl (hb hby d15_13) rfl (l' := #[.val (.ref a), .val (.int (1 : Int32)), .val (.ref b), .val (.int (1 : Int32)), .val (.int (2 : Int32)), .val (.int (1 : Int32)), .val (.int c1)]) rfl) ?_
  show Goes p e below _ T2 (mkF m 15 #[.val (.ref a), .val (.int (1 : Int32)), .val (.ref b), .val (.int (1 : Int32)), .val (.int (2 : Int32)), .val (.int (1 : Int32)), .val (.int c1)] [])
  refine Goes.of (fun _ => XS.iload X2.here hx rfl (hb hby d15_15) rfl) ?_
  show Goes p e below _ T2 (mkF m 17 #[.val (.ref a), .val (.int (1 : Int32)), .val (.ref b), .val (.int (1 : Int32)), .val (.int (2 : Int32)), .val (.int (1 : Int32)), .val (.int c1)] [(.int c1)])
  refine Goes.of (fun _ => XS.sipush X2.here hx rfl (hb hby d15_17)) ?_
  show Goes p e below _ T2 (mkF m 20 #[.val (.ref a), .val (.int (1 : Int32)), .val (.ref b), .val (.int (1 : Int32)), .val (.int (2 : Int32)), .val (.int (1 : Int32)), .val (.int c1)] [(.int (255 : Int32)), (.int c1)])
  refine Goes.of (fun _ => XS.icmpNo X2.here hx rfl (hb hby d15_20) rfl (tlt hk1).2.2.2) ?_
  show Goes p e below _ T2 (mkF m 23 #[.val (.ref a), .val (.int (1 : Int32)), .val (.ref b), .val (.int (1 : Int32)), .val (.int (2 : Int32)), .val (.int (1 : Int32)), .val (.int c1)] [])
  refine Goes.of (fun _ => XS.iload X2.here hx rfl (hb hby d15_23) rfl) ?_
  show Goes p e below _ T2 (mkF m 25 #[.val (.ref a), .val (.int (1 : Int32)), .val (.ref b), .val (.int (1 : Int32)), .val (.int (2 : Int32)), .val (.int (1 : Int32)), .val (.int c1)] [(.int (1 : Int32))])
  exact retInt X2 hx hret hlk (hb hby d15_25) eT2 (by decide) (by decide) ⟨rfl, N2, Kp, Vb⟩
set_option maxRecDepth 65536 in
set_option maxHeartbeats 40000000 in
theorem rm_comp3_2_1 (l : Launch) (Z : State) (a0 : Array Value) (hw : ∀ d ∈ tables_1, d.before a0 Z = true) (a : Addr) (ka : ClassId) (c0 c1 : Int32) (h0 : Heap) (n0 : Nat) (O0 : Old Z n0 h0) (Sa : Sta Z Z.heap "java/lang/StringUTF16" "$assertionsDisabled" "Z" (.int (1 : Int32))) (Sh : Sta Z Z.heap "java/lang/StringUTF16" "HI_BYTE_SHIFT" "I" (.int (0 : Int32))) (Sl : Sta Z Z.heap "java/lang/StringUTF16" "LO_BYTE_SHIFT" "I" (.int (8 : Int32))) (Va : Arv Z h0 a ka .char (2 : Int32) [(.int c0), (.int c1)] (.int (0 : Int32))) (hk0 : ¬ (255 : Int32) < c0) (hk1 : (255 : Int32) < c1) (hbd0 : ¬ c0 < 0 ∧ ¬ (65535 : Int32) < c0) (hbd1 : ¬ c1 < 0 ∧ ¬ (65535 : Int32) < c1) :
    Rm l (⟨"java/lang/StringUTF16", "compress", "([CII)[B"⟩ : MethodName) jdk_52_method_16_code 6 (some (.array .byte)) ({ frames := 3, cells := 2, slots := 6, locals := 40 } : Room) [] Z #[(.ref a), (.int (0 : Int32)), (.int (2 : Int32))] h0 (fun v h L => ∃ (b : Addr) (kb : ClassId), v = some (.ref b) ∧ Fr n0 L ∧ Keep h0 h [] ∧ n0 ≤ b ∧ h0.size ≤ b ∧ Arv Z h b kb .byte (4 : Int32) [(.int (nar .byte ((c0 >>> ((0 : Int32) &&& 31)).toInt8.toInt32))), (.int (nar .byte ((c0 >>> ((8 : Int32) &&& 31)).toInt8.toInt32))), (.int (nar .byte ((c1 >>> ((0 : Int32) &&& 31)).toInt8.toInt32))), (.int (nar .byte ((c1 >>> ((8 : Int32) &&& 31)).toInt8.toInt32)))] (.int (0 : Int32))) := by
  refine Rm.of (plainFor_of_name pn_java_lang_StringUTF16) ?_
  intro p e s m below meth cod T X hx hZ hby hml hown hnm hret hlk eT0
  have hown : s.vm.findClass "java/lang/StringUTF16" = some m.cls := hown
  have hnm : meth.name = "compress" := hnm
  have N0 := Fr.nil n0
  have Kp := Keep.refl h0 []
  refine Goes.cast (ef_14 m a (0 : Int32) (2 : Int32)) ?_
  show Goes p e below _ T (mkF m 0 #[.val (.ref a), .val (.int (0 : Int32)), .val (.int (2 : Int32)), .unset, .unset, .unset] [])
  refine Goes.of (fun _ => XS.iloadN X.here hx rfl (hb hby d14_0) rfl) ?_
  show Goes p e below _ T (mkF m 1 #[.val (.ref a), .val (.int (0 : Int32)), .val (.int (2 : Int32)), .unset, .unset, .unset] [(.int (2 : Int32))])
  refine goNewP 2 X hx hZ (hw _ (List.mem_of_getElem? (i := 99) rfl)) eT0 (g := (mkF m 1 #[.val (.ref a), .val (.int (0 : Int32)), .val (.int (2 : Int32)), .unset, .unset, .unset] [(.int (2 : Int32))])) rfl (hb hby d14_1) rfl (by decide) (by decide) (by decide) (by decide) (by decide) (ad := "[B") (by first | rfl | decide) ?_
  intro T1 h1 b1 kA1 X1 eT1 E1 hb1 V1 A1
  have g_b1 : n0 ≤ b1 := Nat.le_trans (oldLe O0) hb1
  have sz_b1 : h0.size ≤ b1 := Nat.le_trans Kp.1 hb1
  have ne_a_b1 : a ≠ b1 := Nat.ne_of_lt (Nat.lt_of_lt_of_le Va.lt hb1)
  have Va := Va.ext E1
  have Kp := Kp.ext E1
  have O0 := O0.ext E1
  have V1 : Arv Z h1 b1 kA1 .byte (2 : Int32) [(.int (0 : Int32)), (.int (0 : Int32))] (.int (0 : Int32)) := V1
  show Goes p e below _ T1 (mkF m 3 #[.val (.ref a), .val (.int (0 : Int32)), .val (.int (2 : Int32)), .unset, .unset, .unset] [(.ref b1)])
  refine Goes.of (fun _ => XS.astoreN X1.here hx rfl (hb hby d14_3) rfl rfl (l' := #[.val (.ref a), .val (.int (0 : Int32)), .val (.int (2 : Int32)), .val (.ref b1), .unset, .unset]) rfl) ?_
  show Goes p e below _ T1 (mkF m 4 #[.val (.ref a), .val (.int (0 : Int32)), .val (.int (2 : Int32)), .val (.ref b1), .unset, .unset] [])
  refine Goes.of (fun _ => XS.aloadN X1.here hx rfl (hb hby d14_4) rfl rfl) ?_
  show Goes p e below _ T1 (mkF m 5 #[.val (.ref a), .val (.int (0 : Int32)), .val (.int (2 : Int32)), .val (.ref b1), .unset, .unset] [(.ref a)])
  refine Goes.of (fun _ => XS.iloadN X1.here hx rfl (hb hby d14_5) rfl) ?_
  show Goes p e below _ T1 (mkF m 6 #[.val (.ref a), .val (.int (0 : Int32)), .val (.int (2 : Int32)), .val (.ref b1), .unset, .unset] [(.int (0 : Int32)), (.ref a)])
  refine Goes.of (fun _ => XS.aloadN X1.here hx rfl (hb hby d14_6) rfl rfl) ?_
  show Goes p e below _ T1 (mkF m 7 #[.val (.ref a), .val (.int (0 : Int32)), .val (.int (2 : Int32)), .val (.ref b1), .unset, .unset] [(.ref b1), (.int (0 : Int32)), (.ref a)])
  refine Goes.of (fun _ => XS.iconst X1.here hx rfl (hb hby d14_7)) ?_
  show Goes p e below _ T1 (mkF m 8 #[.val (.ref a), .val (.int (0 : Int32)), .val (.int (2 : Int32)), .val (.ref b1), .unset, .unset] [(.int (0 : Int32)), (.ref b1), (.int (0 : Int32)), (.ref a)])
  refine Goes.of (fun _ => XS.iloadN X1.here hx rfl (hb hby d14_8) rfl) ?_
  show Goes p e below _ T1 (mkF m 9 #[.val (.ref a), .val (.int (0 : Int32)), .val (.int (2 : Int32)), .val (.ref b1), .unset, .unset] [(.int (2 : Int32)), (.int (0 : Int32)), (.ref b1), (.int (0 : Int32)), (.ref a)])
  refine goStatic 0 X1 hx hZ hown (hw _ (List.mem_of_getElem? (i := 100) rfl)) (hw _ (List.mem_of_getElem? (i := 101) rfl)) (hw _ (List.mem_of_getElem? (i := 97) rfl)) (hw _ (List.mem_of_getElem? (i := 102) rfl)) (by decide) (rm_comp5_2_1 l Z a0 hw a b1 _ _ c0 c1 h1 n0 O0 g_b1 ne_a_b1 Va V1 hk0 hk1) eT1 (g := (mkF m 9 #[.val (.ref a), .val (.int (0 : Int32)), .val (.int (2 : Int32)), .val (.ref b1), .unset, .unset] [(.int (2 : Int32)), (.int (0 : Int32)), (.ref b1), (.int (0 : Int32)), (.ref a)])) rfl (by rw [hml]; rfl) [(.ref a), (.int (0 : Int32)), (.ref b1), (.int (0 : Int32)), (.int (2 : Int32))] [] (lenOf pd___CI_BII_I rfl) rfl rfl (by show 2 * 0 + _ ≤ _; exact Nat.le_of_eq rfl) (hb hby d14_9) (by decide) (by decide) (by decide) (by decide) ?_
  intro v2 T2 L2 X2 q2
  obtain ⟨rfl, Nq2, Kq2, Vq2⟩ := q2
  have N2 := Fr.app N0 Nq2
  have Va := Va.keep Kq2 (ninS ne_a_b1 nin0)
  have A1 := A1.keep Kq2
  have Kp := Kp.trans Kq2 (allS (Or.inr sz_b1) all0)
  have O0 := O0.keep Kq2 (allS g_b1 all0)
  show Goes p e below _ T2 (mkF m 12 #[.val (.ref a), .val (.int (0 : Int32)), .val (.int (2 : Int32)), .val (.ref b1), .unset, .unset] [(.int (1 : Int32))])
  refine Goes.of (fun _ => XS.istore X2.here hx rfl (hb hby d14_12) rfl (l' := #[.val (.ref a), .val (.int (0 : Int32)), .val (.int (2 : Int32)), .val (.ref b1), .val (.int (1 : Int32)), .unset]) rfl) ?_
  show Goes p e below _ T2 (mkF m 14 #[.val (.ref a), .val (.int (0 : Int32)), .val (.int (2 : Int32)), .val (.ref b1), .val (.int (1 : Int32)), .unset] [])
  refine Goes.of (fun _ => XS.iload X2.here hx rfl (hb hby d14_14) rfl) ?_
  show Goes p e below _ T2 (mkF m 16 #[.val (.ref a), .val (.int (0 : Int32)), .val (.int (2 : Int32)), .val (.ref b1), .val (.int (1 : Int32)), .unset] [(.int (1 : Int32))])
  refine Goes.of (fun _ => XS.iloadN X2.here hx rfl (hb hby d14_16) rfl) ?_
  show Goes p e below _ T2 (mkF m 17 #[.val (.ref a), .val (.int (0 : Int32)), .val (.int (2 : Int32)), .val (.ref b1), .val (.int (1 : Int32)), .unset] [(.int (2 : Int32)), (.int (1 : Int32))])
  refine Goes.of (fun _ => XS.icmpNo X2.here hx rfl (hb hby d14_17) rfl (feq (by decide)).1) ?_
  show Goes p e below _ T2 (mkF m 20 #[.val (.ref a), .val (.int (0 : Int32)), .val (.int (2 : Int32)), .val (.ref b1), .val (.int (1 : Int32)), .unset] [])
  refine Goes.of (fun _ => XS.aloadN X2.here hx rfl (hb hby d14_20) rfl rfl) ?_
  show Goes p e below _ T2 (mkF m 21 #[.val (.ref a), .val (.int (0 : Int32)), .val (.int (2 : Int32)), .val (.ref b1), .val (.int (1 : Int32)), .unset] [(.ref a)])
  refine Goes.of (fun _ => XS.iloadN X2.here hx rfl (hb hby d14_21) rfl) ?_
  show Goes p e below _ T2 (mkF m 22 #[.val (.ref a), .val (.int (0 : Int32)), .val (.int (2 : Int32)), .val (.ref b1), .val (.int (1 : Int32)), .unset] [(.int (0 : Int32)), (.ref a)])
  refine Goes.of (fun _ => XS.iloadN X2.here hx rfl (hb hby d14_22) rfl) ?_
  show Goes p e below _ T2 (mkF m 23 #[.val (.ref a), .val (.int (0 : Int32)), .val (.int (2 : Int32)), .val (.ref b1), .val (.int (1 : Int32)), .unset] [(.int (2 : Int32)), (.int (0 : Int32)), (.ref a)])
  refine goStatic 0 X2 hx hZ hown (hw _ (List.mem_of_getElem? (i := 138) rfl)) (hw _ (List.mem_of_getElem? (i := 139) rfl)) (hw _ (List.mem_of_getElem? (i := 97) rfl)) (hw _ (List.mem_of_getElem? (i := 140) rfl)) (by decide) (rm_tob3_2 l Z a0 hw a _ c0 c1 T2.heap n0 O0 Sa Sh Sl Va) (rfl : T2.heap = _) (g := (mkF m 23 #[.val (.ref a), .val (.int (0 : Int32)), .val (.int (2 : Int32)), .val (.ref b1), .val (.int (1 : Int32)), .unset] [(.int (2 : Int32)), (.int (0 : Int32)), (.ref a)])) rfl (by rw [hml]; rfl) [(.ref a), (.int (0 : Int32)), (.int (2 : Int32))] [] (lenOf pd___CII__B rfl) rfl rfl (by show 2 * 0 + _ ≤ _; exact Nat.le_of_eq rfl) (hb hby d14_23) (by decide) (by decide) (by decide) (by decide) ?_
  intro v3 T3 L3 X3 q3
  obtain ⟨tb3, kt3, rfl, Nq3, Kq3, gq3, sq3, Vt3⟩ := q3
  have N3 := Fr.app N2 Nq3
  have g_tb3 : n0 ≤ tb3 := gq3
  have sz_tb3 : h0.size ≤ tb3 := Nat.le_trans Kp.1 sq3
  have ne_a_tb3 : a ≠ tb3 := Nat.ne_of_lt (Nat.lt_of_lt_of_le Va.lt sq3)
  have ne_b1_tb3 : b1 ≠ tb3 := Nat.ne_of_lt (Nat.lt_of_lt_of_le A1.lt sq3)
  have Va := Va.keep Kq3 nin0
  have A1 := A1.keep Kq3
  have Vq2 := Vq2.keep Kq3 nin0
  have Kp := Kp.trans Kq3 all0
  have O0 := O0.keep Kq3 all0
  show Goes p e below _ T3 (mkF m 26 #[.val (.ref a), .val (.int (0 : Int32)), .val (.int (2 : Int32)), .val (.ref b1), .val (.int (1 : Int32)), .unset] [(.ref tb3)])
  refine Goes.of (fun _ => XS.astore X3.here hx rfl (hb hby d14_26) rfl rfl (l' := #[.val (.ref a), .val (.int (0 : Int32)), .val (.int (2 : Int32)), .val (.ref b1), .val (.int (1 : Int32)), .val (.ref tb3)]) rfl) ?_
  show Goes p e below _ T3 (mkF m 28 #[.val (.ref a), .val (.int (0 : Int32)), .val (.int (2 : Int32)), .val (.ref b1), .val (.int (1 : Int32)), .val (.ref tb3)] [])
  refine Goes.of (fun _ => XS.aload X3.here hx rfl (hb hby d14_28) rfl rfl) ?_
  show Goes p e below _ T3 (mkF m 30 #[.val (.ref a), .val (.int (0 : Int32)), .val (.int (2 : Int32)), .val (.ref b1), .val (.int (1 : Int32)), .val (.ref tb3)] [(.ref tb3)])
  refine Goes.of (fun _ => XS.iload X3.here hx rfl (hb hby d14_30) rfl) ?_
  show Goes p e below _ T3 (mkF m 32 #[.val (.ref a), .val (.int (0 : Int32)), .val (.int (2 : Int32)), .val (.ref b1), .val (.int (1 : Int32)), .val (.ref tb3)] [(.int (1 : Int32)), (.ref tb3)])
  refine goStatic 0 X3 hx hZ hown (hw _ (List.mem_of_getElem? (i := 148) rfl)) (hw _ (List.mem_of_getElem? (i := 149) rfl)) (hw _ (List.mem_of_getElem? (i := 97) rfl)) (hw _ (List.mem_of_getElem? (i := 150) rfl)) (by decide) (rm_get4_1 l Z a0 hw tb3 _ (nar .byte ((c0 >>> ((0 : Int32) &&& 31)).toInt8.toInt32)) (nar .byte ((c0 >>> ((8 : Int32) &&& 31)).toInt8.toInt32)) (nar .byte ((c1 >>> ((0 : Int32) &&& 31)).toInt8.toInt32)) (nar .byte ((c1 >>> ((8 : Int32) &&& 31)).toInt8.toInt32)) T3.heap n0 O0 Sa Sh Sl Vt3) (rfl : T3.heap = _) (g := (mkF m 32 #[.val (.ref a), .val (.int (0 : Int32)), .val (.int (2 : Int32)), .val (.ref b1), .val (.int (1 : Int32)), .val (.ref tb3)] [(.int (1 : Int32)), (.ref tb3)])) rfl (by rw [hml]; rfl) [(.ref tb3), (.int (1 : Int32))] [] (lenOf pd___BI_C rfl) rfl rfl (by show 2 * 0 + _ ≤ _; exact Nat.le_of_eq rfl) (hb hby d14_32) (by decide) (by decide) (by decide) (by decide) ?_
  intro v4 T4 L4 X4 q4
  obtain ⟨rfl, Nq4, eT4⟩ := q4
  have N4 := Fr.app N3 Nq4
  show Goes p e below _ T4 (mkF m 35 #[.val (.ref a), .val (.int (0 : Int32)), .val (.int (2 : Int32)), .val (.ref b1), .val (.int (1 : Int32)), .val (.ref tb3)] [(.int (nar .char (((((nar .byte ((c1 >>> ((0 : Int32) &&& 31)).toInt8.toInt32)) &&& (255 : Int32)) <<< ((0 : Int32) &&& 31)) ||| (((nar .byte ((c1 >>> ((8 : Int32) &&& 31)).toInt8.toInt32)) &&& (255 : Int32)) <<< ((8 : Int32) &&& 31))).toUInt32.toUInt16.toUInt32.toInt32)))])
  refine Goes.of (fun _ => XS.sipush X4.here hx rfl (hb hby d14_35)) ?_
  show Goes p e below _ T4 (mkF m 38 #[.val (.ref a), .val (.int (0 : Int32)), .val (.int (2 : Int32)), .val (.ref b1), .val (.int (1 : Int32)), .val (.ref tb3)] [(.int (255 : Int32)), (.int (nar .char (((((nar .byte ((c1 >>> ((0 : Int32) &&& 31)).toInt8.toInt32)) &&& (255 : Int32)) <<< ((0 : Int32) &&& 31)) ||| (((nar .byte ((c1 >>> ((8 : Int32) &&& 31)).toInt8.toInt32)) &&& (255 : Int32)) <<< ((8 : Int32) &&& 31))).toUInt32.toUInt16.toUInt32.toInt32)))])
  refine Goes.of (fun _ => XS.icmpYes X4.here hx rfl (pc0 := 38) (pc' := 54) rfl (hb hby d14_38) rfl (tlt (by rw [getc c1 hbd1]; exact hk1)).2.2.1 (by decide) (by decide)) ?_
  show Goes p e below _ T4 (mkF m 54 #[.val (.ref a), .val (.int (0 : Int32)), .val (.int (2 : Int32)), .val (.ref b1), .val (.int (1 : Int32)), .val (.ref tb3)] [])
  refine Goes.of (fun _ => XS.aload X4.here hx rfl (hb hby d14_54) rfl rfl) ?_
  show Goes p e below _ T4 (mkF m 56 #[.val (.ref a), .val (.int (0 : Int32)), .val (.int (2 : Int32)), .val (.ref b1), .val (.int (1 : Int32)), .val (.ref tb3)] [(.ref tb3)])
  exact retRef X4 hx hret hlk rfl rfl (hb hby d14_56) eT4 (by decide) (by decide) ⟨tb3, _, rfl, N4, Kp, g_tb3, sz_tb3, Vt3⟩
set_option maxRecDepth 65536 in
set_option maxHeartbeats 40000000 in
theorem rm_comp5_2_2 (l : Launch) (Z : State) (a0 : Array Value) (hw : ∀ d ∈ tables_1, d.before a0 Z = true) (a b : Addr) (ka kb : ClassId) (c0 c1 : Int32) (h0 : Heap) (n0 : Nat) (O0 : Old Z n0 h0) (g_b : n0 ≤ b) (hab : a ≠ b) (Va : Arv Z h0 a ka .char (2 : Int32) [(.int c0), (.int c1)] (.int (0 : Int32))) (Vb : Arv Z h0 b kb .byte (2 : Int32) [(.int (0 : Int32)), (.int (0 : Int32))] (.int (0 : Int32))) (hk0 : ¬ (255 : Int32) < c0) (hk1 : ¬ (255 : Int32) < c1) :
    Rm l (⟨"java/lang/StringUTF16", "compress", "([CI[BII)I"⟩ : MethodName) jdk_52_method_21_code 7 (some .int) ({ frames := 0, cells := 0, slots := 0, locals := 0 } : Room) [] Z #[(.ref a), (.int (0 : Int32)), (.ref b), (.int (0 : Int32)), (.int (2 : Int32))] h0 (fun v h L => v = some (.int (2 : Int32)) ∧ Fr n0 L ∧ Keep h0 h [b] ∧ Arv Z h b kb .byte (2 : Int32) [(.int (nar .byte (c0.toInt8.toInt32))), (.int (nar .byte (c1.toInt8.toInt32)))] (.int (0 : Int32))) := by
  refine Rm.of (plainFor_of_name pn_java_lang_StringUTF16) ?_
  intro p e s m below meth cod T X hx hZ hby hml hown hnm hret hlk eT0
  have hown : s.vm.findClass "java/lang/StringUTF16" = some m.cls := hown
  have hnm : meth.name = "compress" := hnm
  have N0 := Fr.nil n0
  have Kp := Keep.refl h0 [b]
  refine Goes.cast (ef_15 m a (0 : Int32) b (0 : Int32) (2 : Int32)) ?_
  show Goes p e below _ T (mkF m 0 #[.val (.ref a), .val (.int (0 : Int32)), .val (.ref b), .val (.int (0 : Int32)), .val (.int (2 : Int32)), .unset, .unset] [])
  refine Goes.of (fun _ => XS.iconst X.here hx rfl (hb hby d15_0)) ?_
  show Goes p e below _ T (mkF m 1 #[.val (.ref a), .val (.int (0 : Int32)), .val (.ref b), .val (.int (0 : Int32)), .val (.int (2 : Int32)), .unset, .unset] [(.int (0 : Int32))])
  refine Goes.of (fun _ => XS.istore X.here hx rfl (hb hby d15_1) rfl (l' := #[.val (.ref a), .val (.int (0 : Int32)), .val (.ref b), .val (.int (0 : Int32)), .val (.int (2 : Int32)), .val (.int (0 : Int32)), .unset]) rfl) ?_
  show Goes p e below _ T (mkF m 3 #[.val (.ref a), .val (.int (0 : Int32)), .val (.ref b), .val (.int (0 : Int32)), .val (.int (2 : Int32)), .val (.int (0 : Int32)), .unset] [])
  refine Goes.of (fun _ => XS.iload X.here hx rfl (hb hby d15_3) rfl) ?_
  show Goes p e below _ T (mkF m 5 #[.val (.ref a), .val (.int (0 : Int32)), .val (.ref b), .val (.int (0 : Int32)), .val (.int (2 : Int32)), .val (.int (0 : Int32)), .unset] [(.int (0 : Int32))])
  refine Goes.of (fun _ => XS.iload X.here hx rfl (hb hby d15_5) rfl) ?_
  show Goes p e below _ T (mkF m 7 #[.val (.ref a), .val (.int (0 : Int32)), .val (.ref b), .val (.int (0 : Int32)), .val (.int (2 : Int32)), .val (.int (0 : Int32)), .unset] [(.int (2 : Int32)), (.int (0 : Int32))])
  refine Goes.of (fun _ => XS.icmpNo X.here hx rfl (hb hby d15_7) rfl (tlt (by decide)).2.1) ?_
  show Goes p e below _ T (mkF m 10 #[.val (.ref a), .val (.int (0 : Int32)), .val (.ref b), .val (.int (0 : Int32)), .val (.int (2 : Int32)), .val (.int (0 : Int32)), .unset] [])
  refine Goes.of (fun _ => XS.aloadN X.here hx rfl (hb hby d15_10) rfl rfl) ?_
  show Goes p e below _ T (mkF m 11 #[.val (.ref a), .val (.int (0 : Int32)), .val (.ref b), .val (.int (0 : Int32)), .val (.int (2 : Int32)), .val (.int (0 : Int32)), .unset] [(.ref a)])
  refine Goes.of (fun _ => XS.iloadN X.here hx rfl (hb hby d15_11) rfl) ?_
  show Goes p e below _ T (mkF m 12 #[.val (.ref a), .val (.int (0 : Int32)), .val (.ref b), .val (.int (0 : Int32)), .val (.int (2 : Int32)), .val (.int (0 : Int32)), .unset] [(.int (0 : Int32)), (.ref a)])
  refine goLdC (.int c0) X hx hZ eT0 Va (by decide) (by decide) rfl (g := (mkF m 12 #[.val (.ref a), .val (.int (0 : Int32)), .val (.ref b), .val (.int (0 : Int32)), .val (.int (2 : Int32)), .val (.int (0 : Int32)), .unset] [(.int (0 : Int32)), (.ref a)])) rfl rfl (hb hby d15_12) ?_
  show Goes p e below _ T (mkF m 13 #[.val (.ref a), .val (.int (0 : Int32)), .val (.ref b), .val (.int (0 : Int32)), .val (.int (2 : Int32)), .val (.int (0 : Int32)), .unset] [(.int c0)])
  refine Goes.of (fun _ => XS.istore X.here hx rfl (hb hby d15_13) rfl (l' := #[.val (.ref a), .val (.int (0 : Int32)), .val (.ref b), .val (.int (0 : Int32)), .val (.int (2 : Int32)), .val (.int (0 : Int32)), .val (.int c0)]) rfl) ?_
  show Goes p e below _ T (mkF m 15 #[.val (.ref a), .val (.int (0 : Int32)), .val (.ref b), .val (.int (0 : Int32)), .val (.int (2 : Int32)), .val (.int (0 : Int32)), .val (.int c0)] [])
  refine Goes.of (fun _ => XS.iload X.here hx rfl (hb hby d15_15) rfl) ?_
  show Goes p e below _ T (mkF m 17 #[.val (.ref a), .val (.int (0 : Int32)), .val (.ref b), .val (.int (0 : Int32)), .val (.int (2 : Int32)), .val (.int (0 : Int32)), .val (.int c0)] [(.int c0)])
  refine Goes.of (fun _ => XS.sipush X.here hx rfl (hb hby d15_17)) ?_
  show Goes p e below _ T (mkF m 20 #[.val (.ref a), .val (.int (0 : Int32)), .val (.ref b), .val (.int (0 : Int32)), .val (.int (2 : Int32)), .val (.int (0 : Int32)), .val (.int c0)] [(.int (255 : Int32)), (.int c0)])
  refine Goes.of (fun _ => XS.icmpYes X.here hx rfl (pc0 := 20) (pc' := 26) rfl (hb hby d15_20) rfl (flt hk0).2.2.2 (by decide) (by decide)) ?_
  show Goes p e below _ T (mkF m 26 #[.val (.ref a), .val (.int (0 : Int32)), .val (.ref b), .val (.int (0 : Int32)), .val (.int (2 : Int32)), .val (.int (0 : Int32)), .val (.int c0)] [])
  refine Goes.of (fun _ => XS.aloadN X.here hx rfl (hb hby d15_26) rfl rfl) ?_
  show Goes p e below _ T (mkF m 27 #[.val (.ref a), .val (.int (0 : Int32)), .val (.ref b), .val (.int (0 : Int32)), .val (.int (2 : Int32)), .val (.int (0 : Int32)), .val (.int c0)] [(.ref b)])
  refine Goes.of (fun _ => XS.iloadN X.here hx rfl (hb hby d15_27) rfl) ?_
  show Goes p e below _ T (mkF m 28 #[.val (.ref a), .val (.int (0 : Int32)), .val (.ref b), .val (.int (0 : Int32)), .val (.int (2 : Int32)), .val (.int (0 : Int32)), .val (.int c0)] [(.int (0 : Int32)), (.ref b)])
  refine Goes.of (fun _ => XS.iload X.here hx rfl (hb hby d15_28) rfl) ?_
  show Goes p e below _ T (mkF m 30 #[.val (.ref a), .val (.int (0 : Int32)), .val (.ref b), .val (.int (0 : Int32)), .val (.int (2 : Int32)), .val (.int (0 : Int32)), .val (.int c0)] [(.int c0), (.int (0 : Int32)), (.ref b)])
  refine Goes.of (fun _ => XS.i2b X.here hx rfl (hb hby d15_30) rfl) ?_
  show Goes p e below _ T (mkF m 31 #[.val (.ref a), .val (.int (0 : Int32)), .val (.ref b), .val (.int (0 : Int32)), .val (.int (2 : Int32)), .val (.int (0 : Int32)), .val (.int c0)] [(.int (c0.toInt8.toInt32)), (.int (0 : Int32)), (.ref b)])
  refine goStB 0 X hx hZ eT0 Vb (by decide) (by decide) rfl (Nat.lt_of_lt_of_le (Nat.lt_succ_self _) (Nat.le_of_ble_eq_true rfl)) (g := (mkF m 31 #[.val (.ref a), .val (.int (0 : Int32)), .val (.ref b), .val (.int (0 : Int32)), .val (.int (2 : Int32)), .val (.int (0 : Int32)), .val (.int c0)] [(.int (c0.toInt8.toInt32)), (.int (0 : Int32)), (.ref b)])) rfl rfl (hb hby d15_31) ?_
  intro T2 h2 X2 eT2 W2 Vb
  have N2 := Fr.snoc X2 N0 g_b
  have Va := Va.other W2 hab
  have Kp := Kp.wr W2 (Or.inl (List.mem_of_getElem? (i := 0) rfl))
  have O0 := O0.wr W2 g_b
  have Vb : Arv Z h2 b kb .byte (2 : Int32) [(.int (nar .byte (c0.toInt8.toInt32))), (.int (0 : Int32))] (.int (0 : Int32)) := Vb
  show Goes p e below _ T2 (mkF m 32 #[.val (.ref a), .val (.int (0 : Int32)), .val (.ref b), .val (.int (0 : Int32)), .val (.int (2 : Int32)), .val (.int (0 : Int32)), .val (.int c0)] [])
  refine Goes.of (fun _ => XS.iinc X2.here hx rfl (hb hby d15_32) rfl (l' := #[.val (.ref a), .val (.int (1 : Int32)), .val (.ref b), .val (.int (0 : Int32)), .val (.int (2 : Int32)), .val (.int (0 : Int32)), .val (.int c0)]) rfl) ?_
  show Goes p e below _ T2 (mkF m 35 #[.val (.ref a), .val (.int (1 : Int32)), .val (.ref b), .val (.int (0 : Int32)), .val (.int (2 : Int32)), .val (.int (0 : Int32)), .val (.int c0)] [])
  refine Goes.of (fun _ => XS.iinc X2.here hx rfl (hb hby d15_35) rfl (l' := #[.val (.ref a), .val (.int (1 : Int32)), .val (.ref b), .val (.int (1 : Int32)), .val (.int (2 : Int32)), .val (.int (0 : Int32)), .val (.int c0)]) rfl) ?_
  show Goes p e below _ T2 (mkF m 38 #[.val (.ref a), .val (.int (1 : Int32)), .val (.ref b), .val (.int (1 : Int32)), .val (.int (2 : Int32)), .val (.int (0 : Int32)), .val (.int c0)] [])
  refine Goes.of (fun _ => XS.iinc X2.here hx rfl (hb hby d15_38) rfl (l' := #[.val (.ref a), .val (.int (1 : Int32)), .val (.ref b), .val (.int (1 : Int32)), .val (.int (2 : Int32)), .val (.int (1 : Int32)), .val (.int c0)]) rfl) ?_
  show Goes p e below _ T2 (mkF m 41 #[.val (.ref a), .val (.int (1 : Int32)), .val (.ref b), .val (.int (1 : Int32)), .val (.int (2 : Int32)), .val (.int (1 : Int32)), .val (.int c0)] [])
  refine Goes.of (fun _ => XS.goto X2.here hx rfl (pc0 := 41) (pc' := 3) rfl (hb hby d15_41) (by decide) (by decide)) ?_
  show Goes p e below _ T2 (mkF m 3 #[.val (.ref a), .val (.int (1 : Int32)), .val (.ref b), .val (.int (1 : Int32)), .val (.int (2 : Int32)), .val (.int (1 : Int32)), .val (.int c0)] [])
  refine Goes.of (fun _ => XS.iload X2.here hx rfl (hb hby d15_3) rfl) ?_
  show Goes p e below _ T2 (mkF m 5 #[.val (.ref a), .val (.int (1 : Int32)), .val (.ref b), .val (.int (1 : Int32)), .val (.int (2 : Int32)), .val (.int (1 : Int32)), .val (.int c0)] [(.int (1 : Int32))])
  refine Goes.of (fun _ => XS.iload X2.here hx rfl (hb hby d15_5) rfl) ?_
  show Goes p e below _ T2 (mkF m 7 #[.val (.ref a), .val (.int (1 : Int32)), .val (.ref b), .val (.int (1 : Int32)), .val (.int (2 : Int32)), .val (.int (1 : Int32)), .val (.int c0)] [(.int (2 : Int32)), (.int (1 : Int32))])
  refine Goes.of (fun _ => XS.icmpNo X2.here hx rfl (hb hby d15_7) rfl (tlt (by decide)).2.1) ?_
  show Goes p e below _ T2 (mkF m 10 #[.val (.ref a), .val (.int (1 : Int32)), .val (.ref b), .val (.int (1 : Int32)), .val (.int (2 : Int32)), .val (.int (1 : Int32)), .val (.int c0)] [])
  refine Goes.of (fun _ => XS.aloadN X2.here hx rfl (hb hby d15_10) rfl rfl) ?_
  show Goes p e below _ T2 (mkF m 11 #[.val (.ref a), .val (.int (1 : Int32)), .val (.ref b), .val (.int (1 : Int32)), .val (.int (2 : Int32)), .val (.int (1 : Int32)), .val (.int c0)] [(.ref a)])
  refine Goes.of (fun _ => XS.iloadN X2.here hx rfl (hb hby d15_11) rfl) ?_
  show Goes p e below _ T2 (mkF m 12 #[.val (.ref a), .val (.int (1 : Int32)), .val (.ref b), .val (.int (1 : Int32)), .val (.int (2 : Int32)), .val (.int (1 : Int32)), .val (.int c0)] [(.int (1 : Int32)), (.ref a)])
  refine goLdC (.int c1) X2 hx hZ eT2 Va (by decide) (by decide) rfl (g := (mkF m 12 #[.val (.ref a), .val (.int (1 : Int32)), .val (.ref b), .val (.int (1 : Int32)), .val (.int (2 : Int32)), .val (.int (1 : Int32)), .val (.int c0)] [(.int (1 : Int32)), (.ref a)])) rfl rfl (hb hby d15_12) ?_
  show Goes p e below _ T2 (mkF m 13 #[.val (.ref a), .val (.int (1 : Int32)), .val (.ref b), .val (.int (1 : Int32)), .val (.int (2 : Int32)), .val (.int (1 : Int32)), .val (.int c0)] [(.int c1)])
  refine Goes.of (fun _ => XS.istore X2.here hx rfl (hb hby d15_13) rfl (l' := #[.val (.ref a), .val (.int (1 : Int32)), .val (.ref b), .val (.int (1 : Int32)), .val (.int (2 : Int32)), .val (.int (1 : Int32)), .val (.int c1)]) rfl) ?_
  show Goes p e below _ T2 (mkF m 15 #[.val (.ref a), .val (.int (1 : Int32)), .val (.ref b), .val (.int (1 : Int32)), .val (.int (2 : Int32)), .val (.int (1 : Int32)), .val (.int c1)] [])
  refine Goes.of (fun _ => XS.iload X2.here hx rfl (hb hby d15_15) rfl) ?_
  show Goes p e below _ T2 (mkF m 17 #[.val (.ref a), .val (.int (1 : Int32)), .val (.ref b), .val (.int (1 : Int32)), .val (.int (2 : Int32)), .val (.int (1 : Int32)), .val (.int c1)] [(.int c1)])
  refine Goes.of (fun _ => XS.sipush X2.here hx rfl (hb hby d15_17)) ?_
  show Goes p e below _ T2 (mkF m 20 #[.val (.ref a), .val (.int (1 : Int32)), .val (.ref b), .val (.int (1 : Int32)), .val (.int (2 : Int32)), .val (.int (1 : Int32)), .val (.int c1)] [(.int (255 : Int32)), (.int c1)])
  refine Goes.of (fun _ => XS.icmpYes X2.here hx rfl (pc0 := 20) (pc' := 26) rfl (hb hby d15_20) rfl (flt hk1).2.2.2 (by decide) (by decide)) ?_
  show Goes p e below _ T2 (mkF m 26 #[.val (.ref a), .val (.int (1 : Int32)), .val (.ref b), .val (.int (1 : Int32)), .val (.int (2 : Int32)), .val (.int (1 : Int32)), .val (.int c1)] [])
  refine Goes.of (fun _ => XS.aloadN X2.here hx rfl (hb hby d15_26) rfl rfl) ?_
  show Goes p e below _ T2 (mkF m 27 #[.val (.ref a), .val (.int (1 : Int32)), .val (.ref b), .val (.int (1 : Int32)), .val (.int (2 : Int32)), .val (.int (1 : Int32)), .val (.int c1)] [(.ref b)])
  refine Goes.of (fun _ => XS.iloadN X2.here hx rfl (hb hby d15_27) rfl) ?_
  show Goes p e below _ T2 (mkF m 28 #[.val (.ref a), .val (.int (1 : Int32)), .val (.ref b), .val (.int (1 : Int32)), .val (.int (2 : Int32)), .val (.int (1 : Int32)), .val (.int c1)] [(.int (1 : Int32)), (.ref b)])
  refine Goes.of (fun _ => XS.iload X2.here hx rfl (hb hby d15_28) rfl) ?_
  show Goes p e below _ T2 (mkF m 30 #[.val (.ref a), .val (.int (1 : Int32)), .val (.ref b), .val (.int (1 : Int32)), .val (.int (2 : Int32)), .val (.int (1 : Int32)), .val (.int c1)] [(.int c1), (.int (1 : Int32)), (.ref b)])
  refine Goes.of (fun _ => XS.i2b X2.here hx rfl (hb hby d15_30) rfl) ?_
  show Goes p e below _ T2 (mkF m 31 #[.val (.ref a), .val (.int (1 : Int32)), .val (.ref b), .val (.int (1 : Int32)), .val (.int (2 : Int32)), .val (.int (1 : Int32)), .val (.int c1)] [(.int (c1.toInt8.toInt32)), (.int (1 : Int32)), (.ref b)])
  refine goStB 1 X2 hx hZ eT2 Vb (by decide) (by decide) rfl (Nat.lt_of_lt_of_le (Nat.lt_succ_self _) (Nat.le_of_ble_eq_true rfl)) (g := (mkF m 31 #[.val (.ref a), .val (.int (1 : Int32)), .val (.ref b), .val (.int (1 : Int32)), .val (.int (2 : Int32)), .val (.int (1 : Int32)), .val (.int c1)] [(.int (c1.toInt8.toInt32)), (.int (1 : Int32)), (.ref b)])) rfl rfl (hb hby d15_31) ?_
  intro T4 h4 X4 eT4 W4 Vb
  have N4 := Fr.snoc X4 N2 g_b
  have Va := Va.other W4 hab
  have Kp := Kp.wr W4 (Or.inl (List.mem_of_getElem? (i := 0) rfl))
  have O0 := O0.wr W4 g_b
  have Vb : Arv Z h4 b kb .byte (2 : Int32) [(.int (nar .byte (c0.toInt8.toInt32))), (.int (nar .byte (c1.toInt8.toInt32)))] (.int (0 : Int32)) := Vb
  show Goes p e below _ T4 (mkF m 32 #[.val (.ref a), .val (.int (1 : Int32)), .val (.ref b), .val (.int (1 : Int32)), .val (.int (2 : Int32)), .val (.int (1 : Int32)), .val (.int c1)] [])
  refine Goes.of (fun _ => XS.iinc X4.here hx rfl (hb hby d15_32) rfl (l' := #[.val (.ref a), .val (.int (2 : Int32)), .val (.ref b), .val (.int (1 : Int32)), .val (.int (2 : Int32)), .val (.int (1 : Int32)), .val (.int c1)]) rfl) ?_
  show Goes p e below _ T4 (mkF m 35 #[.val (.ref a), .val (.int (2 : Int32)), .val (.ref b), .val (.int (1 : Int32)), .val (.int (2 : Int32)), .val (.int (1 : Int32)), .val (.int c1)] [])
  refine Goes.of (fun _ => XS.iinc X4.here hx rfl (hb hby d15_35) rfl (l' := #[.val (.ref a), .val (.int (2 : Int32)), .val (.ref b), .val (.int (2 : Int32)), .val (.int (2 : Int32)), .val (.int (1 : Int32)), .val (.int c1)]) rfl) ?_
  show Goes p e below _ T4 (mkF m 38 #[.val (.ref a), .val (.int (2 : Int32)), .val (.ref b), .val (.int (2 : Int32)), .val (.int (2 : Int32)), .val (.int (1 : Int32)), .val (.int c1)] [])
  refine Goes.of (fun _ => XS.iinc X4.here hx rfl (hb hby d15_38) rfl (l' := #[.val (.ref a), .val (.int (2 : Int32)), .val (.ref b), .val (.int (2 : Int32)), .val (.int (2 : Int32)), .val (.int (2 : Int32)), .val (.int c1)]) rfl) ?_
  show Goes p e below _ T4 (mkF m 41 #[.val (.ref a), .val (.int (2 : Int32)), .val (.ref b), .val (.int (2 : Int32)), .val (.int (2 : Int32)), .val (.int (2 : Int32)), .val (.int c1)] [])
  refine Goes.of (fun _ => XS.goto X4.here hx rfl (pc0 := 41) (pc' := 3) rfl (hb hby d15_41) (by decide) (by decide)) ?_
  show Goes p e below _ T4 (mkF m 3 #[.val (.ref a), .val (.int (2 : Int32)), .val (.ref b), .val (.int (2 : Int32)), .val (.int (2 : Int32)), .val (.int (2 : Int32)), .val (.int c1)] [])
  refine Goes.of (fun _ => XS.iload X4.here hx rfl (hb hby d15_3) rfl) ?_
  show Goes p e below _ T4 (mkF m 5 #[.val (.ref a), .val (.int (2 : Int32)), .val (.ref b), .val (.int (2 : Int32)), .val (.int (2 : Int32)), .val (.int (2 : Int32)), .val (.int c1)] [(.int (2 : Int32))])
  refine Goes.of (fun _ => XS.iload X4.here hx rfl (hb hby d15_5) rfl) ?_
  show Goes p e below _ T4 (mkF m 7 #[.val (.ref a), .val (.int (2 : Int32)), .val (.ref b), .val (.int (2 : Int32)), .val (.int (2 : Int32)), .val (.int (2 : Int32)), .val (.int c1)] [(.int (2 : Int32)), (.int (2 : Int32))])
  refine Goes.of (fun _ => XS.icmpYes X4.here hx rfl (pc0 := 7) (pc' := 44) rfl (hb hby d15_7) rfl (flt (by decide)).2.1 (by decide) (by decide)) ?_
  show Goes p e below _ T4 (mkF m 44 #[.val (.ref a), .val (.int (2 : Int32)), .val (.ref b), .val (.int (2 : Int32)), .val (.int (2 : Int32)), .val (.int (2 : Int32)), .val (.int c1)] [])
  refine Goes.of (fun _ => XS.iload X4.here hx rfl (hb hby d15_44) rfl) ?_
  show Goes p e below _ T4 (mkF m 46 #[.val (.ref a), .val (.int (2 : Int32)), .val (.ref b), .val (.int (2 : Int32)), .val (.int (2 : Int32)), .val (.int (2 : Int32)), .val (.int c1)] [(.int (2 : Int32))])
  exact retInt X4 hx hret hlk (hb hby d15_46) eT4 (by decide) (by decide) ⟨rfl, N4, Kp, Vb⟩
set_option maxRecDepth 65536 in
set_option maxHeartbeats 40000000 in
theorem rm_comp3_2_2 (l : Launch) (Z : State) (a0 : Array Value) (hw : ∀ d ∈ tables_1, d.before a0 Z = true) (a : Addr) (ka : ClassId) (c0 c1 : Int32) (h0 : Heap) (n0 : Nat) (O0 : Old Z n0 h0) (Sa : Sta Z Z.heap "java/lang/StringUTF16" "$assertionsDisabled" "Z" (.int (1 : Int32))) (Sh : Sta Z Z.heap "java/lang/StringUTF16" "HI_BYTE_SHIFT" "I" (.int (0 : Int32))) (Sl : Sta Z Z.heap "java/lang/StringUTF16" "LO_BYTE_SHIFT" "I" (.int (8 : Int32))) (Va : Arv Z h0 a ka .char (2 : Int32) [(.int c0), (.int c1)] (.int (0 : Int32))) (hk0 : ¬ (255 : Int32) < c0) (hk1 : ¬ (255 : Int32) < c1) (hbd0 : ¬ c0 < 0 ∧ ¬ (65535 : Int32) < c0) (hbd1 : ¬ c1 < 0 ∧ ¬ (65535 : Int32) < c1) :
    Rm l (⟨"java/lang/StringUTF16", "compress", "([CII)[B"⟩ : MethodName) jdk_52_method_16_code 6 (some (.array .byte)) ({ frames := 1, cells := 1, slots := 2, locals := 18 } : Room) [] Z #[(.ref a), (.int (0 : Int32)), (.int (2 : Int32))] h0 (fun v h L => ∃ (b : Addr) (kb : ClassId), v = some (.ref b) ∧ Fr n0 L ∧ Keep h0 h [] ∧ n0 ≤ b ∧ h0.size ≤ b ∧ Arv Z h b kb .byte (2 : Int32) [(.int (nar .byte (c0.toInt8.toInt32))), (.int (nar .byte (c1.toInt8.toInt32)))] (.int (0 : Int32))) := by
  refine Rm.of (plainFor_of_name pn_java_lang_StringUTF16) ?_
  intro p e s m below meth cod T X hx hZ hby hml hown hnm hret hlk eT0
  have hown : s.vm.findClass "java/lang/StringUTF16" = some m.cls := hown
  have hnm : meth.name = "compress" := hnm
  have N0 := Fr.nil n0
  have Kp := Keep.refl h0 []
  refine Goes.cast (ef_14 m a (0 : Int32) (2 : Int32)) ?_
  show Goes p e below _ T (mkF m 0 #[.val (.ref a), .val (.int (0 : Int32)), .val (.int (2 : Int32)), .unset, .unset, .unset] [])
  refine Goes.of (fun _ => XS.iloadN X.here hx rfl (hb hby d14_0) rfl) ?_
  show Goes p e below _ T (mkF m 1 #[.val (.ref a), .val (.int (0 : Int32)), .val (.int (2 : Int32)), .unset, .unset, .unset] [(.int (2 : Int32))])
  refine goNewP 2 X hx hZ (hw _ (List.mem_of_getElem? (i := 99) rfl)) eT0 (g := (mkF m 1 #[.val (.ref a), .val (.int (0 : Int32)), .val (.int (2 : Int32)), .unset, .unset, .unset] [(.int (2 : Int32))])) rfl (hb hby d14_1) rfl (by decide) (by decide) (by decide) (by decide) (by decide) (ad := "[B") (by first | rfl | decide) ?_
  intro T1 h1 b1 kA1 X1 eT1 E1 hb1 V1 A1
  have g_b1 : n0 ≤ b1 := Nat.le_trans (oldLe O0) hb1
  have sz_b1 : h0.size ≤ b1 := Nat.le_trans Kp.1 hb1
  have ne_a_b1 : a ≠ b1 := Nat.ne_of_lt (Nat.lt_of_lt_of_le Va.lt hb1)
  have Va := Va.ext E1
  have Kp := Kp.ext E1
  have O0 := O0.ext E1
  have V1 : Arv Z h1 b1 kA1 .byte (2 : Int32) [(.int (0 : Int32)), (.int (0 : Int32))] (.int (0 : Int32)) := V1
  show Goes p e below _ T1 (mkF m 3 #[.val (.ref a), .val (.int (0 : Int32)), .val (.int (2 : Int32)), .unset, .unset, .unset] [(.ref b1)])
  refine Goes.of (fun _ => XS.astoreN X1.here hx rfl (hb hby d14_3) rfl rfl (l' := #[.val (.ref a), .val (.int (0 : Int32)), .val (.int (2 : Int32)), .val (.ref b1), .unset, .unset]) rfl) ?_
  show Goes p e below _ T1 (mkF m 4 #[.val (.ref a), .val (.int (0 : Int32)), .val (.int (2 : Int32)), .val (.ref b1), .unset, .unset] [])
  refine Goes.of (fun _ => XS.aloadN X1.here hx rfl (hb hby d14_4) rfl rfl) ?_
  show Goes p e below _ T1 (mkF m 5 #[.val (.ref a), .val (.int (0 : Int32)), .val (.int (2 : Int32)), .val (.ref b1), .unset, .unset] [(.ref a)])
  refine Goes.of (fun _ => XS.iloadN X1.here hx rfl (hb hby d14_5) rfl) ?_
  show Goes p e below _ T1 (mkF m 6 #[.val (.ref a), .val (.int (0 : Int32)), .val (.int (2 : Int32)), .val (.ref b1), .unset, .unset] [(.int (0 : Int32)), (.ref a)])
  refine Goes.of (fun _ => XS.aloadN X1.here hx rfl (hb hby d14_6) rfl rfl) ?_
  show Goes p e below _ T1 (mkF m 7 #[.val (.ref a), .val (.int (0 : Int32)), .val (.int (2 : Int32)), .val (.ref b1), .unset, .unset] [(.ref b1), (.int (0 : Int32)), (.ref a)])
  refine Goes.of (fun _ => XS.iconst X1.here hx rfl (hb hby d14_7)) ?_
  show Goes p e below _ T1 (mkF m 8 #[.val (.ref a), .val (.int (0 : Int32)), .val (.int (2 : Int32)), .val (.ref b1), .unset, .unset] [(.int (0 : Int32)), (.ref b1), (.int (0 : Int32)), (.ref a)])
  refine Goes.of (fun _ => XS.iloadN X1.here hx rfl (hb hby d14_8) rfl) ?_
  show Goes p e below _ T1 (mkF m 9 #[.val (.ref a), .val (.int (0 : Int32)), .val (.int (2 : Int32)), .val (.ref b1), .unset, .unset] [(.int (2 : Int32)), (.int (0 : Int32)), (.ref b1), (.int (0 : Int32)), (.ref a)])
  refine goStatic 0 X1 hx hZ hown (hw _ (List.mem_of_getElem? (i := 100) rfl)) (hw _ (List.mem_of_getElem? (i := 101) rfl)) (hw _ (List.mem_of_getElem? (i := 97) rfl)) (hw _ (List.mem_of_getElem? (i := 102) rfl)) (by decide) (rm_comp5_2_2 l Z a0 hw a b1 _ _ c0 c1 h1 n0 O0 g_b1 ne_a_b1 Va V1 hk0 hk1) eT1 (g := (mkF m 9 #[.val (.ref a), .val (.int (0 : Int32)), .val (.int (2 : Int32)), .val (.ref b1), .unset, .unset] [(.int (2 : Int32)), (.int (0 : Int32)), (.ref b1), (.int (0 : Int32)), (.ref a)])) rfl (by rw [hml]; rfl) [(.ref a), (.int (0 : Int32)), (.ref b1), (.int (0 : Int32)), (.int (2 : Int32))] [] (lenOf pd___CI_BII_I rfl) rfl rfl (by show 2 * 0 + _ ≤ _; exact Nat.le_of_eq rfl) (hb hby d14_9) (by decide) (by decide) (by decide) (by decide) ?_
  intro v2 T2 L2 X2 q2
  obtain ⟨rfl, Nq2, Kq2, Vq2⟩ := q2
  have N2 := Fr.app N0 Nq2
  have Va := Va.keep Kq2 (ninS ne_a_b1 nin0)
  have A1 := A1.keep Kq2
  have Kp := Kp.trans Kq2 (allS (Or.inr sz_b1) all0)
  have O0 := O0.keep Kq2 (allS g_b1 all0)
  show Goes p e below _ T2 (mkF m 12 #[.val (.ref a), .val (.int (0 : Int32)), .val (.int (2 : Int32)), .val (.ref b1), .unset, .unset] [(.int (2 : Int32))])
  refine Goes.of (fun _ => XS.istore X2.here hx rfl (hb hby d14_12) rfl (l' := #[.val (.ref a), .val (.int (0 : Int32)), .val (.int (2 : Int32)), .val (.ref b1), .val (.int (2 : Int32)), .unset]) rfl) ?_
  show Goes p e below _ T2 (mkF m 14 #[.val (.ref a), .val (.int (0 : Int32)), .val (.int (2 : Int32)), .val (.ref b1), .val (.int (2 : Int32)), .unset] [])
  refine Goes.of (fun _ => XS.iload X2.here hx rfl (hb hby d14_14) rfl) ?_
  show Goes p e below _ T2 (mkF m 16 #[.val (.ref a), .val (.int (0 : Int32)), .val (.int (2 : Int32)), .val (.ref b1), .val (.int (2 : Int32)), .unset] [(.int (2 : Int32))])
  refine Goes.of (fun _ => XS.iloadN X2.here hx rfl (hb hby d14_16) rfl) ?_
  show Goes p e below _ T2 (mkF m 17 #[.val (.ref a), .val (.int (0 : Int32)), .val (.int (2 : Int32)), .val (.ref b1), .val (.int (2 : Int32)), .unset] [(.int (2 : Int32)), (.int (2 : Int32))])
  refine Goes.of (fun _ => XS.icmpYes X2.here hx rfl (pc0 := 17) (pc' := 57) rfl (hb hby d14_17) rfl (teq (by decide)).1 (by decide) (by decide)) ?_
  show Goes p e below _ T2 (mkF m 57 #[.val (.ref a), .val (.int (0 : Int32)), .val (.int (2 : Int32)), .val (.ref b1), .val (.int (2 : Int32)), .unset] [])
  refine Goes.of (fun _ => XS.aloadN X2.here hx rfl (hb hby d14_57) rfl rfl) ?_
  show Goes p e below _ T2 (mkF m 58 #[.val (.ref a), .val (.int (0 : Int32)), .val (.int (2 : Int32)), .val (.ref b1), .val (.int (2 : Int32)), .unset] [(.ref b1)])
  exact retRef X2 hx hret hlk rfl rfl (hb hby d14_58) (rfl : T2.heap = _) (by decide) (by decide) ⟨b1, _, rfl, N2, Kp, g_b1, sz_b1, Vq2⟩
set_option maxRecDepth 65536 in
set_option maxHeartbeats 40000000 in
theorem rm_coder2_2 (l : Launch) (Z : State) (a0 : Array Value) (hw : ∀ d ∈ tables_1, d.before a0 Z = true) (b : Addr) (kb : ClassId) (vs : List Value) (h0 : Heap) (n0 : Nat) (O0 : Old Z n0 h0) (Vb : Arv Z h0 b kb .byte (2 : Int32) vs (.int (0 : Int32))) :
    Rm l (⟨"java/lang/StringUTF16", "coderFromArrayLen", "([BI)B"⟩ : MethodName) jdk_52_method_15_code 2 (some .byte) ({ frames := 0, cells := 0, slots := 0, locals := 0 } : Room) [] Z #[(.ref b), (.int (2 : Int32))] h0 (fun v h L => v = some (.int (0 : Int32)) ∧ Fr n0 L ∧ h = h0) := by
  refine Rm.of (plainFor_of_name pn_java_lang_StringUTF16) ?_
  intro p e s m below meth cod T X hx hZ hby hml hown hnm hret hlk eT0
  have hown : s.vm.findClass "java/lang/StringUTF16" = some m.cls := hown
  have hnm : meth.name = "coderFromArrayLen" := hnm
  have N0 := Fr.nil n0
  refine Goes.cast (ef_16 m b (2 : Int32)) ?_
  show Goes p e below _ T (mkF m 0 #[.val (.ref b), .val (.int (2 : Int32))] [])
  refine Goes.of (fun _ => XS.iloadN X.here hx rfl (hb hby d16_0) rfl) ?_
  show Goes p e below _ T (mkF m 1 #[.val (.ref b), .val (.int (2 : Int32))] [(.int (2 : Int32))])
  refine Goes.of (fun _ => XS.aloadN X.here hx rfl (hb hby d16_1) rfl rfl) ?_
  show Goes p e below _ T (mkF m 2 #[.val (.ref b), .val (.int (2 : Int32))] [(.ref b), (.int (2 : Int32))])
  refine goLen X hx hZ eT0 Vb (g := (mkF m 2 #[.val (.ref b), .val (.int (2 : Int32))] [(.ref b), (.int (2 : Int32))])) rfl rfl (hb hby d16_2) ?_
  show Goes p e below _ T (mkF m 3 #[.val (.ref b), .val (.int (2 : Int32))] [(.int (2 : Int32)), (.int (2 : Int32))])
  refine Goes.of (fun _ => XS.isub X.here hx rfl (hb hby d16_3) rfl) ?_
  show Goes p e below _ T (mkF m 4 #[.val (.ref b), .val (.int (2 : Int32))] [(.int ((2 : Int32) - (2 : Int32)))])
  refine Goes.of (fun _ => XS.bipush X.here hx rfl (hb hby d16_4)) ?_
  show Goes p e below _ T (mkF m 6 #[.val (.ref b), .val (.int (2 : Int32))] [(.int (31 : Int32)), (.int ((2 : Int32) - (2 : Int32)))])
  refine Goes.of (fun _ => XS.iushr X.here hx rfl (hb hby d16_6) rfl) ?_
  show Goes p e below _ T (mkF m 7 #[.val (.ref b), .val (.int (2 : Int32))] [(.int ((((2 : Int32) - (2 : Int32)).toUInt32 >>> ((31 : Int32) &&& 31).toUInt32).toInt32))])
  refine Goes.of (fun _ => XS.i2b X.here hx rfl (hb hby d16_7) rfl) ?_
  show Goes p e below _ T (mkF m 8 #[.val (.ref b), .val (.int (2 : Int32))] [(.int (((((2 : Int32) - (2 : Int32)).toUInt32 >>> ((31 : Int32) &&& 31).toUInt32).toInt32).toInt8.toInt32))])
  exact retZ (t := .byte) X hx hret hlk (by simp) (hb hby d16_8) eT0 (by decide) (by decide) ⟨by first | rfl | decide, N0, rfl⟩
set_option maxRecDepth 65536 in
set_option maxHeartbeats 40000000 in
theorem rm_coder2_4 (l : Launch) (Z : State) (a0 : Array Value) (hw : ∀ d ∈ tables_1, d.before a0 Z = true) (b : Addr) (kb : ClassId) (vs : List Value) (h0 : Heap) (n0 : Nat) (O0 : Old Z n0 h0) (Vb : Arv Z h0 b kb .byte (4 : Int32) vs (.int (0 : Int32))) :
    Rm l (⟨"java/lang/StringUTF16", "coderFromArrayLen", "([BI)B"⟩ : MethodName) jdk_52_method_15_code 2 (some .byte) ({ frames := 0, cells := 0, slots := 0, locals := 0 } : Room) [] Z #[(.ref b), (.int (2 : Int32))] h0 (fun v h L => v = some (.int (1 : Int32)) ∧ Fr n0 L ∧ h = h0) := by
  refine Rm.of (plainFor_of_name pn_java_lang_StringUTF16) ?_
  intro p e s m below meth cod T X hx hZ hby hml hown hnm hret hlk eT0
  have hown : s.vm.findClass "java/lang/StringUTF16" = some m.cls := hown
  have hnm : meth.name = "coderFromArrayLen" := hnm
  have N0 := Fr.nil n0
  refine Goes.cast (ef_16 m b (2 : Int32)) ?_
  show Goes p e below _ T (mkF m 0 #[.val (.ref b), .val (.int (2 : Int32))] [])
  refine Goes.of (fun _ => XS.iloadN X.here hx rfl (hb hby d16_0) rfl) ?_
  show Goes p e below _ T (mkF m 1 #[.val (.ref b), .val (.int (2 : Int32))] [(.int (2 : Int32))])
  refine Goes.of (fun _ => XS.aloadN X.here hx rfl (hb hby d16_1) rfl rfl) ?_
  show Goes p e below _ T (mkF m 2 #[.val (.ref b), .val (.int (2 : Int32))] [(.ref b), (.int (2 : Int32))])
  refine goLen X hx hZ eT0 Vb (g := (mkF m 2 #[.val (.ref b), .val (.int (2 : Int32))] [(.ref b), (.int (2 : Int32))])) rfl rfl (hb hby d16_2) ?_
  show Goes p e below _ T (mkF m 3 #[.val (.ref b), .val (.int (2 : Int32))] [(.int (4 : Int32)), (.int (2 : Int32))])
  refine Goes.of (fun _ => XS.isub X.here hx rfl (hb hby d16_3) rfl) ?_
  show Goes p e below _ T (mkF m 4 #[.val (.ref b), .val (.int (2 : Int32))] [(.int ((2 : Int32) - (4 : Int32)))])
  refine Goes.of (fun _ => XS.bipush X.here hx rfl (hb hby d16_4)) ?_
  show Goes p e below _ T (mkF m 6 #[.val (.ref b), .val (.int (2 : Int32))] [(.int (31 : Int32)), (.int ((2 : Int32) - (4 : Int32)))])
  refine Goes.of (fun _ => XS.iushr X.here hx rfl (hb hby d16_6) rfl) ?_
  show Goes p e below _ T (mkF m 7 #[.val (.ref b), .val (.int (2 : Int32))] [(.int ((((2 : Int32) - (4 : Int32)).toUInt32 >>> ((31 : Int32) &&& 31).toUInt32).toInt32))])
  refine Goes.of (fun _ => XS.i2b X.here hx rfl (hb hby d16_7) rfl) ?_
  show Goes p e below _ T (mkF m 8 #[.val (.ref b), .val (.int (2 : Int32))] [(.int (((((2 : Int32) - (4 : Int32)).toUInt32 >>> ((31 : Int32) &&& 31).toUInt32).toInt32).toInt8.toInt32))])
  exact retZ (t := .byte) X hx hret hlk (by simp) (hb hby d16_8) eT0 (by decide) (by decide) ⟨by first | rfl | decide, N0, rfl⟩
set_option maxRecDepth 65536 in
set_option maxHeartbeats 40000000 in
theorem rm_comp5_3_0 (l : Launch) (Z : State) (a0 : Array Value) (hw : ∀ d ∈ tables_1, d.before a0 Z = true) (a b : Addr) (ka kb : ClassId) (c0 c1 c2 : Int32) (h0 : Heap) (n0 : Nat) (O0 : Old Z n0 h0) (g_b : n0 ≤ b) (hab : a ≠ b) (Va : Arv Z h0 a ka .char (3 : Int32) [(.int c0), (.int c1), (.int c2)] (.int (0 : Int32))) (Vb : Arv Z h0 b kb .byte (3 : Int32) [(.int (0 : Int32)), (.int (0 : Int32)), (.int (0 : Int32))] (.int (0 : Int32))) (hk0 : (255 : Int32) < c0) :
    Rm l (⟨"java/lang/StringUTF16", "compress", "([CI[BII)I"⟩ : MethodName) jdk_52_method_21_code 7 (some .int) ({ frames := 0, cells := 0, slots := 0, locals := 0 } : Room) [] Z #[(.ref a), (.int (0 : Int32)), (.ref b), (.int (0 : Int32)), (.int (3 : Int32))] h0 (fun v h L => v = some (.int (0 : Int32)) ∧ Fr n0 L ∧ Keep h0 h [b] ∧ Arv Z h b kb .byte (3 : Int32) [(.int (0 : Int32)), (.int (0 : Int32)), (.int (0 : Int32))] (.int (0 : Int32))) := by
  refine Rm.of (plainFor_of_name pn_java_lang_StringUTF16) ?_
  intro p e s m below meth cod T X hx hZ hby hml hown hnm hret hlk eT0
  have hown : s.vm.findClass "java/lang/StringUTF16" = some m.cls := hown
  have hnm : meth.name = "compress" := hnm
  have N0 := Fr.nil n0
  have Kp := Keep.refl h0 [b]
  refine Goes.cast (ef_15 m a (0 : Int32) b (0 : Int32) (3 : Int32)) ?_
  show Goes p e below _ T (mkF m 0 #[.val (.ref a), .val (.int (0 : Int32)), .val (.ref b), .val (.int (0 : Int32)), .val (.int (3 : Int32)), .unset, .unset] [])
  refine Goes.of (fun _ => XS.iconst X.here hx rfl (hb hby d15_0)) ?_
  show Goes p e below _ T (mkF m 1 #[.val (.ref a), .val (.int (0 : Int32)), .val (.ref b), .val (.int (0 : Int32)), .val (.int (3 : Int32)), .unset, .unset] [(.int (0 : Int32))])
  refine Goes.of (fun _ => XS.istore X.here hx rfl (hb hby d15_1) rfl (l' := #[.val (.ref a), .val (.int (0 : Int32)), .val (.ref b), .val (.int (0 : Int32)), .val (.int (3 : Int32)), .val (.int (0 : Int32)), .unset]) rfl) ?_
  show Goes p e below _ T (mkF m 3 #[.val (.ref a), .val (.int (0 : Int32)), .val (.ref b), .val (.int (0 : Int32)), .val (.int (3 : Int32)), .val (.int (0 : Int32)), .unset] [])
  refine Goes.of (fun _ => XS.iload X.here hx rfl (hb hby d15_3) rfl) ?_
  show Goes p e below _ T (mkF m 5 #[.val (.ref a), .val (.int (0 : Int32)), .val (.ref b), .val (.int (0 : Int32)), .val (.int (3 : Int32)), .val (.int (0 : Int32)), .unset] [(.int (0 : Int32))])
  refine Goes.of (fun _ => XS.iload X.here hx rfl (hb hby d15_5) rfl) ?_
  show Goes p e below _ T (mkF m 7 #[.val (.ref a), .val (.int (0 : Int32)), .val (.ref b), .val (.int (0 : Int32)), .val (.int (3 : Int32)), .val (.int (0 : Int32)), .unset] [(.int (3 : Int32)), (.int (0 : Int32))])
  refine Goes.of (fun _ => XS.icmpNo X.here hx rfl (hb hby d15_7) rfl (tlt (by decide)).2.1) ?_
  show Goes p e below _ T (mkF m 10 #[.val (.ref a), .val (.int (0 : Int32)), .val (.ref b), .val (.int (0 : Int32)), .val (.int (3 : Int32)), .val (.int (0 : Int32)), .unset] [])
  refine Goes.of (fun _ => XS.aloadN X.here hx rfl (hb hby d15_10) rfl rfl) ?_
  show Goes p e below _ T (mkF m 11 #[.val (.ref a), .val (.int (0 : Int32)), .val (.ref b), .val (.int (0 : Int32)), .val (.int (3 : Int32)), .val (.int (0 : Int32)), .unset] [(.ref a)])
  refine Goes.of (fun _ => XS.iloadN X.here hx rfl (hb hby d15_11) rfl) ?_
  show Goes p e below _ T (mkF m 12 #[.val (.ref a), .val (.int (0 : Int32)), .val (.ref b), .val (.int (0 : Int32)), .val (.int (3 : Int32)), .val (.int (0 : Int32)), .unset] [(.int (0 : Int32)), (.ref a)])
  refine goLdC (.int c0) X hx hZ eT0 Va (by decide) (by decide) rfl (g := (mkF m 12 #[.val (.ref a), .val (.int (0 : Int32)), .val (.ref b), .val (.int (0 : Int32)), .val (.int (3 : Int32)), .val (.int (0 : Int32)), .unset] [(.int (0 : Int32)), (.ref a)])) rfl rfl (hb hby d15_12) ?_
  show Goes p e below _ T (mkF m 13 #[.val (.ref a), .val (.int (0 : Int32)), .val (.ref b), .val (.int (0 : Int32)), .val (.int (3 : Int32)), .val (.int (0 : Int32)), .unset] [(.int c0)])
  refine Goes.of (fun _ => XS.istore X.here hx rfl (hb hby d15_13) rfl (l' := #[.val (.ref a), .val (.int (0 : Int32)), .val (.ref b), .val (.int (0 : Int32)), .val (.int (3 : Int32)), .val (.int (0 : Int32)), .val (.int c0)]) rfl) ?_
  show Goes p e below _ T (mkF m 15 #[.val (.ref a), .val (.int (0 : Int32)), .val (.ref b), .val (.int (0 : Int32)), .val (.int (3 : Int32)), .val (.int (0 : Int32)), .val (.int c0)] [])
  refine Goes.of (fun _ => XS.iload X.here hx rfl (hb hby d15_15) rfl) ?_
  show Goes p e below _ T (mkF m 17 #[.val (.ref a), .val (.int (0 : Int32)), .val (.ref b), .val (.int (0 : Int32)), .val (.int (3 : Int32)), .val (.int (0 : Int32)), .val (.int c0)] [(.int c0)])
  refine Goes.of (fun _ => XS.sipush X.here hx rfl (hb hby d15_17)) ?_
  show Goes p e below _ T (mkF m 20 #[.val (.ref a), .val (.int (0 : Int32)), .val (.ref b), .val (.int (0 : Int32)), .val (.int (3 : Int32)), .val (.int (0 : Int32)), .val (.int c0)] [(.int (255 : Int32)), (.int c0)])
  refine Goes.of (fun _ => XS.icmpNo X.here hx rfl (hb hby d15_20) rfl (tlt hk0).2.2.2) ?_
  show Goes p e below _ T (mkF m 23 #[.val (.ref a), .val (.int (0 : Int32)), .val (.ref b), .val (.int (0 : Int32)), .val (.int (3 : Int32)), .val (.int (0 : Int32)), .val (.int c0)] [])
  refine Goes.of (fun _ => XS.iload X.here hx rfl (hb hby d15_23) rfl) ?_
  show Goes p e below _ T (mkF m 25 #[.val (.ref a), .val (.int (0 : Int32)), .val (.ref b), .val (.int (0 : Int32)), .val (.int (3 : Int32)), .val (.int (0 : Int32)), .val (.int c0)] [(.int (0 : Int32))])
  exact retInt X hx hret hlk (hb hby d15_25) eT0 (by decide) (by decide) ⟨rfl, N0, Kp, Vb⟩
set_option maxRecDepth 65536 in
set_option maxHeartbeats 40000000 in
theorem rm_comp3_3_0 (l : Launch) (Z : State) (a0 : Array Value) (hw : ∀ d ∈ tables_1, d.before a0 Z = true) (a : Addr) (ka : ClassId) (c0 c1 c2 : Int32) (h0 : Heap) (n0 : Nat) (O0 : Old Z n0 h0) (Sa : Sta Z Z.heap "java/lang/StringUTF16" "$assertionsDisabled" "Z" (.int (1 : Int32))) (Sh : Sta Z Z.heap "java/lang/StringUTF16" "HI_BYTE_SHIFT" "I" (.int (0 : Int32))) (Sl : Sta Z Z.heap "java/lang/StringUTF16" "LO_BYTE_SHIFT" "I" (.int (8 : Int32))) (Va : Arv Z h0 a ka .char (3 : Int32) [(.int c0), (.int c1), (.int c2)] (.int (0 : Int32))) (hk0 : (255 : Int32) < c0) (hbd0 : ¬ c0 < 0 ∧ ¬ (65535 : Int32) < c0) (hbd1 : ¬ c1 < 0 ∧ ¬ (65535 : Int32) < c1) (hbd2 : ¬ c2 < 0 ∧ ¬ (65535 : Int32) < c2) :
    Rm l (⟨"java/lang/StringUTF16", "compress", "([CII)[B"⟩ : MethodName) jdk_52_method_16_code 6 (some (.array .byte)) ({ frames := 3, cells := 2, slots := 9, locals := 40 } : Room) [] Z #[(.ref a), (.int (0 : Int32)), (.int (3 : Int32))] h0 (fun v h L => ∃ (b : Addr) (kb : ClassId), v = some (.ref b) ∧ Fr n0 L ∧ Keep h0 h [] ∧ n0 ≤ b ∧ h0.size ≤ b ∧ Arv Z h b kb .byte (6 : Int32) [(.int (nar .byte ((c0 >>> ((0 : Int32) &&& 31)).toInt8.toInt32))), (.int (nar .byte ((c0 >>> ((8 : Int32) &&& 31)).toInt8.toInt32))), (.int (nar .byte ((c1 >>> ((0 : Int32) &&& 31)).toInt8.toInt32))), (.int (nar .byte ((c1 >>> ((8 : Int32) &&& 31)).toInt8.toInt32))), (.int (nar .byte ((c2 >>> ((0 : Int32) &&& 31)).toInt8.toInt32))), (.int (nar .byte ((c2 >>> ((8 : Int32) &&& 31)).toInt8.toInt32)))] (.int (0 : Int32))) := by
  refine Rm.of (plainFor_of_name pn_java_lang_StringUTF16) ?_
  intro p e s m below meth cod T X hx hZ hby hml hown hnm hret hlk eT0
  have hown : s.vm.findClass "java/lang/StringUTF16" = some m.cls := hown
  have hnm : meth.name = "compress" := hnm
  have N0 := Fr.nil n0
  have Kp := Keep.refl h0 []
  refine Goes.cast (ef_14 m a (0 : Int32) (3 : Int32)) ?_
  show Goes p e below _ T (mkF m 0 #[.val (.ref a), .val (.int (0 : Int32)), .val (.int (3 : Int32)), .unset, .unset, .unset] [])
  refine Goes.of (fun _ => XS.iloadN X.here hx rfl (hb hby d14_0) rfl) ?_
  show Goes p e below _ T (mkF m 1 #[.val (.ref a), .val (.int (0 : Int32)), .val (.int (3 : Int32)), .unset, .unset, .unset] [(.int (3 : Int32))])
  refine goNewP 3 X hx hZ (hw _ (List.mem_of_getElem? (i := 99) rfl)) eT0 (g := (mkF m 1 #[.val (.ref a), .val (.int (0 : Int32)), .val (.int (3 : Int32)), .unset, .unset, .unset] [(.int (3 : Int32))])) rfl (hb hby d14_1) rfl (by decide) (by decide) (by decide) (by decide) (by decide) (ad := "[B") (by first | rfl | decide) ?_
  intro T1 h1 b1 kA1 X1 eT1 E1 hb1 V1 A1
  have g_b1 : n0 ≤ b1 := Nat.le_trans (oldLe O0) hb1
  have sz_b1 : h0.size ≤ b1 := Nat.le_trans Kp.1 hb1
  have ne_a_b1 : a ≠ b1 := Nat.ne_of_lt (Nat.lt_of_lt_of_le Va.lt hb1)
  have Va := Va.ext E1
  have Kp := Kp.ext E1
  have O0 := O0.ext E1
  have V1 : Arv Z h1 b1 kA1 .byte (3 : Int32) [(.int (0 : Int32)), (.int (0 : Int32)), (.int (0 : Int32))] (.int (0 : Int32)) := V1
  show Goes p e below _ T1 (mkF m 3 #[.val (.ref a), .val (.int (0 : Int32)), .val (.int (3 : Int32)), .unset, .unset, .unset] [(.ref b1)])
  refine Goes.of (fun _ => XS.astoreN X1.here hx rfl (hb hby d14_3) rfl rfl (l' := #[.val (.ref a), .val (.int (0 : Int32)), .val (.int (3 : Int32)), .val (.ref b1), .unset, .unset]) rfl) ?_
  show Goes p e below _ T1 (mkF m 4 #[.val (.ref a), .val (.int (0 : Int32)), .val (.int (3 : Int32)), .val (.ref b1), .unset, .unset] [])
  refine Goes.of (fun _ => XS.aloadN X1.here hx rfl (hb hby d14_4) rfl rfl) ?_
  show Goes p e below _ T1 (mkF m 5 #[.val (.ref a), .val (.int (0 : Int32)), .val (.int (3 : Int32)), .val (.ref b1), .unset, .unset] [(.ref a)])
  refine Goes.of (fun _ => XS.iloadN X1.here hx rfl (hb hby d14_5) rfl) ?_
  show Goes p e below _ T1 (mkF m 6 #[.val (.ref a), .val (.int (0 : Int32)), .val (.int (3 : Int32)), .val (.ref b1), .unset, .unset] [(.int (0 : Int32)), (.ref a)])
  refine Goes.of (fun _ => XS.aloadN X1.here hx rfl (hb hby d14_6) rfl rfl) ?_
  show Goes p e below _ T1 (mkF m 7 #[.val (.ref a), .val (.int (0 : Int32)), .val (.int (3 : Int32)), .val (.ref b1), .unset, .unset] [(.ref b1), (.int (0 : Int32)), (.ref a)])
  refine Goes.of (fun _ => XS.iconst X1.here hx rfl (hb hby d14_7)) ?_
  show Goes p e below _ T1 (mkF m 8 #[.val (.ref a), .val (.int (0 : Int32)), .val (.int (3 : Int32)), .val (.ref b1), .unset, .unset] [(.int (0 : Int32)), (.ref b1), (.int (0 : Int32)), (.ref a)])
  refine Goes.of (fun _ => XS.iloadN X1.here hx rfl (hb hby d14_8) rfl) ?_
  show Goes p e below _ T1 (mkF m 9 #[.val (.ref a), .val (.int (0 : Int32)), .val (.int (3 : Int32)), .val (.ref b1), .unset, .unset] [(.int (3 : Int32)), (.int (0 : Int32)), (.ref b1), (.int (0 : Int32)), (.ref a)])
  refine goStatic 0 X1 hx hZ hown (hw _ (List.mem_of_getElem? (i := 100) rfl)) (hw _ (List.mem_of_getElem? (i := 101) rfl)) (hw _ (List.mem_of_getElem? (i := 97) rfl)) (hw _ (List.mem_of_getElem? (i := 102) rfl)) (by decide) (rm_comp5_3_0 l Z a0 hw a b1 _ _ c0 c1 c2 h1 n0 O0 g_b1 ne_a_b1 Va V1 hk0) eT1 (g := (mkF m 9 #[.val (.ref a), .val (.int (0 : Int32)), .val (.int (3 : Int32)), .val (.ref b1), .unset, .unset] [(.int (3 : Int32)), (.int (0 : Int32)), (.ref b1), (.int (0 : Int32)), (.ref a)])) rfl (by rw [hml]; rfl) [(.ref a), (.int (0 : Int32)), (.ref b1), (.int (0 : Int32)), (.int (3 : Int32))] [] (lenOf pd___CI_BII_I rfl) rfl rfl (by show 2 * 0 + _ ≤ _; exact Nat.le_of_eq rfl) (hb hby d14_9) (by decide) (by decide) (by decide) (by decide) ?_
  intro v2 T2 L2 X2 q2
  obtain ⟨rfl, Nq2, Kq2, Vq2⟩ := q2
  have N2 := Fr.app N0 Nq2
  have Va := Va.keep Kq2 (ninS ne_a_b1 nin0)
  have A1 := A1.keep Kq2
  have Kp := Kp.trans Kq2 (allS (Or.inr sz_b1) all0)
  have O0 := O0.keep Kq2 (allS g_b1 all0)
  show Goes p e below _ T2 (mkF m 12 #[.val (.ref a), .val (.int (0 : Int32)), .val (.int (3 : Int32)), .val (.ref b1), .unset, .unset] [(.int (0 : Int32))])
  refine Goes.of (fun _ => XS.istore X2.here hx rfl (hb hby d14_12) rfl (l' := #[.val (.ref a), .val (.int (0 : Int32)), .val (.int (3 : Int32)), .val (.ref b1), .val (.int (0 : Int32)), .unset]) rfl) ?_
  show Goes p e below _ T2 (mkF m 14 #[.val (.ref a), .val (.int (0 : Int32)), .val (.int (3 : Int32)), .val (.ref b1), .val (.int (0 : Int32)), .unset] [])
  refine Goes.of (fun _ => XS.iload X2.here hx rfl (hb hby d14_14) rfl) ?_
  show Goes p e below _ T2 (mkF m 16 #[.val (.ref a), .val (.int (0 : Int32)), .val (.int (3 : Int32)), .val (.ref b1), .val (.int (0 : Int32)), .unset] [(.int (0 : Int32))])
  refine Goes.of (fun _ => XS.iloadN X2.here hx rfl (hb hby d14_16) rfl) ?_
  show Goes p e below _ T2 (mkF m 17 #[.val (.ref a), .val (.int (0 : Int32)), .val (.int (3 : Int32)), .val (.ref b1), .val (.int (0 : Int32)), .unset] [(.int (3 : Int32)), (.int (0 : Int32))])
  refine Goes.of (fun _ => XS.icmpNo X2.here hx rfl (hb hby d14_17) rfl (feq (by decide)).1) ?_
  show Goes p e below _ T2 (mkF m 20 #[.val (.ref a), .val (.int (0 : Int32)), .val (.int (3 : Int32)), .val (.ref b1), .val (.int (0 : Int32)), .unset] [])
  refine Goes.of (fun _ => XS.aloadN X2.here hx rfl (hb hby d14_20) rfl rfl) ?_
  show Goes p e below _ T2 (mkF m 21 #[.val (.ref a), .val (.int (0 : Int32)), .val (.int (3 : Int32)), .val (.ref b1), .val (.int (0 : Int32)), .unset] [(.ref a)])
  refine Goes.of (fun _ => XS.iloadN X2.here hx rfl (hb hby d14_21) rfl) ?_
  show Goes p e below _ T2 (mkF m 22 #[.val (.ref a), .val (.int (0 : Int32)), .val (.int (3 : Int32)), .val (.ref b1), .val (.int (0 : Int32)), .unset] [(.int (0 : Int32)), (.ref a)])
  refine Goes.of (fun _ => XS.iloadN X2.here hx rfl (hb hby d14_22) rfl) ?_
  show Goes p e below _ T2 (mkF m 23 #[.val (.ref a), .val (.int (0 : Int32)), .val (.int (3 : Int32)), .val (.ref b1), .val (.int (0 : Int32)), .unset] [(.int (3 : Int32)), (.int (0 : Int32)), (.ref a)])
  refine goStatic 0 X2 hx hZ hown (hw _ (List.mem_of_getElem? (i := 138) rfl)) (hw _ (List.mem_of_getElem? (i := 139) rfl)) (hw _ (List.mem_of_getElem? (i := 97) rfl)) (hw _ (List.mem_of_getElem? (i := 140) rfl)) (by decide) (rm_tob3_3 l Z a0 hw a _ c0 c1 c2 T2.heap n0 O0 Sa Sh Sl Va) (rfl : T2.heap = _) (g := (mkF m 23 #[.val (.ref a), .val (.int (0 : Int32)), .val (.int (3 : Int32)), .val (.ref b1), .val (.int (0 : Int32)), .unset] [(.int (3 : Int32)), (.int (0 : Int32)), (.ref a)])) rfl (by rw [hml]; rfl) [(.ref a), (.int (0 : Int32)), (.int (3 : Int32))] [] (lenOf pd___CII__B rfl) rfl rfl (by show 2 * 0 + _ ≤ _; exact Nat.le_of_eq rfl) (hb hby d14_23) (by decide) (by decide) (by decide) (by decide) ?_
  intro v3 T3 L3 X3 q3
  obtain ⟨tb3, kt3, rfl, Nq3, Kq3, gq3, sq3, Vt3⟩ := q3
  have N3 := Fr.app N2 Nq3
  have g_tb3 : n0 ≤ tb3 := gq3
  have sz_tb3 : h0.size ≤ tb3 := Nat.le_trans Kp.1 sq3
  have ne_a_tb3 : a ≠ tb3 := Nat.ne_of_lt (Nat.lt_of_lt_of_le Va.lt sq3)
  have ne_b1_tb3 : b1 ≠ tb3 := Nat.ne_of_lt (Nat.lt_of_lt_of_le A1.lt sq3)
  have Va := Va.keep Kq3 nin0
  have A1 := A1.keep Kq3
  have Vq2 := Vq2.keep Kq3 nin0
  have Kp := Kp.trans Kq3 all0
  have O0 := O0.keep Kq3 all0
  show Goes p e below _ T3 (mkF m 26 #[.val (.ref a), .val (.int (0 : Int32)), .val (.int (3 : Int32)), .val (.ref b1), .val (.int (0 : Int32)), .unset] [(.ref tb3)])
  refine Goes.of (fun _ => XS.astore X3.here hx rfl (hb hby d14_26) rfl rfl (l' := #[.val (.ref a), .val (.int (0 : Int32)), .val (.int (3 : Int32)), .val (.ref b1), .val (.int (0 : Int32)), .val (.ref tb3)]) rfl) ?_
  show Goes p e below _ T3 (mkF m 28 #[.val (.ref a), .val (.int (0 : Int32)), .val (.int (3 : Int32)), .val (.ref b1), .val (.int (0 : Int32)), .val (.ref tb3)] [])
  refine Goes.of (fun _ => XS.aload X3.here hx rfl (hb hby d14_28) rfl rfl) ?_
  show Goes p e below _ T3 (mkF m 30 #[.val (.ref a), .val (.int (0 : Int32)), .val (.int (3 : Int32)), .val (.ref b1), .val (.int (0 : Int32)), .val (.ref tb3)] [(.ref tb3)])
  refine Goes.of (fun _ => XS.iload X3.here hx rfl (hb hby d14_30) rfl) ?_
  show Goes p e below _ T3 (mkF m 32 #[.val (.ref a), .val (.int (0 : Int32)), .val (.int (3 : Int32)), .val (.ref b1), .val (.int (0 : Int32)), .val (.ref tb3)] [(.int (0 : Int32)), (.ref tb3)])
  refine goStatic 0 X3 hx hZ hown (hw _ (List.mem_of_getElem? (i := 148) rfl)) (hw _ (List.mem_of_getElem? (i := 149) rfl)) (hw _ (List.mem_of_getElem? (i := 97) rfl)) (hw _ (List.mem_of_getElem? (i := 150) rfl)) (by decide) (rm_get6_0 l Z a0 hw tb3 _ (nar .byte ((c0 >>> ((0 : Int32) &&& 31)).toInt8.toInt32)) (nar .byte ((c0 >>> ((8 : Int32) &&& 31)).toInt8.toInt32)) (nar .byte ((c1 >>> ((0 : Int32) &&& 31)).toInt8.toInt32)) (nar .byte ((c1 >>> ((8 : Int32) &&& 31)).toInt8.toInt32)) (nar .byte ((c2 >>> ((0 : Int32) &&& 31)).toInt8.toInt32)) (nar .byte ((c2 >>> ((8 : Int32) &&& 31)).toInt8.toInt32)) T3.heap n0 O0 Sa Sh Sl Vt3) (rfl : T3.heap = _) (g := (mkF m 32 #[.val (.ref a), .val (.int (0 : Int32)), .val (.int (3 : Int32)), .val (.ref b1), .val (.int (0 : Int32)), .val (.ref tb3)] [(.int (0 : Int32)), (.ref tb3)])) rfl (by rw [hml]; rfl) [(.ref tb3), (.int (0 : Int32))] [] (lenOf pd___BI_C rfl) rfl rfl (by show 2 * 0 + _ ≤ _; exact Nat.le_of_eq rfl) (hb hby d14_32) (by decide) (by decide) (by decide) (by decide) ?_
  intro v4 T4 L4 X4 q4
  obtain ⟨rfl, Nq4, eT4⟩ := q4
  have N4 := Fr.app N3 Nq4
  show Goes p e below _ T4 (mkF m 35 #[.val (.ref a), .val (.int (0 : Int32)), .val (.int (3 : Int32)), .val (.ref b1), .val (.int (0 : Int32)), .val (.ref tb3)] [(.int (nar .char (((((nar .byte ((c0 >>> ((0 : Int32) &&& 31)).toInt8.toInt32)) &&& (255 : Int32)) <<< ((0 : Int32) &&& 31)) ||| (((nar .byte ((c0 >>> ((8 : Int32) &&& 31)).toInt8.toInt32)) &&& (255 : Int32)) <<< ((8 : Int32) &&& 31))).toUInt32.toUInt16.toUInt32.toInt32)))])
  refine Goes.of (fun _ => XS.sipush X4.here hx rfl (hb hby d14_35)) ?_
  show Goes p e below _ T4 (mkF m 38 #[.val (.ref a), .val (.int (0 : Int32)), .val (.int (3 : Int32)), .val (.ref b1), .val (.int (0 : Int32)), .val (.ref tb3)] [(.int (255 : Int32)), (.int (nar .char (((((nar .byte ((c0 >>> ((0 : Int32) &&& 31)).toInt8.toInt32)) &&& (255 : Int32)) <<< ((0 : Int32) &&& 31)) ||| (((nar .byte ((c0 >>> ((8 : Int32) &&& 31)).toInt8.toInt32)) &&& (255 : Int32)) <<< ((8 : Int32) &&& 31))).toUInt32.toUInt16.toUInt32.toInt32)))])
  refine Goes.of (fun _ => XS.icmpYes X4.here hx rfl (pc0 := 38) (pc' := 54) rfl (hb hby d14_38) rfl (tlt (by rw [getc c0 hbd0]; exact hk0)).2.2.1 (by decide) (by decide)) ?_
  show Goes p e below _ T4 (mkF m 54 #[.val (.ref a), .val (.int (0 : Int32)), .val (.int (3 : Int32)), .val (.ref b1), .val (.int (0 : Int32)), .val (.ref tb3)] [])
  refine Goes.of (fun _ => XS.aload X4.here hx rfl (hb hby d14_54) rfl rfl) ?_
  show Goes p e below _ T4 (mkF m 56 #[.val (.ref a), .val (.int (0 : Int32)), .val (.int (3 : Int32)), .val (.ref b1), .val (.int (0 : Int32)), .val (.ref tb3)] [(.ref tb3)])
  exact retRef X4 hx hret hlk rfl rfl (hb hby d14_56) eT4 (by decide) (by decide) ⟨tb3, _, rfl, N4, Kp, g_tb3, sz_tb3, Vt3⟩
set_option maxRecDepth 65536 in
set_option maxHeartbeats 40000000 in
theorem rm_comp5_3_1 (l : Launch) (Z : State) (a0 : Array Value) (hw : ∀ d ∈ tables_1, d.before a0 Z = true) (a b : Addr) (ka kb : ClassId) (c0 c1 c2 : Int32) (h0 : Heap) (n0 : Nat) (O0 : Old Z n0 h0) (g_b : n0 ≤ b) (hab : a ≠ b) (Va : Arv Z h0 a ka .char (3 : Int32) [(.int c0), (.int c1), (.int c2)] (.int (0 : Int32))) (Vb : Arv Z h0 b kb .byte (3 : Int32) [(.int (0 : Int32)), (.int (0 : Int32)), (.int (0 : Int32))] (.int (0 : Int32))) (hk0 : ¬ (255 : Int32) < c0) (hk1 : (255 : Int32) < c1) :
    Rm l (⟨"java/lang/StringUTF16", "compress", "([CI[BII)I"⟩ : MethodName) jdk_52_method_21_code 7 (some .int) ({ frames := 0, cells := 0, slots := 0, locals := 0 } : Room) [] Z #[(.ref a), (.int (0 : Int32)), (.ref b), (.int (0 : Int32)), (.int (3 : Int32))] h0 (fun v h L => v = some (.int (1 : Int32)) ∧ Fr n0 L ∧ Keep h0 h [b] ∧ Arv Z h b kb .byte (3 : Int32) [(.int (nar .byte (c0.toInt8.toInt32))), (.int (0 : Int32)), (.int (0 : Int32))] (.int (0 : Int32))) := by
  refine Rm.of (plainFor_of_name pn_java_lang_StringUTF16) ?_
  intro p e s m below meth cod T X hx hZ hby hml hown hnm hret hlk eT0
  have hown : s.vm.findClass "java/lang/StringUTF16" = some m.cls := hown
  have hnm : meth.name = "compress" := hnm
  have N0 := Fr.nil n0
  have Kp := Keep.refl h0 [b]
  refine Goes.cast (ef_15 m a (0 : Int32) b (0 : Int32) (3 : Int32)) ?_
  show Goes p e below _ T (mkF m 0 #[.val (.ref a), .val (.int (0 : Int32)), .val (.ref b), .val (.int (0 : Int32)), .val (.int (3 : Int32)), .unset, .unset] [])
  refine Goes.of (fun _ => XS.iconst X.here hx rfl (hb hby d15_0)) ?_
  show Goes p e below _ T (mkF m 1 #[.val (.ref a), .val (.int (0 : Int32)), .val (.ref b), .val (.int (0 : Int32)), .val (.int (3 : Int32)), .unset, .unset] [(.int (0 : Int32))])
  refine Goes.of (fun _ => XS.istore X.here hx rfl (hb hby d15_1) rfl (l' := #[.val (.ref a), .val (.int (0 : Int32)), .val (.ref b), .val (.int (0 : Int32)), .val (.int (3 : Int32)), .val (.int (0 : Int32)), .unset]) rfl) ?_
  show Goes p e below _ T (mkF m 3 #[.val (.ref a), .val (.int (0 : Int32)), .val (.ref b), .val (.int (0 : Int32)), .val (.int (3 : Int32)), .val (.int (0 : Int32)), .unset] [])
  refine Goes.of (fun _ => XS.iload X.here hx rfl (hb hby d15_3) rfl) ?_
  show Goes p e below _ T (mkF m 5 #[.val (.ref a), .val (.int (0 : Int32)), .val (.ref b), .val (.int (0 : Int32)), .val (.int (3 : Int32)), .val (.int (0 : Int32)), .unset] [(.int (0 : Int32))])
  refine Goes.of (fun _ => XS.iload X.here hx rfl (hb hby d15_5) rfl) ?_
  show Goes p e below _ T (mkF m 7 #[.val (.ref a), .val (.int (0 : Int32)), .val (.ref b), .val (.int (0 : Int32)), .val (.int (3 : Int32)), .val (.int (0 : Int32)), .unset] [(.int (3 : Int32)), (.int (0 : Int32))])
  refine Goes.of (fun _ => XS.icmpNo X.here hx rfl (hb hby d15_7) rfl (tlt (by decide)).2.1) ?_
  show Goes p e below _ T (mkF m 10 #[.val (.ref a), .val (.int (0 : Int32)), .val (.ref b), .val (.int (0 : Int32)), .val (.int (3 : Int32)), .val (.int (0 : Int32)), .unset] [])
  refine Goes.of (fun _ => XS.aloadN X.here hx rfl (hb hby d15_10) rfl rfl) ?_
  show Goes p e below _ T (mkF m 11 #[.val (.ref a), .val (.int (0 : Int32)), .val (.ref b), .val (.int (0 : Int32)), .val (.int (3 : Int32)), .val (.int (0 : Int32)), .unset] [(.ref a)])
  refine Goes.of (fun _ => XS.iloadN X.here hx rfl (hb hby d15_11) rfl) ?_
  show Goes p e below _ T (mkF m 12 #[.val (.ref a), .val (.int (0 : Int32)), .val (.ref b), .val (.int (0 : Int32)), .val (.int (3 : Int32)), .val (.int (0 : Int32)), .unset] [(.int (0 : Int32)), (.ref a)])
  refine goLdC (.int c0) X hx hZ eT0 Va (by decide) (by decide) rfl (g := (mkF m 12 #[.val (.ref a), .val (.int (0 : Int32)), .val (.ref b), .val (.int (0 : Int32)), .val (.int (3 : Int32)), .val (.int (0 : Int32)), .unset] [(.int (0 : Int32)), (.ref a)])) rfl rfl (hb hby d15_12) ?_
  show Goes p e below _ T (mkF m 13 #[.val (.ref a), .val (.int (0 : Int32)), .val (.ref b), .val (.int (0 : Int32)), .val (.int (3 : Int32)), .val (.int (0 : Int32)), .unset] [(.int c0)])
  refine Goes.of (fun _ => XS.istore X.here hx rfl (hb hby d15_13) rfl (l' := #[.val (.ref a), .val (.int (0 : Int32)), .val (.ref b), .val (.int (0 : Int32)), .val (.int (3 : Int32)), .val (.int (0 : Int32)), .val (.int c0)]) rfl) ?_
  show Goes p e below _ T (mkF m 15 #[.val (.ref a), .val (.int (0 : Int32)), .val (.ref b), .val (.int (0 : Int32)), .val (.int (3 : Int32)), .val (.int (0 : Int32)), .val (.int c0)] [])
  refine Goes.of (fun _ => XS.iload X.here hx rfl (hb hby d15_15) rfl) ?_
  show Goes p e below _ T (mkF m 17 #[.val (.ref a), .val (.int (0 : Int32)), .val (.ref b), .val (.int (0 : Int32)), .val (.int (3 : Int32)), .val (.int (0 : Int32)), .val (.int c0)] [(.int c0)])
  refine Goes.of (fun _ => XS.sipush X.here hx rfl (hb hby d15_17)) ?_
  show Goes p e below _ T (mkF m 20 #[.val (.ref a), .val (.int (0 : Int32)), .val (.ref b), .val (.int (0 : Int32)), .val (.int (3 : Int32)), .val (.int (0 : Int32)), .val (.int c0)] [(.int (255 : Int32)), (.int c0)])
  refine Goes.of (fun _ => XS.icmpYes X.here hx rfl (pc0 := 20) (pc' := 26) rfl (hb hby d15_20) rfl (flt hk0).2.2.2 (by decide) (by decide)) ?_
  show Goes p e below _ T (mkF m 26 #[.val (.ref a), .val (.int (0 : Int32)), .val (.ref b), .val (.int (0 : Int32)), .val (.int (3 : Int32)), .val (.int (0 : Int32)), .val (.int c0)] [])
  refine Goes.of (fun _ => XS.aloadN X.here hx rfl (hb hby d15_26) rfl rfl) ?_
  show Goes p e below _ T (mkF m 27 #[.val (.ref a), .val (.int (0 : Int32)), .val (.ref b), .val (.int (0 : Int32)), .val (.int (3 : Int32)), .val (.int (0 : Int32)), .val (.int c0)] [(.ref b)])
  refine Goes.of (fun _ => XS.iloadN X.here hx rfl (hb hby d15_27) rfl) ?_
  show Goes p e below _ T (mkF m 28 #[.val (.ref a), .val (.int (0 : Int32)), .val (.ref b), .val (.int (0 : Int32)), .val (.int (3 : Int32)), .val (.int (0 : Int32)), .val (.int c0)] [(.int (0 : Int32)), (.ref b)])
  refine Goes.of (fun _ => XS.iload X.here hx rfl (hb hby d15_28) rfl) ?_
  show Goes p e below _ T (mkF m 30 #[.val (.ref a), .val (.int (0 : Int32)), .val (.ref b), .val (.int (0 : Int32)), .val (.int (3 : Int32)), .val (.int (0 : Int32)), .val (.int c0)] [(.int c0), (.int (0 : Int32)), (.ref b)])
  refine Goes.of (fun _ => XS.i2b X.here hx rfl (hb hby d15_30) rfl) ?_
  show Goes p e below _ T (mkF m 31 #[.val (.ref a), .val (.int (0 : Int32)), .val (.ref b), .val (.int (0 : Int32)), .val (.int (3 : Int32)), .val (.int (0 : Int32)), .val (.int c0)] [(.int (c0.toInt8.toInt32)), (.int (0 : Int32)), (.ref b)])
  refine goStB 0 X hx hZ eT0 Vb (by decide) (by decide) rfl (Nat.lt_of_lt_of_le (Nat.lt_succ_self _) (Nat.le_of_ble_eq_true rfl)) (g := (mkF m 31 #[.val (.ref a), .val (.int (0 : Int32)), .val (.ref b), .val (.int (0 : Int32)), .val (.int (3 : Int32)), .val (.int (0 : Int32)), .val (.int c0)] [(.int (c0.toInt8.toInt32)), (.int (0 : Int32)), (.ref b)])) rfl rfl (hb hby d15_31) ?_
  intro T2 h2 X2 eT2 W2 Vb
  have N2 := Fr.snoc X2 N0 g_b
  have Va := Va.other W2 hab
  have Kp := Kp.wr W2 (Or.inl (List.mem_of_getElem? (i := 0) rfl))
  have O0 := O0.wr W2 g_b
  have Vb : Arv Z h2 b kb .byte (3 : Int32) [(.int (nar .byte (c0.toInt8.toInt32))), (.int (0 : Int32)), (.int (0 : Int32))] (.int (0 : Int32)) := Vb
  show Goes p e below _ T2 (mkF m 32 #[.val (.ref a), .val (.int (0 : Int32)), .val (.ref b), .val (.int (0 : Int32)), .val (.int (3 : Int32)), .val (.int (0 : Int32)), .val (.int c0)] [])
  refine Goes.of (fun _ => XS.iinc X2.here hx rfl (hb hby d15_32) rfl (l' := #[.val (.ref a), .val (.int (1 : Int32)), .val (.ref b), .val (.int (0 : Int32)), .val (.int (3 : Int32)), .val (.int (0 : Int32)), .val (.int c0)]) rfl) ?_
  show Goes p e below _ T2 (mkF m 35 #[.val (.ref a), .val (.int (1 : Int32)), .val (.ref b), .val (.int (0 : Int32)), .val (.int (3 : Int32)), .val (.int (0 : Int32)), .val (.int c0)] [])
  refine Goes.of (fun _ => XS.iinc X2.here hx rfl (hb hby d15_35) rfl (l' := #[.val (.ref a), .val (.int (1 : Int32)), .val (.ref b), .val (.int (1 : Int32)), .val (.int (3 : Int32)), .val (.int (0 : Int32)), .val (.int c0)]) rfl) ?_
  show Goes p e below _ T2 (mkF m 38 #[.val (.ref a), .val (.int (1 : Int32)), .val (.ref b), .val (.int (1 : Int32)), .val (.int (3 : Int32)), .val (.int (0 : Int32)), .val (.int c0)] [])
  refine Goes.of (fun _ => XS.iinc X2.here hx rfl (hb hby d15_38) rfl (l' := #[.val (.ref a), .val (.int (1 : Int32)), .val (.ref b), .val (.int (1 : Int32)), .val (.int (3 : Int32)), .val (.int (1 : Int32)), .val (.int c0)]) rfl) ?_
  show Goes p e below _ T2 (mkF m 41 #[.val (.ref a), .val (.int (1 : Int32)), .val (.ref b), .val (.int (1 : Int32)), .val (.int (3 : Int32)), .val (.int (1 : Int32)), .val (.int c0)] [])
  refine Goes.of (fun _ => XS.goto X2.here hx rfl (pc0 := 41) (pc' := 3) rfl (hb hby d15_41) (by decide) (by decide)) ?_
  show Goes p e below _ T2 (mkF m 3 #[.val (.ref a), .val (.int (1 : Int32)), .val (.ref b), .val (.int (1 : Int32)), .val (.int (3 : Int32)), .val (.int (1 : Int32)), .val (.int c0)] [])
  refine Goes.of (fun _ => XS.iload X2.here hx rfl (hb hby d15_3) rfl) ?_
  show Goes p e below _ T2 (mkF m 5 #[.val (.ref a), .val (.int (1 : Int32)), .val (.ref b), .val (.int (1 : Int32)), .val (.int (3 : Int32)), .val (.int (1 : Int32)), .val (.int c0)] [(.int (1 : Int32))])
  refine Goes.of (fun _ => XS.iload X2.here hx rfl (hb hby d15_5) rfl) ?_
  show Goes p e below _ T2 (mkF m 7 #[.val (.ref a), .val (.int (1 : Int32)), .val (.ref b), .val (.int (1 : Int32)), .val (.int (3 : Int32)), .val (.int (1 : Int32)), .val (.int c0)] [(.int (3 : Int32)), (.int (1 : Int32))])
  refine Goes.of (fun _ => XS.icmpNo X2.here hx rfl (hb hby d15_7) rfl (tlt (by decide)).2.1) ?_
  show Goes p e below _ T2 (mkF m 10 #[.val (.ref a), .val (.int (1 : Int32)), .val (.ref b), .val (.int (1 : Int32)), .val (.int (3 : Int32)), .val (.int (1 : Int32)), .val (.int c0)] [])
  refine Goes.of (fun _ => XS.aloadN X2.here hx rfl (hb hby d15_10) rfl rfl) ?_
  show Goes p e below _ T2 (mkF m 11 #[.val (.ref a), .val (.int (1 : Int32)), .val (.ref b), .val (.int (1 : Int32)), .val (.int (3 : Int32)), .val (.int (1 : Int32)), .val (.int c0)] [(.ref a)])
  refine Goes.of (fun _ => XS.iloadN X2.here hx rfl (hb hby d15_11) rfl) ?_
  show Goes p e below _ T2 (mkF m 12 #[.val (.ref a), .val (.int (1 : Int32)), .val (.ref b), .val (.int (1 : Int32)), .val (.int (3 : Int32)), .val (.int (1 : Int32)), .val (.int c0)] [(.int (1 : Int32)), (.ref a)])
  refine goLdC (.int c1) X2 hx hZ eT2 Va (by decide) (by decide) rfl (g := (mkF m 12 #[.val (.ref a), .val (.int (1 : Int32)), .val (.ref b), .val (.int (1 : Int32)), .val (.int (3 : Int32)), .val (.int (1 : Int32)), .val (.int c0)] [(.int (1 : Int32)), (.ref a)])) rfl rfl (hb hby d15_12) ?_
  show Goes p e below _ T2 (mkF m 13 #[.val (.ref a), .val (.int (1 : Int32)), .val (.ref b), .val (.int (1 : Int32)), .val (.int (3 : Int32)), .val (.int (1 : Int32)), .val (.int c0)] [(.int c1)])
  refine Goes.of (fun _ => XS.istore X2.here hx rfl (hb hby d15_13) rfl (l' := #[.val (.ref a), .val (.int (1 : Int32)), .val (.ref b), .val (.int (1 : Int32)), .val (.int (3 : Int32)), .val (.int (1 : Int32)), .val (.int c1)]) rfl) ?_
  show Goes p e below _ T2 (mkF m 15 #[.val (.ref a), .val (.int (1 : Int32)), .val (.ref b), .val (.int (1 : Int32)), .val (.int (3 : Int32)), .val (.int (1 : Int32)), .val (.int c1)] [])
  refine Goes.of (fun _ => XS.iload X2.here hx rfl (hb hby d15_15) rfl) ?_
  show Goes p e below _ T2 (mkF m 17 #[.val (.ref a), .val (.int (1 : Int32)), .val (.ref b), .val (.int (1 : Int32)), .val (.int (3 : Int32)), .val (.int (1 : Int32)), .val (.int c1)] [(.int c1)])
  refine Goes.of (fun _ => XS.sipush X2.here hx rfl (hb hby d15_17)) ?_
  show Goes p e below _ T2 (mkF m 20 #[.val (.ref a), .val (.int (1 : Int32)), .val (.ref b), .val (.int (1 : Int32)), .val (.int (3 : Int32)), .val (.int (1 : Int32)), .val (.int c1)] [(.int (255 : Int32)), (.int c1)])
  refine Goes.of (fun _ => XS.icmpNo X2.here hx rfl (hb hby d15_20) rfl (tlt hk1).2.2.2) ?_
  show Goes p e below _ T2 (mkF m 23 #[.val (.ref a), .val (.int (1 : Int32)), .val (.ref b), .val (.int (1 : Int32)), .val (.int (3 : Int32)), .val (.int (1 : Int32)), .val (.int c1)] [])
  refine Goes.of (fun _ => XS.iload X2.here hx rfl (hb hby d15_23) rfl) ?_
  show Goes p e below _ T2 (mkF m 25 #[.val (.ref a), .val (.int (1 : Int32)), .val (.ref b), .val (.int (1 : Int32)), .val (.int (3 : Int32)), .val (.int (1 : Int32)), .val (.int c1)] [(.int (1 : Int32))])
  exact retInt X2 hx hret hlk (hb hby d15_25) eT2 (by decide) (by decide) ⟨rfl, N2, Kp, Vb⟩
set_option maxRecDepth 65536 in
set_option maxHeartbeats 40000000 in
theorem rm_comp3_3_1 (l : Launch) (Z : State) (a0 : Array Value) (hw : ∀ d ∈ tables_1, d.before a0 Z = true) (a : Addr) (ka : ClassId) (c0 c1 c2 : Int32) (h0 : Heap) (n0 : Nat) (O0 : Old Z n0 h0) (Sa : Sta Z Z.heap "java/lang/StringUTF16" "$assertionsDisabled" "Z" (.int (1 : Int32))) (Sh : Sta Z Z.heap "java/lang/StringUTF16" "HI_BYTE_SHIFT" "I" (.int (0 : Int32))) (Sl : Sta Z Z.heap "java/lang/StringUTF16" "LO_BYTE_SHIFT" "I" (.int (8 : Int32))) (Va : Arv Z h0 a ka .char (3 : Int32) [(.int c0), (.int c1), (.int c2)] (.int (0 : Int32))) (hk0 : ¬ (255 : Int32) < c0) (hk1 : (255 : Int32) < c1) (hbd0 : ¬ c0 < 0 ∧ ¬ (65535 : Int32) < c0) (hbd1 : ¬ c1 < 0 ∧ ¬ (65535 : Int32) < c1) (hbd2 : ¬ c2 < 0 ∧ ¬ (65535 : Int32) < c2) :
    Rm l (⟨"java/lang/StringUTF16", "compress", "([CII)[B"⟩ : MethodName) jdk_52_method_16_code 6 (some (.array .byte)) ({ frames := 3, cells := 2, slots := 9, locals := 40 } : Room) [] Z #[(.ref a), (.int (0 : Int32)), (.int (3 : Int32))] h0 (fun v h L => ∃ (b : Addr) (kb : ClassId), v = some (.ref b) ∧ Fr n0 L ∧ Keep h0 h [] ∧ n0 ≤ b ∧ h0.size ≤ b ∧ Arv Z h b kb .byte (6 : Int32) [(.int (nar .byte ((c0 >>> ((0 : Int32) &&& 31)).toInt8.toInt32))), (.int (nar .byte ((c0 >>> ((8 : Int32) &&& 31)).toInt8.toInt32))), (.int (nar .byte ((c1 >>> ((0 : Int32) &&& 31)).toInt8.toInt32))), (.int (nar .byte ((c1 >>> ((8 : Int32) &&& 31)).toInt8.toInt32))), (.int (nar .byte ((c2 >>> ((0 : Int32) &&& 31)).toInt8.toInt32))), (.int (nar .byte ((c2 >>> ((8 : Int32) &&& 31)).toInt8.toInt32)))] (.int (0 : Int32))) := by
  refine Rm.of (plainFor_of_name pn_java_lang_StringUTF16) ?_
  intro p e s m below meth cod T X hx hZ hby hml hown hnm hret hlk eT0
  have hown : s.vm.findClass "java/lang/StringUTF16" = some m.cls := hown
  have hnm : meth.name = "compress" := hnm
  have N0 := Fr.nil n0
  have Kp := Keep.refl h0 []
  refine Goes.cast (ef_14 m a (0 : Int32) (3 : Int32)) ?_
  show Goes p e below _ T (mkF m 0 #[.val (.ref a), .val (.int (0 : Int32)), .val (.int (3 : Int32)), .unset, .unset, .unset] [])
  refine Goes.of (fun _ => XS.iloadN X.here hx rfl (hb hby d14_0) rfl) ?_
  show Goes p e below _ T (mkF m 1 #[.val (.ref a), .val (.int (0 : Int32)), .val (.int (3 : Int32)), .unset, .unset, .unset] [(.int (3 : Int32))])
  refine goNewP 3 X hx hZ (hw _ (List.mem_of_getElem? (i := 99) rfl)) eT0 (g := (mkF m 1 #[.val (.ref a), .val (.int (0 : Int32)), .val (.int (3 : Int32)), .unset, .unset, .unset] [(.int (3 : Int32))])) rfl (hb hby d14_1) rfl (by decide) (by decide) (by decide) (by decide) (by decide) (ad := "[B") (by first | rfl | decide) ?_
  intro T1 h1 b1 kA1 X1 eT1 E1 hb1 V1 A1
  have g_b1 : n0 ≤ b1 := Nat.le_trans (oldLe O0) hb1
  have sz_b1 : h0.size ≤ b1 := Nat.le_trans Kp.1 hb1
  have ne_a_b1 : a ≠ b1 := Nat.ne_of_lt (Nat.lt_of_lt_of_le Va.lt hb1)
  have Va := Va.ext E1
  have Kp := Kp.ext E1
  have O0 := O0.ext E1
  have V1 : Arv Z h1 b1 kA1 .byte (3 : Int32) [(.int (0 : Int32)), (.int (0 : Int32)), (.int (0 : Int32))] (.int (0 : Int32)) := V1
  show Goes p e below _ T1 (mkF m 3 #[.val (.ref a), .val (.int (0 : Int32)), .val (.int (3 : Int32)), .unset, .unset, .unset] [(.ref b1)])
  refine Goes.of (fun _ => XS.astoreN X1.here hx rfl (hb hby d14_3) rfl rfl (l' := #[.val (.ref a), .val (.int (0 : Int32)), .val (.int (3 : Int32)), .val (.ref b1), .unset, .unset]) rfl) ?_
  show Goes p e below _ T1 (mkF m 4 #[.val (.ref a), .val (.int (0 : Int32)), .val (.int (3 : Int32)), .val (.ref b1), .unset, .unset] [])
  refine Goes.of (fun _ => XS.aloadN X1.here hx rfl (hb hby d14_4) rfl rfl) ?_
  show Goes p e below _ T1 (mkF m 5 #[.val (.ref a), .val (.int (0 : Int32)), .val (.int (3 : Int32)), .val (.ref b1), .unset, .unset] [(.ref a)])
  refine Goes.of (fun _ => XS.iloadN X1.here hx rfl (hb hby d14_5) rfl) ?_
  show Goes p e below _ T1 (mkF m 6 #[.val (.ref a), .val (.int (0 : Int32)), .val (.int (3 : Int32)), .val (.ref b1), .unset, .unset] [(.int (0 : Int32)), (.ref a)])
  refine Goes.of (fun _ => XS.aloadN X1.here hx rfl (hb hby d14_6) rfl rfl) ?_
  show Goes p e below _ T1 (mkF m 7 #[.val (.ref a), .val (.int (0 : Int32)), .val (.int (3 : Int32)), .val (.ref b1), .unset, .unset] [(.ref b1), (.int (0 : Int32)), (.ref a)])
  refine Goes.of (fun _ => XS.iconst X1.here hx rfl (hb hby d14_7)) ?_
  show Goes p e below _ T1 (mkF m 8 #[.val (.ref a), .val (.int (0 : Int32)), .val (.int (3 : Int32)), .val (.ref b1), .unset, .unset] [(.int (0 : Int32)), (.ref b1), (.int (0 : Int32)), (.ref a)])
  refine Goes.of (fun _ => XS.iloadN X1.here hx rfl (hb hby d14_8) rfl) ?_
  show Goes p e below _ T1 (mkF m 9 #[.val (.ref a), .val (.int (0 : Int32)), .val (.int (3 : Int32)), .val (.ref b1), .unset, .unset] [(.int (3 : Int32)), (.int (0 : Int32)), (.ref b1), (.int (0 : Int32)), (.ref a)])
  refine goStatic 0 X1 hx hZ hown (hw _ (List.mem_of_getElem? (i := 100) rfl)) (hw _ (List.mem_of_getElem? (i := 101) rfl)) (hw _ (List.mem_of_getElem? (i := 97) rfl)) (hw _ (List.mem_of_getElem? (i := 102) rfl)) (by decide) (rm_comp5_3_1 l Z a0 hw a b1 _ _ c0 c1 c2 h1 n0 O0 g_b1 ne_a_b1 Va V1 hk0 hk1) eT1 (g := (mkF m 9 #[.val (.ref a), .val (.int (0 : Int32)), .val (.int (3 : Int32)), .val (.ref b1), .unset, .unset] [(.int (3 : Int32)), (.int (0 : Int32)), (.ref b1), (.int (0 : Int32)), (.ref a)])) rfl (by rw [hml]; rfl) [(.ref a), (.int (0 : Int32)), (.ref b1), (.int (0 : Int32)), (.int (3 : Int32))] [] (lenOf pd___CI_BII_I rfl) rfl rfl (by show 2 * 0 + _ ≤ _; exact Nat.le_of_eq rfl) (hb hby d14_9) (by decide) (by decide) (by decide) (by decide) ?_
  intro v2 T2 L2 X2 q2
  obtain ⟨rfl, Nq2, Kq2, Vq2⟩ := q2
  have N2 := Fr.app N0 Nq2
  have Va := Va.keep Kq2 (ninS ne_a_b1 nin0)
  have A1 := A1.keep Kq2
  have Kp := Kp.trans Kq2 (allS (Or.inr sz_b1) all0)
  have O0 := O0.keep Kq2 (allS g_b1 all0)
  show Goes p e below _ T2 (mkF m 12 #[.val (.ref a), .val (.int (0 : Int32)), .val (.int (3 : Int32)), .val (.ref b1), .unset, .unset] [(.int (1 : Int32))])
  refine Goes.of (fun _ => XS.istore X2.here hx rfl (hb hby d14_12) rfl (l' := #[.val (.ref a), .val (.int (0 : Int32)), .val (.int (3 : Int32)), .val (.ref b1), .val (.int (1 : Int32)), .unset]) rfl) ?_
  show Goes p e below _ T2 (mkF m 14 #[.val (.ref a), .val (.int (0 : Int32)), .val (.int (3 : Int32)), .val (.ref b1), .val (.int (1 : Int32)), .unset] [])
  refine Goes.of (fun _ => XS.iload X2.here hx rfl (hb hby d14_14) rfl) ?_
  show Goes p e below _ T2 (mkF m 16 #[.val (.ref a), .val (.int (0 : Int32)), .val (.int (3 : Int32)), .val (.ref b1), .val (.int (1 : Int32)), .unset] [(.int (1 : Int32))])
  refine Goes.of (fun _ => XS.iloadN X2.here hx rfl (hb hby d14_16) rfl) ?_
  show Goes p e below _ T2 (mkF m 17 #[.val (.ref a), .val (.int (0 : Int32)), .val (.int (3 : Int32)), .val (.ref b1), .val (.int (1 : Int32)), .unset] [(.int (3 : Int32)), (.int (1 : Int32))])
  refine Goes.of (fun _ => XS.icmpNo X2.here hx rfl (hb hby d14_17) rfl (feq (by decide)).1) ?_
  show Goes p e below _ T2 (mkF m 20 #[.val (.ref a), .val (.int (0 : Int32)), .val (.int (3 : Int32)), .val (.ref b1), .val (.int (1 : Int32)), .unset] [])
  refine Goes.of (fun _ => XS.aloadN X2.here hx rfl (hb hby d14_20) rfl rfl) ?_
  show Goes p e below _ T2 (mkF m 21 #[.val (.ref a), .val (.int (0 : Int32)), .val (.int (3 : Int32)), .val (.ref b1), .val (.int (1 : Int32)), .unset] [(.ref a)])
  refine Goes.of (fun _ => XS.iloadN X2.here hx rfl (hb hby d14_21) rfl) ?_
  show Goes p e below _ T2 (mkF m 22 #[.val (.ref a), .val (.int (0 : Int32)), .val (.int (3 : Int32)), .val (.ref b1), .val (.int (1 : Int32)), .unset] [(.int (0 : Int32)), (.ref a)])
  refine Goes.of (fun _ => XS.iloadN X2.here hx rfl (hb hby d14_22) rfl) ?_
  show Goes p e below _ T2 (mkF m 23 #[.val (.ref a), .val (.int (0 : Int32)), .val (.int (3 : Int32)), .val (.ref b1), .val (.int (1 : Int32)), .unset] [(.int (3 : Int32)), (.int (0 : Int32)), (.ref a)])
  refine goStatic 0 X2 hx hZ hown (hw _ (List.mem_of_getElem? (i := 138) rfl)) (hw _ (List.mem_of_getElem? (i := 139) rfl)) (hw _ (List.mem_of_getElem? (i := 97) rfl)) (hw _ (List.mem_of_getElem? (i := 140) rfl)) (by decide) (rm_tob3_3 l Z a0 hw a _ c0 c1 c2 T2.heap n0 O0 Sa Sh Sl Va) (rfl : T2.heap = _) (g := (mkF m 23 #[.val (.ref a), .val (.int (0 : Int32)), .val (.int (3 : Int32)), .val (.ref b1), .val (.int (1 : Int32)), .unset] [(.int (3 : Int32)), (.int (0 : Int32)), (.ref a)])) rfl (by rw [hml]; rfl) [(.ref a), (.int (0 : Int32)), (.int (3 : Int32))] [] (lenOf pd___CII__B rfl) rfl rfl (by show 2 * 0 + _ ≤ _; exact Nat.le_of_eq rfl) (hb hby d14_23) (by decide) (by decide) (by decide) (by decide) ?_
  intro v3 T3 L3 X3 q3
  obtain ⟨tb3, kt3, rfl, Nq3, Kq3, gq3, sq3, Vt3⟩ := q3
  have N3 := Fr.app N2 Nq3
  have g_tb3 : n0 ≤ tb3 := gq3
  have sz_tb3 : h0.size ≤ tb3 := Nat.le_trans Kp.1 sq3
  have ne_a_tb3 : a ≠ tb3 := Nat.ne_of_lt (Nat.lt_of_lt_of_le Va.lt sq3)
  have ne_b1_tb3 : b1 ≠ tb3 := Nat.ne_of_lt (Nat.lt_of_lt_of_le A1.lt sq3)
  have Va := Va.keep Kq3 nin0
  have A1 := A1.keep Kq3
  have Vq2 := Vq2.keep Kq3 nin0
  have Kp := Kp.trans Kq3 all0
  have O0 := O0.keep Kq3 all0
  show Goes p e below _ T3 (mkF m 26 #[.val (.ref a), .val (.int (0 : Int32)), .val (.int (3 : Int32)), .val (.ref b1), .val (.int (1 : Int32)), .unset] [(.ref tb3)])
  refine Goes.of (fun _ => XS.astore X3.here hx rfl (hb hby d14_26) rfl rfl (l' := #[.val (.ref a), .val (.int (0 : Int32)), .val (.int (3 : Int32)), .val (.ref b1), .val (.int (1 : Int32)), .val (.ref tb3)]) rfl) ?_
  show Goes p e below _ T3 (mkF m 28 #[.val (.ref a), .val (.int (0 : Int32)), .val (.int (3 : Int32)), .val (.ref b1), .val (.int (1 : Int32)), .val (.ref tb3)] [])
  refine Goes.of (fun _ => XS.aload X3.here hx rfl (hb hby d14_28) rfl rfl) ?_
  show Goes p e below _ T3 (mkF m 30 #[.val (.ref a), .val (.int (0 : Int32)), .val (.int (3 : Int32)), .val (.ref b1), .val (.int (1 : Int32)), .val (.ref tb3)] [(.ref tb3)])
  refine Goes.of (fun _ => XS.iload X3.here hx rfl (hb hby d14_30) rfl) ?_
  show Goes p e below _ T3 (mkF m 32 #[.val (.ref a), .val (.int (0 : Int32)), .val (.int (3 : Int32)), .val (.ref b1), .val (.int (1 : Int32)), .val (.ref tb3)] [(.int (1 : Int32)), (.ref tb3)])
  refine goStatic 0 X3 hx hZ hown (hw _ (List.mem_of_getElem? (i := 148) rfl)) (hw _ (List.mem_of_getElem? (i := 149) rfl)) (hw _ (List.mem_of_getElem? (i := 97) rfl)) (hw _ (List.mem_of_getElem? (i := 150) rfl)) (by decide) (rm_get6_1 l Z a0 hw tb3 _ (nar .byte ((c0 >>> ((0 : Int32) &&& 31)).toInt8.toInt32)) (nar .byte ((c0 >>> ((8 : Int32) &&& 31)).toInt8.toInt32)) (nar .byte ((c1 >>> ((0 : Int32) &&& 31)).toInt8.toInt32)) (nar .byte ((c1 >>> ((8 : Int32) &&& 31)).toInt8.toInt32)) (nar .byte ((c2 >>> ((0 : Int32) &&& 31)).toInt8.toInt32)) (nar .byte ((c2 >>> ((8 : Int32) &&& 31)).toInt8.toInt32)) T3.heap n0 O0 Sa Sh Sl Vt3) (rfl : T3.heap = _) (g := (mkF m 32 #[.val (.ref a), .val (.int (0 : Int32)), .val (.int (3 : Int32)), .val (.ref b1), .val (.int (1 : Int32)), .val (.ref tb3)] [(.int (1 : Int32)), (.ref tb3)])) rfl (by rw [hml]; rfl) [(.ref tb3), (.int (1 : Int32))] [] (lenOf pd___BI_C rfl) rfl rfl (by show 2 * 0 + _ ≤ _; exact Nat.le_of_eq rfl) (hb hby d14_32) (by decide) (by decide) (by decide) (by decide) ?_
  intro v4 T4 L4 X4 q4
  obtain ⟨rfl, Nq4, eT4⟩ := q4
  have N4 := Fr.app N3 Nq4
  show Goes p e below _ T4 (mkF m 35 #[.val (.ref a), .val (.int (0 : Int32)), .val (.int (3 : Int32)), .val (.ref b1), .val (.int (1 : Int32)), .val (.ref tb3)] [(.int (nar .char (((((nar .byte ((c1 >>> ((0 : Int32) &&& 31)).toInt8.toInt32)) &&& (255 : Int32)) <<< ((0 : Int32) &&& 31)) ||| (((nar .byte ((c1 >>> ((8 : Int32) &&& 31)).toInt8.toInt32)) &&& (255 : Int32)) <<< ((8 : Int32) &&& 31))).toUInt32.toUInt16.toUInt32.toInt32)))])
  refine Goes.of (fun _ => XS.sipush X4.here hx rfl (hb hby d14_35)) ?_
  show Goes p e below _ T4 (mkF m 38 #[.val (.ref a), .val (.int (0 : Int32)), .val (.int (3 : Int32)), .val (.ref b1), .val (.int (1 : Int32)), .val (.ref tb3)] [(.int (255 : Int32)), (.int (nar .char (((((nar .byte ((c1 >>> ((0 : Int32) &&& 31)).toInt8.toInt32)) &&& (255 : Int32)) <<< ((0 : Int32) &&& 31)) ||| (((nar .byte ((c1 >>> ((8 : Int32) &&& 31)).toInt8.toInt32)) &&& (255 : Int32)) <<< ((8 : Int32) &&& 31))).toUInt32.toUInt16.toUInt32.toInt32)))])
  refine Goes.of (fun _ => XS.icmpYes X4.here hx rfl (pc0 := 38) (pc' := 54) rfl (hb hby d14_38) rfl (tlt (by rw [getc c1 hbd1]; exact hk1)).2.2.1 (by decide) (by decide)) ?_
  show Goes p e below _ T4 (mkF m 54 #[.val (.ref a), .val (.int (0 : Int32)), .val (.int (3 : Int32)), .val (.ref b1), .val (.int (1 : Int32)), .val (.ref tb3)] [])
  refine Goes.of (fun _ => XS.aload X4.here hx rfl (hb hby d14_54) rfl rfl) ?_
  show Goes p e below _ T4 (mkF m 56 #[.val (.ref a), .val (.int (0 : Int32)), .val (.int (3 : Int32)), .val (.ref b1), .val (.int (1 : Int32)), .val (.ref tb3)] [(.ref tb3)])
  exact retRef X4 hx hret hlk rfl rfl (hb hby d14_56) eT4 (by decide) (by decide) ⟨tb3, _, rfl, N4, Kp, g_tb3, sz_tb3, Vt3⟩
set_option maxRecDepth 65536 in
set_option maxHeartbeats 40000000 in
theorem rm_comp5_3_2 (l : Launch) (Z : State) (a0 : Array Value) (hw : ∀ d ∈ tables_1, d.before a0 Z = true) (a b : Addr) (ka kb : ClassId) (c0 c1 c2 : Int32) (h0 : Heap) (n0 : Nat) (O0 : Old Z n0 h0) (g_b : n0 ≤ b) (hab : a ≠ b) (Va : Arv Z h0 a ka .char (3 : Int32) [(.int c0), (.int c1), (.int c2)] (.int (0 : Int32))) (Vb : Arv Z h0 b kb .byte (3 : Int32) [(.int (0 : Int32)), (.int (0 : Int32)), (.int (0 : Int32))] (.int (0 : Int32))) (hk0 : ¬ (255 : Int32) < c0) (hk1 : ¬ (255 : Int32) < c1) (hk2 : (255 : Int32) < c2) :
    Rm l (⟨"java/lang/StringUTF16", "compress", "([CI[BII)I"⟩ : MethodName) jdk_52_method_21_code 7 (some .int) ({ frames := 0, cells := 0, slots := 0, locals := 0 } : Room) [] Z #[(.ref a), (.int (0 : Int32)), (.ref b), (.int (0 : Int32)), (.int (3 : Int32))] h0 (fun v h L => v = some (.int (2 : Int32)) ∧ Fr n0 L ∧ Keep h0 h [b] ∧ Arv Z h b kb .byte (3 : Int32) [(.int (nar .byte (c0.toInt8.toInt32))), (.int (nar .byte (c1.toInt8.toInt32))), (.int (0 : Int32))] (.int (0 : Int32))) := by
  refine Rm.of (plainFor_of_name pn_java_lang_StringUTF16) ?_
  intro p e s m below meth cod T X hx hZ hby hml hown hnm hret hlk eT0
  have hown : s.vm.findClass "java/lang/StringUTF16" = some m.cls := hown
  have hnm : meth.name = "compress" := hnm
  have N0 := Fr.nil n0
  have Kp := Keep.refl h0 [b]
  refine Goes.cast (ef_15 m a (0 : Int32) b (0 : Int32) (3 : Int32)) ?_
  show Goes p e below _ T (mkF m 0 #[.val (.ref a), .val (.int (0 : Int32)), .val (.ref b), .val (.int (0 : Int32)), .val (.int (3 : Int32)), .unset, .unset] [])
  refine Goes.of (fun _ => XS.iconst X.here hx rfl (hb hby d15_0)) ?_
  show Goes p e below _ T (mkF m 1 #[.val (.ref a), .val (.int (0 : Int32)), .val (.ref b), .val (.int (0 : Int32)), .val (.int (3 : Int32)), .unset, .unset] [(.int (0 : Int32))])
  refine Goes.of (fun _ => XS.istore X.here hx rfl (hb hby d15_1) rfl (l' := #[.val (.ref a), .val (.int (0 : Int32)), .val (.ref b), .val (.int (0 : Int32)), .val (.int (3 : Int32)), .val (.int (0 : Int32)), .unset]) rfl) ?_
  show Goes p e below _ T (mkF m 3 #[.val (.ref a), .val (.int (0 : Int32)), .val (.ref b), .val (.int (0 : Int32)), .val (.int (3 : Int32)), .val (.int (0 : Int32)), .unset] [])
  refine Goes.of (fun _ => XS.iload X.here hx rfl (hb hby d15_3) rfl) ?_
  show Goes p e below _ T (mkF m 5 #[.val (.ref a), .val (.int (0 : Int32)), .val (.ref b), .val (.int (0 : Int32)), .val (.int (3 : Int32)), .val (.int (0 : Int32)), .unset] [(.int (0 : Int32))])
  refine Goes.of (fun _ => XS.iload X.here hx rfl (hb hby d15_5) rfl) ?_
  show Goes p e below _ T (mkF m 7 #[.val (.ref a), .val (.int (0 : Int32)), .val (.ref b), .val (.int (0 : Int32)), .val (.int (3 : Int32)), .val (.int (0 : Int32)), .unset] [(.int (3 : Int32)), (.int (0 : Int32))])
  refine Goes.of (fun _ => XS.icmpNo X.here hx rfl (hb hby d15_7) rfl (tlt (by decide)).2.1) ?_
  show Goes p e below _ T (mkF m 10 #[.val (.ref a), .val (.int (0 : Int32)), .val (.ref b), .val (.int (0 : Int32)), .val (.int (3 : Int32)), .val (.int (0 : Int32)), .unset] [])
  refine Goes.of (fun _ => XS.aloadN X.here hx rfl (hb hby d15_10) rfl rfl) ?_
  show Goes p e below _ T (mkF m 11 #[.val (.ref a), .val (.int (0 : Int32)), .val (.ref b), .val (.int (0 : Int32)), .val (.int (3 : Int32)), .val (.int (0 : Int32)), .unset] [(.ref a)])
  refine Goes.of (fun _ => XS.iloadN X.here hx rfl (hb hby d15_11) rfl) ?_
  show Goes p e below _ T (mkF m 12 #[.val (.ref a), .val (.int (0 : Int32)), .val (.ref b), .val (.int (0 : Int32)), .val (.int (3 : Int32)), .val (.int (0 : Int32)), .unset] [(.int (0 : Int32)), (.ref a)])
  refine goLdC (.int c0) X hx hZ eT0 Va (by decide) (by decide) rfl (g := (mkF m 12 #[.val (.ref a), .val (.int (0 : Int32)), .val (.ref b), .val (.int (0 : Int32)), .val (.int (3 : Int32)), .val (.int (0 : Int32)), .unset] [(.int (0 : Int32)), (.ref a)])) rfl rfl (hb hby d15_12) ?_
  show Goes p e below _ T (mkF m 13 #[.val (.ref a), .val (.int (0 : Int32)), .val (.ref b), .val (.int (0 : Int32)), .val (.int (3 : Int32)), .val (.int (0 : Int32)), .unset] [(.int c0)])
  refine Goes.of (fun _ => XS.istore X.here hx rfl (hb hby d15_13) rfl (l' := #[.val (.ref a), .val (.int (0 : Int32)), .val (.ref b), .val (.int (0 : Int32)), .val (.int (3 : Int32)), .val (.int (0 : Int32)), .val (.int c0)]) rfl) ?_
  show Goes p e below _ T (mkF m 15 #[.val (.ref a), .val (.int (0 : Int32)), .val (.ref b), .val (.int (0 : Int32)), .val (.int (3 : Int32)), .val (.int (0 : Int32)), .val (.int c0)] [])
  refine Goes.of (fun _ => XS.iload X.here hx rfl (hb hby d15_15) rfl) ?_
  show Goes p e below _ T (mkF m 17 #[.val (.ref a), .val (.int (0 : Int32)), .val (.ref b), .val (.int (0 : Int32)), .val (.int (3 : Int32)), .val (.int (0 : Int32)), .val (.int c0)] [(.int c0)])
  refine Goes.of (fun _ => XS.sipush X.here hx rfl (hb hby d15_17)) ?_
  show Goes p e below _ T (mkF m 20 #[.val (.ref a), .val (.int (0 : Int32)), .val (.ref b), .val (.int (0 : Int32)), .val (.int (3 : Int32)), .val (.int (0 : Int32)), .val (.int c0)] [(.int (255 : Int32)), (.int c0)])
  refine Goes.of (fun _ => XS.icmpYes X.here hx rfl (pc0 := 20) (pc' := 26) rfl (hb hby d15_20) rfl (flt hk0).2.2.2 (by decide) (by decide)) ?_
  show Goes p e below _ T (mkF m 26 #[.val (.ref a), .val (.int (0 : Int32)), .val (.ref b), .val (.int (0 : Int32)), .val (.int (3 : Int32)), .val (.int (0 : Int32)), .val (.int c0)] [])
  refine Goes.of (fun _ => XS.aloadN X.here hx rfl (hb hby d15_26) rfl rfl) ?_
  show Goes p e below _ T (mkF m 27 #[.val (.ref a), .val (.int (0 : Int32)), .val (.ref b), .val (.int (0 : Int32)), .val (.int (3 : Int32)), .val (.int (0 : Int32)), .val (.int c0)] [(.ref b)])
  refine Goes.of (fun _ => XS.iloadN X.here hx rfl (hb hby d15_27) rfl) ?_
  show Goes p e below _ T (mkF m 28 #[.val (.ref a), .val (.int (0 : Int32)), .val (.ref b), .val (.int (0 : Int32)), .val (.int (3 : Int32)), .val (.int (0 : Int32)), .val (.int c0)] [(.int (0 : Int32)), (.ref b)])
  refine Goes.of (fun _ => XS.iload X.here hx rfl (hb hby d15_28) rfl) ?_
  show Goes p e below _ T (mkF m 30 #[.val (.ref a), .val (.int (0 : Int32)), .val (.ref b), .val (.int (0 : Int32)), .val (.int (3 : Int32)), .val (.int (0 : Int32)), .val (.int c0)] [(.int c0), (.int (0 : Int32)), (.ref b)])
  refine Goes.of (fun _ => XS.i2b X.here hx rfl (hb hby d15_30) rfl) ?_
  show Goes p e below _ T (mkF m 31 #[.val (.ref a), .val (.int (0 : Int32)), .val (.ref b), .val (.int (0 : Int32)), .val (.int (3 : Int32)), .val (.int (0 : Int32)), .val (.int c0)] [(.int (c0.toInt8.toInt32)), (.int (0 : Int32)), (.ref b)])
  refine goStB 0 X hx hZ eT0 Vb (by decide) (by decide) rfl (Nat.lt_of_lt_of_le (Nat.lt_succ_self _) (Nat.le_of_ble_eq_true rfl)) (g := (mkF m 31 #[.val (.ref a), .val (.int (0 : Int32)), .val (.ref b), .val (.int (0 : Int32)), .val (.int (3 : Int32)), .val (.int (0 : Int32)), .val (.int c0)] [(.int (c0.toInt8.toInt32)), (.int (0 : Int32)), (.ref b)])) rfl rfl (hb hby d15_31) ?_
  intro T2 h2 X2 eT2 W2 Vb
  have N2 := Fr.snoc X2 N0 g_b
  have Va := Va.other W2 hab
  have Kp := Kp.wr W2 (Or.inl (List.mem_of_getElem? (i := 0) rfl))
  have O0 := O0.wr W2 g_b
  have Vb : Arv Z h2 b kb .byte (3 : Int32) [(.int (nar .byte (c0.toInt8.toInt32))), (.int (0 : Int32)), (.int (0 : Int32))] (.int (0 : Int32)) := Vb
  show Goes p e below _ T2 (mkF m 32 #[.val (.ref a), .val (.int (0 : Int32)), .val (.ref b), .val (.int (0 : Int32)), .val (.int (3 : Int32)), .val (.int (0 : Int32)), .val (.int c0)] [])
  refine Goes.of (fun _ => XS.iinc X2.here hx rfl (hb hby d15_32) rfl (l' := #[.val (.ref a), .val (.int (1 : Int32)), .val (.ref b), .val (.int (0 : Int32)), .val (.int (3 : Int32)), .val (.int (0 : Int32)), .val (.int c0)]) rfl) ?_
  show Goes p e below _ T2 (mkF m 35 #[.val (.ref a), .val (.int (1 : Int32)), .val (.ref b), .val (.int (0 : Int32)), .val (.int (3 : Int32)), .val (.int (0 : Int32)), .val (.int c0)] [])
  refine Goes.of (fun _ => XS.iinc X2.here hx rfl (hb hby d15_35) rfl (l' := #[.val (.ref a), .val (.int (1 : Int32)), .val (.ref b), .val (.int (1 : Int32)), .val (.int (3 : Int32)), .val (.int (0 : Int32)), .val (.int c0)]) rfl) ?_
  show Goes p e below _ T2 (mkF m 38 #[.val (.ref a), .val (.int (1 : Int32)), .val (.ref b), .val (.int (1 : Int32)), .val (.int (3 : Int32)), .val (.int (0 : Int32)), .val (.int c0)] [])
  refine Goes.of (fun _ => XS.iinc X2.here hx rfl (hb hby d15_38) rfl (l' := #[.val (.ref a), .val (.int (1 : Int32)), .val (.ref b), .val (.int (1 : Int32)), .val (.int (3 : Int32)), .val (.int (1 : Int32)), .val (.int c0)]) rfl) ?_
  show Goes p e below _ T2 (mkF m 41 #[.val (.ref a), .val (.int (1 : Int32)), .val (.ref b), .val (.int (1 : Int32)), .val (.int (3 : Int32)), .val (.int (1 : Int32)), .val (.int c0)] [])
  refine Goes.of (fun _ => XS.goto X2.here hx rfl (pc0 := 41) (pc' := 3) rfl (hb hby d15_41) (by decide) (by decide)) ?_
  show Goes p e below _ T2 (mkF m 3 #[.val (.ref a), .val (.int (1 : Int32)), .val (.ref b), .val (.int (1 : Int32)), .val (.int (3 : Int32)), .val (.int (1 : Int32)), .val (.int c0)] [])
  refine Goes.of (fun _ => XS.iload X2.here hx rfl (hb hby d15_3) rfl) ?_
  show Goes p e below _ T2 (mkF m 5 #[.val (.ref a), .val (.int (1 : Int32)), .val (.ref b), .val (.int (1 : Int32)), .val (.int (3 : Int32)), .val (.int (1 : Int32)), .val (.int c0)] [(.int (1 : Int32))])
  refine Goes.of (fun _ => XS.iload X2.here hx rfl (hb hby d15_5) rfl) ?_
  show Goes p e below _ T2 (mkF m 7 #[.val (.ref a), .val (.int (1 : Int32)), .val (.ref b), .val (.int (1 : Int32)), .val (.int (3 : Int32)), .val (.int (1 : Int32)), .val (.int c0)] [(.int (3 : Int32)), (.int (1 : Int32))])
  refine Goes.of (fun _ => XS.icmpNo X2.here hx rfl (hb hby d15_7) rfl (tlt (by decide)).2.1) ?_
  show Goes p e below _ T2 (mkF m 10 #[.val (.ref a), .val (.int (1 : Int32)), .val (.ref b), .val (.int (1 : Int32)), .val (.int (3 : Int32)), .val (.int (1 : Int32)), .val (.int c0)] [])
  refine Goes.of (fun _ => XS.aloadN X2.here hx rfl (hb hby d15_10) rfl rfl) ?_
  show Goes p e below _ T2 (mkF m 11 #[.val (.ref a), .val (.int (1 : Int32)), .val (.ref b), .val (.int (1 : Int32)), .val (.int (3 : Int32)), .val (.int (1 : Int32)), .val (.int c0)] [(.ref a)])
  refine Goes.of (fun _ => XS.iloadN X2.here hx rfl (hb hby d15_11) rfl) ?_
  show Goes p e below _ T2 (mkF m 12 #[.val (.ref a), .val (.int (1 : Int32)), .val (.ref b), .val (.int (1 : Int32)), .val (.int (3 : Int32)), .val (.int (1 : Int32)), .val (.int c0)] [(.int (1 : Int32)), (.ref a)])
  refine goLdC (.int c1) X2 hx hZ eT2 Va (by decide) (by decide) rfl (g := (mkF m 12 #[.val (.ref a), .val (.int (1 : Int32)), .val (.ref b), .val (.int (1 : Int32)), .val (.int (3 : Int32)), .val (.int (1 : Int32)), .val (.int c0)] [(.int (1 : Int32)), (.ref a)])) rfl rfl (hb hby d15_12) ?_
  show Goes p e below _ T2 (mkF m 13 #[.val (.ref a), .val (.int (1 : Int32)), .val (.ref b), .val (.int (1 : Int32)), .val (.int (3 : Int32)), .val (.int (1 : Int32)), .val (.int c0)] [(.int c1)])
  refine Goes.of (fun _ => XS.istore X2.here hx rfl (hb hby d15_13) rfl (l' := #[.val (.ref a), .val (.int (1 : Int32)), .val (.ref b), .val (.int (1 : Int32)), .val (.int (3 : Int32)), .val (.int (1 : Int32)), .val (.int c1)]) rfl) ?_
  show Goes p e below _ T2 (mkF m 15 #[.val (.ref a), .val (.int (1 : Int32)), .val (.ref b), .val (.int (1 : Int32)), .val (.int (3 : Int32)), .val (.int (1 : Int32)), .val (.int c1)] [])
  refine Goes.of (fun _ => XS.iload X2.here hx rfl (hb hby d15_15) rfl) ?_
  show Goes p e below _ T2 (mkF m 17 #[.val (.ref a), .val (.int (1 : Int32)), .val (.ref b), .val (.int (1 : Int32)), .val (.int (3 : Int32)), .val (.int (1 : Int32)), .val (.int c1)] [(.int c1)])
  refine Goes.of (fun _ => XS.sipush X2.here hx rfl (hb hby d15_17)) ?_
  show Goes p e below _ T2 (mkF m 20 #[.val (.ref a), .val (.int (1 : Int32)), .val (.ref b), .val (.int (1 : Int32)), .val (.int (3 : Int32)), .val (.int (1 : Int32)), .val (.int c1)] [(.int (255 : Int32)), (.int c1)])
  refine Goes.of (fun _ => XS.icmpYes X2.here hx rfl (pc0 := 20) (pc' := 26) rfl (hb hby d15_20) rfl (flt hk1).2.2.2 (by decide) (by decide)) ?_
  show Goes p e below _ T2 (mkF m 26 #[.val (.ref a), .val (.int (1 : Int32)), .val (.ref b), .val (.int (1 : Int32)), .val (.int (3 : Int32)), .val (.int (1 : Int32)), .val (.int c1)] [])
  refine Goes.of (fun _ => XS.aloadN X2.here hx rfl (hb hby d15_26) rfl rfl) ?_
  show Goes p e below _ T2 (mkF m 27 #[.val (.ref a), .val (.int (1 : Int32)), .val (.ref b), .val (.int (1 : Int32)), .val (.int (3 : Int32)), .val (.int (1 : Int32)), .val (.int c1)] [(.ref b)])
  refine Goes.of (fun _ => XS.iloadN X2.here hx rfl (hb hby d15_27) rfl) ?_
  show Goes p e below _ T2 (mkF m 28 #[.val (.ref a), .val (.int (1 : Int32)), .val (.ref b), .val (.int (1 : Int32)), .val (.int (3 : Int32)), .val (.int (1 : Int32)), .val (.int c1)] [(.int (1 : Int32)), (.ref b)])
  refine Goes.of (fun _ => XS.iload X2.here hx rfl (hb hby d15_28) rfl) ?_
  show Goes p e below _ T2 (mkF m 30 #[.val (.ref a), .val (.int (1 : Int32)), .val (.ref b), .val (.int (1 : Int32)), .val (.int (3 : Int32)), .val (.int (1 : Int32)), .val (.int c1)] [(.int c1), (.int (1 : Int32)), (.ref b)])
  refine Goes.of (fun _ => XS.i2b X2.here hx rfl (hb hby d15_30) rfl) ?_
  show Goes p e below _ T2 (mkF m 31 #[.val (.ref a), .val (.int (1 : Int32)), .val (.ref b), .val (.int (1 : Int32)), .val (.int (3 : Int32)), .val (.int (1 : Int32)), .val (.int c1)] [(.int (c1.toInt8.toInt32)), (.int (1 : Int32)), (.ref b)])
  refine goStB 1 X2 hx hZ eT2 Vb (by decide) (by decide) rfl (Nat.lt_of_lt_of_le (Nat.lt_succ_self _) (Nat.le_of_ble_eq_true rfl)) (g := (mkF m 31 #[.val (.ref a), .val (.int (1 : Int32)), .val (.ref b), .val (.int (1 : Int32)), .val (.int (3 : Int32)), .val (.int (1 : Int32)), .val (.int c1)] [(.int (c1.toInt8.toInt32)), (.int (1 : Int32)), (.ref b)])) rfl rfl (hb hby d15_31) ?_
  intro T4 h4 X4 eT4 W4 Vb
  have N4 := Fr.snoc X4 N2 g_b
  have Va := Va.other W4 hab
  have Kp := Kp.wr W4 (Or.inl (List.mem_of_getElem? (i := 0) rfl))
  have O0 := O0.wr W4 g_b
  have Vb : Arv Z h4 b kb .byte (3 : Int32) [(.int (nar .byte (c0.toInt8.toInt32))), (.int (nar .byte (c1.toInt8.toInt32))), (.int (0 : Int32))] (.int (0 : Int32)) := Vb
  show Goes p e below _ T4 (mkF m 32 #[.val (.ref a), .val (.int (1 : Int32)), .val (.ref b), .val (.int (1 : Int32)), .val (.int (3 : Int32)), .val (.int (1 : Int32)), .val (.int c1)] [])
  refine Goes.of (fun _ => XS.iinc X4.here hx rfl (hb hby d15_32) rfl (l' := #[.val (.ref a), .val (.int (2 : Int32)), .val (.ref b), .val (.int (1 : Int32)), .val (.int (3 : Int32)), .val (.int (1 : Int32)), .val (.int c1)]) rfl) ?_
  show Goes p e below _ T4 (mkF m 35 #[.val (.ref a), .val (.int (2 : Int32)), .val (.ref b), .val (.int (1 : Int32)), .val (.int (3 : Int32)), .val (.int (1 : Int32)), .val (.int c1)] [])
  refine Goes.of (fun _ => XS.iinc X4.here hx rfl (hb hby d15_35) rfl (l' := #[.val (.ref a), .val (.int (2 : Int32)), .val (.ref b), .val (.int (2 : Int32)), .val (.int (3 : Int32)), .val (.int (1 : Int32)), .val (.int c1)]) rfl) ?_
  show Goes p e below _ T4 (mkF m 38 #[.val (.ref a), .val (.int (2 : Int32)), .val (.ref b), .val (.int (2 : Int32)), .val (.int (3 : Int32)), .val (.int (1 : Int32)), .val (.int c1)] [])
  refine Goes.of (fun _ => XS.iinc X4.here hx rfl (hb hby d15_38) rfl (l' := #[.val (.ref a), .val (.int (2 : Int32)), .val (.ref b), .val (.int (2 : Int32)), .val (.int (3 : Int32)), .val (.int (2 : Int32)), .val (.int c1)]) rfl) ?_
  show Goes p e below _ T4 (mkF m 41 #[.val (.ref a), .val (.int (2 : Int32)), .val (.ref b), .val (.int (2 : Int32)), .val (.int (3 : Int32)), .val (.int (2 : Int32)), .val (.int c1)] [])
  refine Goes.of (fun _ => XS.goto X4.here hx rfl (pc0 := 41) (pc' := 3) rfl (hb hby d15_41) (by decide) (by decide)) ?_
  show Goes p e below _ T4 (mkF m 3 #[.val (.ref a), .val (.int (2 : Int32)), .val (.ref b), .val (.int (2 : Int32)), .val (.int (3 : Int32)), .val (.int (2 : Int32)), .val (.int c1)] [])
  refine Goes.of (fun _ => XS.iload X4.here hx rfl (hb hby d15_3) rfl) ?_
  show Goes p e below _ T4 (mkF m 5 #[.val (.ref a), .val (.int (2 : Int32)), .val (.ref b), .val (.int (2 : Int32)), .val (.int (3 : Int32)), .val (.int (2 : Int32)), .val (.int c1)] [(.int (2 : Int32))])
  refine Goes.of (fun _ => XS.iload X4.here hx rfl (hb hby d15_5) rfl) ?_
  show Goes p e below _ T4 (mkF m 7 #[.val (.ref a), .val (.int (2 : Int32)), .val (.ref b), .val (.int (2 : Int32)), .val (.int (3 : Int32)), .val (.int (2 : Int32)), .val (.int c1)] [(.int (3 : Int32)), (.int (2 : Int32))])
  refine Goes.of (fun _ => XS.icmpNo X4.here hx rfl (hb hby d15_7) rfl (tlt (by decide)).2.1) ?_
  show Goes p e below _ T4 (mkF m 10 #[.val (.ref a), .val (.int (2 : Int32)), .val (.ref b), .val (.int (2 : Int32)), .val (.int (3 : Int32)), .val (.int (2 : Int32)), .val (.int c1)] [])
  refine Goes.of (fun _ => XS.aloadN X4.here hx rfl (hb hby d15_10) rfl rfl) ?_
  show Goes p e below _ T4 (mkF m 11 #[.val (.ref a), .val (.int (2 : Int32)), .val (.ref b), .val (.int (2 : Int32)), .val (.int (3 : Int32)), .val (.int (2 : Int32)), .val (.int c1)] [(.ref a)])
  refine Goes.of (fun _ => XS.iloadN X4.here hx rfl (hb hby d15_11) rfl) ?_
  show Goes p e below _ T4 (mkF m 12 #[.val (.ref a), .val (.int (2 : Int32)), .val (.ref b), .val (.int (2 : Int32)), .val (.int (3 : Int32)), .val (.int (2 : Int32)), .val (.int c1)] [(.int (2 : Int32)), (.ref a)])
  refine goLdC (.int c2) X4 hx hZ eT4 Va (by decide) (by decide) rfl (g := (mkF m 12 #[.val (.ref a), .val (.int (2 : Int32)), .val (.ref b), .val (.int (2 : Int32)), .val (.int (3 : Int32)), .val (.int (2 : Int32)), .val (.int c1)] [(.int (2 : Int32)), (.ref a)])) rfl rfl (hb hby d15_12) ?_
  show Goes p e below _ T4 (mkF m 13 #[.val (.ref a), .val (.int (2 : Int32)), .val (.ref b), .val (.int (2 : Int32)), .val (.int (3 : Int32)), .val (.int (2 : Int32)), .val (.int c1)] [(.int c2)])
  refine Goes.of (fun _ => XS.istore X4.here hx rfl (hb hby d15_13) rfl (l' := #[.val (.ref a), .val (.int (2 : Int32)), .val (.ref b), .val (.int (2 : Int32)), .val (.int (3 : Int32)), .val (.int (2 : Int32)), .val (.int c2)]) rfl) ?_
  show Goes p e below _ T4 (mkF m 15 #[.val (.ref a), .val (.int (2 : Int32)), .val (.ref b), .val (.int (2 : Int32)), .val (.int (3 : Int32)), .val (.int (2 : Int32)), .val (.int c2)] [])
  refine Goes.of (fun _ => XS.iload X4.here hx rfl (hb hby d15_15) rfl) ?_
  show Goes p e below _ T4 (mkF m 17 #[.val (.ref a), .val (.int (2 : Int32)), .val (.ref b), .val (.int (2 : Int32)), .val (.int (3 : Int32)), .val (.int (2 : Int32)), .val (.int c2)] [(.int c2)])
  refine Goes.of (fun _ => XS.sipush X4.here hx rfl (hb hby d15_17)) ?_
  show Goes p e below _ T4 (mkF m 20 #[.val (.ref a), .val (.int (2 : Int32)), .val (.ref b), .val (.int (2 : Int32)), .val (.int (3 : Int32)), .val (.int (2 : Int32)), .val (.int c2)] [(.int (255 : Int32)), (.int c2)])
  refine Goes.of (fun _ => XS.icmpNo X4.here hx rfl (hb hby d15_20) rfl (tlt hk2).2.2.2) ?_
  show Goes p e below _ T4 (mkF m 23 #[.val (.ref a), .val (.int (2 : Int32)), .val (.ref b), .val (.int (2 : Int32)), .val (.int (3 : Int32)), .val (.int (2 : Int32)), .val (.int c2)] [])
  refine Goes.of (fun _ => XS.iload X4.here hx rfl (hb hby d15_23) rfl) ?_
  show Goes p e below _ T4 (mkF m 25 #[.val (.ref a), .val (.int (2 : Int32)), .val (.ref b), .val (.int (2 : Int32)), .val (.int (3 : Int32)), .val (.int (2 : Int32)), .val (.int c2)] [(.int (2 : Int32))])
  exact retInt X4 hx hret hlk (hb hby d15_25) eT4 (by decide) (by decide) ⟨rfl, N4, Kp, Vb⟩
set_option maxRecDepth 65536 in
set_option maxHeartbeats 40000000 in
theorem rm_comp3_3_2 (l : Launch) (Z : State) (a0 : Array Value) (hw : ∀ d ∈ tables_1, d.before a0 Z = true) (a : Addr) (ka : ClassId) (c0 c1 c2 : Int32) (h0 : Heap) (n0 : Nat) (O0 : Old Z n0 h0) (Sa : Sta Z Z.heap "java/lang/StringUTF16" "$assertionsDisabled" "Z" (.int (1 : Int32))) (Sh : Sta Z Z.heap "java/lang/StringUTF16" "HI_BYTE_SHIFT" "I" (.int (0 : Int32))) (Sl : Sta Z Z.heap "java/lang/StringUTF16" "LO_BYTE_SHIFT" "I" (.int (8 : Int32))) (Va : Arv Z h0 a ka .char (3 : Int32) [(.int c0), (.int c1), (.int c2)] (.int (0 : Int32))) (hk0 : ¬ (255 : Int32) < c0) (hk1 : ¬ (255 : Int32) < c1) (hk2 : (255 : Int32) < c2) (hbd0 : ¬ c0 < 0 ∧ ¬ (65535 : Int32) < c0) (hbd1 : ¬ c1 < 0 ∧ ¬ (65535 : Int32) < c1) (hbd2 : ¬ c2 < 0 ∧ ¬ (65535 : Int32) < c2) :
    Rm l (⟨"java/lang/StringUTF16", "compress", "([CII)[B"⟩ : MethodName) jdk_52_method_16_code 6 (some (.array .byte)) ({ frames := 3, cells := 2, slots := 9, locals := 40 } : Room) [] Z #[(.ref a), (.int (0 : Int32)), (.int (3 : Int32))] h0 (fun v h L => ∃ (b : Addr) (kb : ClassId), v = some (.ref b) ∧ Fr n0 L ∧ Keep h0 h [] ∧ n0 ≤ b ∧ h0.size ≤ b ∧ Arv Z h b kb .byte (6 : Int32) [(.int (nar .byte ((c0 >>> ((0 : Int32) &&& 31)).toInt8.toInt32))), (.int (nar .byte ((c0 >>> ((8 : Int32) &&& 31)).toInt8.toInt32))), (.int (nar .byte ((c1 >>> ((0 : Int32) &&& 31)).toInt8.toInt32))), (.int (nar .byte ((c1 >>> ((8 : Int32) &&& 31)).toInt8.toInt32))), (.int (nar .byte ((c2 >>> ((0 : Int32) &&& 31)).toInt8.toInt32))), (.int (nar .byte ((c2 >>> ((8 : Int32) &&& 31)).toInt8.toInt32)))] (.int (0 : Int32))) := by
  refine Rm.of (plainFor_of_name pn_java_lang_StringUTF16) ?_
  intro p e s m below meth cod T X hx hZ hby hml hown hnm hret hlk eT0
  have hown : s.vm.findClass "java/lang/StringUTF16" = some m.cls := hown
  have hnm : meth.name = "compress" := hnm
  have N0 := Fr.nil n0
  have Kp := Keep.refl h0 []
  refine Goes.cast (ef_14 m a (0 : Int32) (3 : Int32)) ?_
  show Goes p e below _ T (mkF m 0 #[.val (.ref a), .val (.int (0 : Int32)), .val (.int (3 : Int32)), .unset, .unset, .unset] [])
  refine Goes.of (fun _ => XS.iloadN X.here hx rfl (hb hby d14_0) rfl) ?_
  show Goes p e below _ T (mkF m 1 #[.val (.ref a), .val (.int (0 : Int32)), .val (.int (3 : Int32)), .unset, .unset, .unset] [(.int (3 : Int32))])
  refine goNewP 3 X hx hZ (hw _ (List.mem_of_getElem? (i := 99) rfl)) eT0 (g := (mkF m 1 #[.val (.ref a), .val (.int (0 : Int32)), .val (.int (3 : Int32)), .unset, .unset, .unset] [(.int (3 : Int32))])) rfl (hb hby d14_1) rfl (by decide) (by decide) (by decide) (by decide) (by decide) (ad := "[B") (by first | rfl | decide) ?_
  intro T1 h1 b1 kA1 X1 eT1 E1 hb1 V1 A1
  have g_b1 : n0 ≤ b1 := Nat.le_trans (oldLe O0) hb1
  have sz_b1 : h0.size ≤ b1 := Nat.le_trans Kp.1 hb1
  have ne_a_b1 : a ≠ b1 := Nat.ne_of_lt (Nat.lt_of_lt_of_le Va.lt hb1)
  have Va := Va.ext E1
  have Kp := Kp.ext E1
  have O0 := O0.ext E1
  have V1 : Arv Z h1 b1 kA1 .byte (3 : Int32) [(.int (0 : Int32)), (.int (0 : Int32)), (.int (0 : Int32))] (.int (0 : Int32)) := V1
  show Goes p e below _ T1 (mkF m 3 #[.val (.ref a), .val (.int (0 : Int32)), .val (.int (3 : Int32)), .unset, .unset, .unset] [(.ref b1)])
  refine Goes.of (fun _ => XS.astoreN X1.here hx rfl (hb hby d14_3) rfl rfl (l' := #[.val (.ref a), .val (.int (0 : Int32)), .val (.int (3 : Int32)), .val (.ref b1), .unset, .unset]) rfl) ?_
  show Goes p e below _ T1 (mkF m 4 #[.val (.ref a), .val (.int (0 : Int32)), .val (.int (3 : Int32)), .val (.ref b1), .unset, .unset] [])
  refine Goes.of (fun _ => XS.aloadN X1.here hx rfl (hb hby d14_4) rfl rfl) ?_
  show Goes p e below _ T1 (mkF m 5 #[.val (.ref a), .val (.int (0 : Int32)), .val (.int (3 : Int32)), .val (.ref b1), .unset, .unset] [(.ref a)])
  refine Goes.of (fun _ => XS.iloadN X1.here hx rfl (hb hby d14_5) rfl) ?_
  show Goes p e below _ T1 (mkF m 6 #[.val (.ref a), .val (.int (0 : Int32)), .val (.int (3 : Int32)), .val (.ref b1), .unset, .unset] [(.int (0 : Int32)), (.ref a)])
  refine Goes.of (fun _ => XS.aloadN X1.here hx rfl (hb hby d14_6) rfl rfl) ?_
  show Goes p e below _ T1 (mkF m 7 #[.val (.ref a), .val (.int (0 : Int32)), .val (.int (3 : Int32)), .val (.ref b1), .unset, .unset] [(.ref b1), (.int (0 : Int32)), (.ref a)])
  refine Goes.of (fun _ => XS.iconst X1.here hx rfl (hb hby d14_7)) ?_
  show Goes p e below _ T1 (mkF m 8 #[.val (.ref a), .val (.int (0 : Int32)), .val (.int (3 : Int32)), .val (.ref b1), .unset, .unset] [(.int (0 : Int32)), (.ref b1), (.int (0 : Int32)), (.ref a)])
  refine Goes.of (fun _ => XS.iloadN X1.here hx rfl (hb hby d14_8) rfl) ?_
  show Goes p e below _ T1 (mkF m 9 #[.val (.ref a), .val (.int (0 : Int32)), .val (.int (3 : Int32)), .val (.ref b1), .unset, .unset] [(.int (3 : Int32)), (.int (0 : Int32)), (.ref b1), (.int (0 : Int32)), (.ref a)])
  refine goStatic 0 X1 hx hZ hown (hw _ (List.mem_of_getElem? (i := 100) rfl)) (hw _ (List.mem_of_getElem? (i := 101) rfl)) (hw _ (List.mem_of_getElem? (i := 97) rfl)) (hw _ (List.mem_of_getElem? (i := 102) rfl)) (by decide) (rm_comp5_3_2 l Z a0 hw a b1 _ _ c0 c1 c2 h1 n0 O0 g_b1 ne_a_b1 Va V1 hk0 hk1 hk2) eT1 (g := (mkF m 9 #[.val (.ref a), .val (.int (0 : Int32)), .val (.int (3 : Int32)), .val (.ref b1), .unset, .unset] [(.int (3 : Int32)), (.int (0 : Int32)), (.ref b1), (.int (0 : Int32)), (.ref a)])) rfl (by rw [hml]; rfl) [(.ref a), (.int (0 : Int32)), (.ref b1), (.int (0 : Int32)), (.int (3 : Int32))] [] (lenOf pd___CI_BII_I rfl) rfl rfl (by show 2 * 0 + _ ≤ _; exact Nat.le_of_eq rfl) (hb hby d14_9) (by decide) (by decide) (by decide) (by decide) ?_
  intro v2 T2 L2 X2 q2
  obtain ⟨rfl, Nq2, Kq2, Vq2⟩ := q2
  have N2 := Fr.app N0 Nq2
  have Va := Va.keep Kq2 (ninS ne_a_b1 nin0)
  have A1 := A1.keep Kq2
  have Kp := Kp.trans Kq2 (allS (Or.inr sz_b1) all0)
  have O0 := O0.keep Kq2 (allS g_b1 all0)
  show Goes p e below _ T2 (mkF m 12 #[.val (.ref a), .val (.int (0 : Int32)), .val (.int (3 : Int32)), .val (.ref b1), .unset, .unset] [(.int (2 : Int32))])
  refine Goes.of (fun _ => XS.istore X2.here hx rfl (hb hby d14_12) rfl (l' := #[.val (.ref a), .val (.int (0 : Int32)), .val (.int (3 : Int32)), .val (.ref b1), .val (.int (2 : Int32)), .unset]) rfl) ?_
  show Goes p e below _ T2 (mkF m 14 #[.val (.ref a), .val (.int (0 : Int32)), .val (.int (3 : Int32)), .val (.ref b1), .val (.int (2 : Int32)), .unset] [])
  refine Goes.of (fun _ => XS.iload X2.here hx rfl (hb hby d14_14) rfl) ?_
  show Goes p e below _ T2 (mkF m 16 #[.val (.ref a), .val (.int (0 : Int32)), .val (.int (3 : Int32)), .val (.ref b1), .val (.int (2 : Int32)), .unset] [(.int (2 : Int32))])
  refine Goes.of (fun _ => XS.iloadN X2.here hx rfl (hb hby d14_16) rfl) ?_
  show Goes p e below _ T2 (mkF m 17 #[.val (.ref a), .val (.int (0 : Int32)), .val (.int (3 : Int32)), .val (.ref b1), .val (.int (2 : Int32)), .unset] [(.int (3 : Int32)), (.int (2 : Int32))])
  refine Goes.of (fun _ => XS.icmpNo X2.here hx rfl (hb hby d14_17) rfl (feq (by decide)).1) ?_
  show Goes p e below _ T2 (mkF m 20 #[.val (.ref a), .val (.int (0 : Int32)), .val (.int (3 : Int32)), .val (.ref b1), .val (.int (2 : Int32)), .unset] [])
  refine Goes.of (fun _ => XS.aloadN X2.here hx rfl (hb hby d14_20) rfl rfl) ?_
  show Goes p e below _ T2 (mkF m 21 #[.val (.ref a), .val (.int (0 : Int32)), .val (.int (3 : Int32)), .val (.ref b1), .val (.int (2 : Int32)), .unset] [(.ref a)])
  refine Goes.of (fun _ => XS.iloadN X2.here hx rfl (hb hby d14_21) rfl) ?_
  show Goes p e below _ T2 (mkF m 22 #[.val (.ref a), .val (.int (0 : Int32)), .val (.int (3 : Int32)), .val (.ref b1), .val (.int (2 : Int32)), .unset] [(.int (0 : Int32)), (.ref a)])
  refine Goes.of (fun _ => XS.iloadN X2.here hx rfl (hb hby d14_22) rfl) ?_
  show Goes p e below _ T2 (mkF m 23 #[.val (.ref a), .val (.int (0 : Int32)), .val (.int (3 : Int32)), .val (.ref b1), .val (.int (2 : Int32)), .unset] [(.int (3 : Int32)), (.int (0 : Int32)), (.ref a)])
  refine goStatic 0 X2 hx hZ hown (hw _ (List.mem_of_getElem? (i := 138) rfl)) (hw _ (List.mem_of_getElem? (i := 139) rfl)) (hw _ (List.mem_of_getElem? (i := 97) rfl)) (hw _ (List.mem_of_getElem? (i := 140) rfl)) (by decide) (rm_tob3_3 l Z a0 hw a _ c0 c1 c2 T2.heap n0 O0 Sa Sh Sl Va) (rfl : T2.heap = _) (g := (mkF m 23 #[.val (.ref a), .val (.int (0 : Int32)), .val (.int (3 : Int32)), .val (.ref b1), .val (.int (2 : Int32)), .unset] [(.int (3 : Int32)), (.int (0 : Int32)), (.ref a)])) rfl (by rw [hml]; rfl) [(.ref a), (.int (0 : Int32)), (.int (3 : Int32))] [] (lenOf pd___CII__B rfl) rfl rfl (by show 2 * 0 + _ ≤ _; exact Nat.le_of_eq rfl) (hb hby d14_23) (by decide) (by decide) (by decide) (by decide) ?_
  intro v3 T3 L3 X3 q3
  obtain ⟨tb3, kt3, rfl, Nq3, Kq3, gq3, sq3, Vt3⟩ := q3
  have N3 := Fr.app N2 Nq3
  have g_tb3 : n0 ≤ tb3 := gq3
  have sz_tb3 : h0.size ≤ tb3 := Nat.le_trans Kp.1 sq3
  have ne_a_tb3 : a ≠ tb3 := Nat.ne_of_lt (Nat.lt_of_lt_of_le Va.lt sq3)
  have ne_b1_tb3 : b1 ≠ tb3 := Nat.ne_of_lt (Nat.lt_of_lt_of_le A1.lt sq3)
  have Va := Va.keep Kq3 nin0
  have A1 := A1.keep Kq3
  have Vq2 := Vq2.keep Kq3 nin0
  have Kp := Kp.trans Kq3 all0
  have O0 := O0.keep Kq3 all0
  show Goes p e below _ T3 (mkF m 26 #[.val (.ref a), .val (.int (0 : Int32)), .val (.int (3 : Int32)), .val (.ref b1), .val (.int (2 : Int32)), .unset] [(.ref tb3)])
  refine Goes.of (fun _ => XS.astore X3.here hx rfl (hb hby d14_26) rfl rfl (l' := #[.val (.ref a), .val (.int (0 : Int32)), .val (.int (3 : Int32)), .val (.ref b1), .val (.int (2 : Int32)), .val (.ref tb3)]) rfl) ?_
  show Goes p e below _ T3 (mkF m 28 #[.val (.ref a), .val (.int (0 : Int32)), .val (.int (3 : Int32)), .val (.ref b1), .val (.int (2 : Int32)), .val (.ref tb3)] [])
  refine Goes.of (fun _ => XS.aload X3.here hx rfl (hb hby d14_28) rfl rfl) ?_
  show Goes p e below _ T3 (mkF m 30 #[.val (.ref a), .val (.int (0 : Int32)), .val (.int (3 : Int32)), .val (.ref b1), .val (.int (2 : Int32)), .val (.ref tb3)] [(.ref tb3)])
  refine Goes.of (fun _ => XS.iload X3.here hx rfl (hb hby d14_30) rfl) ?_
  show Goes p e below _ T3 (mkF m 32 #[.val (.ref a), .val (.int (0 : Int32)), .val (.int (3 : Int32)), .val (.ref b1), .val (.int (2 : Int32)), .val (.ref tb3)] [(.int (2 : Int32)), (.ref tb3)])
  refine goStatic 0 X3 hx hZ hown (hw _ (List.mem_of_getElem? (i := 148) rfl)) (hw _ (List.mem_of_getElem? (i := 149) rfl)) (hw _ (List.mem_of_getElem? (i := 97) rfl)) (hw _ (List.mem_of_getElem? (i := 150) rfl)) (by decide) (rm_get6_2 l Z a0 hw tb3 _ (nar .byte ((c0 >>> ((0 : Int32) &&& 31)).toInt8.toInt32)) (nar .byte ((c0 >>> ((8 : Int32) &&& 31)).toInt8.toInt32)) (nar .byte ((c1 >>> ((0 : Int32) &&& 31)).toInt8.toInt32)) (nar .byte ((c1 >>> ((8 : Int32) &&& 31)).toInt8.toInt32)) (nar .byte ((c2 >>> ((0 : Int32) &&& 31)).toInt8.toInt32)) (nar .byte ((c2 >>> ((8 : Int32) &&& 31)).toInt8.toInt32)) T3.heap n0 O0 Sa Sh Sl Vt3) (rfl : T3.heap = _) (g := (mkF m 32 #[.val (.ref a), .val (.int (0 : Int32)), .val (.int (3 : Int32)), .val (.ref b1), .val (.int (2 : Int32)), .val (.ref tb3)] [(.int (2 : Int32)), (.ref tb3)])) rfl (by rw [hml]; rfl) [(.ref tb3), (.int (2 : Int32))] [] (lenOf pd___BI_C rfl) rfl rfl (by show 2 * 0 + _ ≤ _; exact Nat.le_of_eq rfl) (hb hby d14_32) (by decide) (by decide) (by decide) (by decide) ?_
  intro v4 T4 L4 X4 q4
  obtain ⟨rfl, Nq4, eT4⟩ := q4
  have N4 := Fr.app N3 Nq4
  show Goes p e below _ T4 (mkF m 35 #[.val (.ref a), .val (.int (0 : Int32)), .val (.int (3 : Int32)), .val (.ref b1), .val (.int (2 : Int32)), .val (.ref tb3)] [(.int (nar .char (((((nar .byte ((c2 >>> ((0 : Int32) &&& 31)).toInt8.toInt32)) &&& (255 : Int32)) <<< ((0 : Int32) &&& 31)) ||| (((nar .byte ((c2 >>> ((8 : Int32) &&& 31)).toInt8.toInt32)) &&& (255 : Int32)) <<< ((8 : Int32) &&& 31))).toUInt32.toUInt16.toUInt32.toInt32)))])
  refine Goes.of (fun _ => XS.sipush X4.here hx rfl (hb hby d14_35)) ?_
  show Goes p e below _ T4 (mkF m 38 #[.val (.ref a), .val (.int (0 : Int32)), .val (.int (3 : Int32)), .val (.ref b1), .val (.int (2 : Int32)), .val (.ref tb3)] [(.int (255 : Int32)), (.int (nar .char (((((nar .byte ((c2 >>> ((0 : Int32) &&& 31)).toInt8.toInt32)) &&& (255 : Int32)) <<< ((0 : Int32) &&& 31)) ||| (((nar .byte ((c2 >>> ((8 : Int32) &&& 31)).toInt8.toInt32)) &&& (255 : Int32)) <<< ((8 : Int32) &&& 31))).toUInt32.toUInt16.toUInt32.toInt32)))])
  refine Goes.of (fun _ => XS.icmpYes X4.here hx rfl (pc0 := 38) (pc' := 54) rfl (hb hby d14_38) rfl (tlt (by rw [getc c2 hbd2]; exact hk2)).2.2.1 (by decide) (by decide)) ?_
  show Goes p e below _ T4 (mkF m 54 #[.val (.ref a), .val (.int (0 : Int32)), .val (.int (3 : Int32)), .val (.ref b1), .val (.int (2 : Int32)), .val (.ref tb3)] [])
  refine Goes.of (fun _ => XS.aload X4.here hx rfl (hb hby d14_54) rfl rfl) ?_
  show Goes p e below _ T4 (mkF m 56 #[.val (.ref a), .val (.int (0 : Int32)), .val (.int (3 : Int32)), .val (.ref b1), .val (.int (2 : Int32)), .val (.ref tb3)] [(.ref tb3)])
  exact retRef X4 hx hret hlk rfl rfl (hb hby d14_56) eT4 (by decide) (by decide) ⟨tb3, _, rfl, N4, Kp, g_tb3, sz_tb3, Vt3⟩
set_option maxRecDepth 65536 in
set_option maxHeartbeats 40000000 in
theorem rm_comp5_3_3 (l : Launch) (Z : State) (a0 : Array Value) (hw : ∀ d ∈ tables_1, d.before a0 Z = true) (a b : Addr) (ka kb : ClassId) (c0 c1 c2 : Int32) (h0 : Heap) (n0 : Nat) (O0 : Old Z n0 h0) (g_b : n0 ≤ b) (hab : a ≠ b) (Va : Arv Z h0 a ka .char (3 : Int32) [(.int c0), (.int c1), (.int c2)] (.int (0 : Int32))) (Vb : Arv Z h0 b kb .byte (3 : Int32) [(.int (0 : Int32)), (.int (0 : Int32)), (.int (0 : Int32))] (.int (0 : Int32))) (hk0 : ¬ (255 : Int32) < c0) (hk1 : ¬ (255 : Int32) < c1) (hk2 : ¬ (255 : Int32) < c2) :
    Rm l (⟨"java/lang/StringUTF16", "compress", "([CI[BII)I"⟩ : MethodName) jdk_52_method_21_code 7 (some .int) ({ frames := 0, cells := 0, slots := 0, locals := 0 } : Room) [] Z #[(.ref a), (.int (0 : Int32)), (.ref b), (.int (0 : Int32)), (.int (3 : Int32))] h0 (fun v h L => v = some (.int (3 : Int32)) ∧ Fr n0 L ∧ Keep h0 h [b] ∧ Arv Z h b kb .byte (3 : Int32) [(.int (nar .byte (c0.toInt8.toInt32))), (.int (nar .byte (c1.toInt8.toInt32))), (.int (nar .byte (c2.toInt8.toInt32)))] (.int (0 : Int32))) := by
  refine Rm.of (plainFor_of_name pn_java_lang_StringUTF16) ?_
  intro p e s m below meth cod T X hx hZ hby hml hown hnm hret hlk eT0
  have hown : s.vm.findClass "java/lang/StringUTF16" = some m.cls := hown
  have hnm : meth.name = "compress" := hnm
  have N0 := Fr.nil n0
  have Kp := Keep.refl h0 [b]
  refine Goes.cast (ef_15 m a (0 : Int32) b (0 : Int32) (3 : Int32)) ?_
  show Goes p e below _ T (mkF m 0 #[.val (.ref a), .val (.int (0 : Int32)), .val (.ref b), .val (.int (0 : Int32)), .val (.int (3 : Int32)), .unset, .unset] [])
  refine Goes.of (fun _ => XS.iconst X.here hx rfl (hb hby d15_0)) ?_
  show Goes p e below _ T (mkF m 1 #[.val (.ref a), .val (.int (0 : Int32)), .val (.ref b), .val (.int (0 : Int32)), .val (.int (3 : Int32)), .unset, .unset] [(.int (0 : Int32))])
  refine Goes.of (fun _ => XS.istore X.here hx rfl (hb hby d15_1) rfl (l' := #[.val (.ref a), .val (.int (0 : Int32)), .val (.ref b), .val (.int (0 : Int32)), .val (.int (3 : Int32)), .val (.int (0 : Int32)), .unset]) rfl) ?_
  show Goes p e below _ T (mkF m 3 #[.val (.ref a), .val (.int (0 : Int32)), .val (.ref b), .val (.int (0 : Int32)), .val (.int (3 : Int32)), .val (.int (0 : Int32)), .unset] [])
  refine Goes.of (fun _ => XS.iload X.here hx rfl (hb hby d15_3) rfl) ?_
  show Goes p e below _ T (mkF m 5 #[.val (.ref a), .val (.int (0 : Int32)), .val (.ref b), .val (.int (0 : Int32)), .val (.int (3 : Int32)), .val (.int (0 : Int32)), .unset] [(.int (0 : Int32))])
  refine Goes.of (fun _ => XS.iload X.here hx rfl (hb hby d15_5) rfl) ?_
  show Goes p e below _ T (mkF m 7 #[.val (.ref a), .val (.int (0 : Int32)), .val (.ref b), .val (.int (0 : Int32)), .val (.int (3 : Int32)), .val (.int (0 : Int32)), .unset] [(.int (3 : Int32)), (.int (0 : Int32))])
  refine Goes.of (fun _ => XS.icmpNo X.here hx rfl (hb hby d15_7) rfl (tlt (by decide)).2.1) ?_
  show Goes p e below _ T (mkF m 10 #[.val (.ref a), .val (.int (0 : Int32)), .val (.ref b), .val (.int (0 : Int32)), .val (.int (3 : Int32)), .val (.int (0 : Int32)), .unset] [])
  refine Goes.of (fun _ => XS.aloadN X.here hx rfl (hb hby d15_10) rfl rfl) ?_
  show Goes p e below _ T (mkF m 11 #[.val (.ref a), .val (.int (0 : Int32)), .val (.ref b), .val (.int (0 : Int32)), .val (.int (3 : Int32)), .val (.int (0 : Int32)), .unset] [(.ref a)])
  refine Goes.of (fun _ => XS.iloadN X.here hx rfl (hb hby d15_11) rfl) ?_
  show Goes p e below _ T (mkF m 12 #[.val (.ref a), .val (.int (0 : Int32)), .val (.ref b), .val (.int (0 : Int32)), .val (.int (3 : Int32)), .val (.int (0 : Int32)), .unset] [(.int (0 : Int32)), (.ref a)])
  refine goLdC (.int c0) X hx hZ eT0 Va (by decide) (by decide) rfl (g := (mkF m 12 #[.val (.ref a), .val (.int (0 : Int32)), .val (.ref b), .val (.int (0 : Int32)), .val (.int (3 : Int32)), .val (.int (0 : Int32)), .unset] [(.int (0 : Int32)), (.ref a)])) rfl rfl (hb hby d15_12) ?_
  show Goes p e below _ T (mkF m 13 #[.val (.ref a), .val (.int (0 : Int32)), .val (.ref b), .val (.int (0 : Int32)), .val (.int (3 : Int32)), .val (.int (0 : Int32)), .unset] [(.int c0)])
  refine Goes.of (fun _ => XS.istore X.here hx rfl (hb hby d15_13) rfl (l' := #[.val (.ref a), .val (.int (0 : Int32)), .val (.ref b), .val (.int (0 : Int32)), .val (.int (3 : Int32)), .val (.int (0 : Int32)), .val (.int c0)]) rfl) ?_
  show Goes p e below _ T (mkF m 15 #[.val (.ref a), .val (.int (0 : Int32)), .val (.ref b), .val (.int (0 : Int32)), .val (.int (3 : Int32)), .val (.int (0 : Int32)), .val (.int c0)] [])
  refine Goes.of (fun _ => XS.iload X.here hx rfl (hb hby d15_15) rfl) ?_
  show Goes p e below _ T (mkF m 17 #[.val (.ref a), .val (.int (0 : Int32)), .val (.ref b), .val (.int (0 : Int32)), .val (.int (3 : Int32)), .val (.int (0 : Int32)), .val (.int c0)] [(.int c0)])
  refine Goes.of (fun _ => XS.sipush X.here hx rfl (hb hby d15_17)) ?_
  show Goes p e below _ T (mkF m 20 #[.val (.ref a), .val (.int (0 : Int32)), .val (.ref b), .val (.int (0 : Int32)), .val (.int (3 : Int32)), .val (.int (0 : Int32)), .val (.int c0)] [(.int (255 : Int32)), (.int c0)])
  refine Goes.of (fun _ => XS.icmpYes X.here hx rfl (pc0 := 20) (pc' := 26) rfl (hb hby d15_20) rfl (flt hk0).2.2.2 (by decide) (by decide)) ?_
  show Goes p e below _ T (mkF m 26 #[.val (.ref a), .val (.int (0 : Int32)), .val (.ref b), .val (.int (0 : Int32)), .val (.int (3 : Int32)), .val (.int (0 : Int32)), .val (.int c0)] [])
  refine Goes.of (fun _ => XS.aloadN X.here hx rfl (hb hby d15_26) rfl rfl) ?_
  show Goes p e below _ T (mkF m 27 #[.val (.ref a), .val (.int (0 : Int32)), .val (.ref b), .val (.int (0 : Int32)), .val (.int (3 : Int32)), .val (.int (0 : Int32)), .val (.int c0)] [(.ref b)])
  refine Goes.of (fun _ => XS.iloadN X.here hx rfl (hb hby d15_27) rfl) ?_
  show Goes p e below _ T (mkF m 28 #[.val (.ref a), .val (.int (0 : Int32)), .val (.ref b), .val (.int (0 : Int32)), .val (.int (3 : Int32)), .val (.int (0 : Int32)), .val (.int c0)] [(.int (0 : Int32)), (.ref b)])
  refine Goes.of (fun _ => XS.iload X.here hx rfl (hb hby d15_28) rfl) ?_
  show Goes p e below _ T (mkF m 30 #[.val (.ref a), .val (.int (0 : Int32)), .val (.ref b), .val (.int (0 : Int32)), .val (.int (3 : Int32)), .val (.int (0 : Int32)), .val (.int c0)] [(.int c0), (.int (0 : Int32)), (.ref b)])
  refine Goes.of (fun _ => XS.i2b X.here hx rfl (hb hby d15_30) rfl) ?_
  show Goes p e below _ T (mkF m 31 #[.val (.ref a), .val (.int (0 : Int32)), .val (.ref b), .val (.int (0 : Int32)), .val (.int (3 : Int32)), .val (.int (0 : Int32)), .val (.int c0)] [(.int (c0.toInt8.toInt32)), (.int (0 : Int32)), (.ref b)])
  refine goStB 0 X hx hZ eT0 Vb (by decide) (by decide) rfl (Nat.lt_of_lt_of_le (Nat.lt_succ_self _) (Nat.le_of_ble_eq_true rfl)) (g := (mkF m 31 #[.val (.ref a), .val (.int (0 : Int32)), .val (.ref b), .val (.int (0 : Int32)), .val (.int (3 : Int32)), .val (.int (0 : Int32)), .val (.int c0)] [(.int (c0.toInt8.toInt32)), (.int (0 : Int32)), (.ref b)])) rfl rfl (hb hby d15_31) ?_
  intro T2 h2 X2 eT2 W2 Vb
  have N2 := Fr.snoc X2 N0 g_b
  have Va := Va.other W2 hab
  have Kp := Kp.wr W2 (Or.inl (List.mem_of_getElem? (i := 0) rfl))
  have O0 := O0.wr W2 g_b
  have Vb : Arv Z h2 b kb .byte (3 : Int32) [(.int (nar .byte (c0.toInt8.toInt32))), (.int (0 : Int32)), (.int (0 : Int32))] (.int (0 : Int32)) := Vb
  show Goes p e below _ T2 (mkF m 32 #[.val (.ref a), .val (.int (0 : Int32)), .val (.ref b), .val (.int (0 : Int32)), .val (.int (3 : Int32)), .val (.int (0 : Int32)), .val (.int c0)] [])
  refine Goes.of (fun _ => XS.iinc X2.here hx rfl (hb hby d15_32) rfl (l' := #[.val (.ref a), .val (.int (1 : Int32)), .val (.ref b), .val (.int (0 : Int32)), .val (.int (3 : Int32)), .val (.int (0 : Int32)), .val (.int c0)]) rfl) ?_
  show Goes p e below _ T2 (mkF m 35 #[.val (.ref a), .val (.int (1 : Int32)), .val (.ref b), .val (.int (0 : Int32)), .val (.int (3 : Int32)), .val (.int (0 : Int32)), .val (.int c0)] [])
  refine Goes.of (fun _ => XS.iinc X2.here hx rfl (hb hby d15_35) rfl (l' := #[.val (.ref a), .val (.int (1 : Int32)), .val (.ref b), .val (.int (1 : Int32)), .val (.int (3 : Int32)), .val (.int (0 : Int32)), .val (.int c0)]) rfl) ?_
  show Goes p e below _ T2 (mkF m 38 #[.val (.ref a), .val (.int (1 : Int32)), .val (.ref b), .val (.int (1 : Int32)), .val (.int (3 : Int32)), .val (.int (0 : Int32)), .val (.int c0)] [])
  refine Goes.of (fun _ => XS.iinc X2.here hx rfl (hb hby d15_38) rfl (l' := #[.val (.ref a), .val (.int (1 : Int32)), .val (.ref b), .val (.int (1 : Int32)), .val (.int (3 : Int32)), .val (.int (1 : Int32)), .val (.int c0)]) rfl) ?_
  show Goes p e below _ T2 (mkF m 41 #[.val (.ref a), .val (.int (1 : Int32)), .val (.ref b), .val (.int (1 : Int32)), .val (.int (3 : Int32)), .val (.int (1 : Int32)), .val (.int c0)] [])
  refine Goes.of (fun _ => XS.goto X2.here hx rfl (pc0 := 41) (pc' := 3) rfl (hb hby d15_41) (by decide) (by decide)) ?_
  show Goes p e below _ T2 (mkF m 3 #[.val (.ref a), .val (.int (1 : Int32)), .val (.ref b), .val (.int (1 : Int32)), .val (.int (3 : Int32)), .val (.int (1 : Int32)), .val (.int c0)] [])
  refine Goes.of (fun _ => XS.iload X2.here hx rfl (hb hby d15_3) rfl) ?_
  show Goes p e below _ T2 (mkF m 5 #[.val (.ref a), .val (.int (1 : Int32)), .val (.ref b), .val (.int (1 : Int32)), .val (.int (3 : Int32)), .val (.int (1 : Int32)), .val (.int c0)] [(.int (1 : Int32))])
  refine Goes.of (fun _ => XS.iload X2.here hx rfl (hb hby d15_5) rfl) ?_
  show Goes p e below _ T2 (mkF m 7 #[.val (.ref a), .val (.int (1 : Int32)), .val (.ref b), .val (.int (1 : Int32)), .val (.int (3 : Int32)), .val (.int (1 : Int32)), .val (.int c0)] [(.int (3 : Int32)), (.int (1 : Int32))])
  refine Goes.of (fun _ => XS.icmpNo X2.here hx rfl (hb hby d15_7) rfl (tlt (by decide)).2.1) ?_
  show Goes p e below _ T2 (mkF m 10 #[.val (.ref a), .val (.int (1 : Int32)), .val (.ref b), .val (.int (1 : Int32)), .val (.int (3 : Int32)), .val (.int (1 : Int32)), .val (.int c0)] [])
  refine Goes.of (fun _ => XS.aloadN X2.here hx rfl (hb hby d15_10) rfl rfl) ?_
  show Goes p e below _ T2 (mkF m 11 #[.val (.ref a), .val (.int (1 : Int32)), .val (.ref b), .val (.int (1 : Int32)), .val (.int (3 : Int32)), .val (.int (1 : Int32)), .val (.int c0)] [(.ref a)])
  refine Goes.of (fun _ => XS.iloadN X2.here hx rfl (hb hby d15_11) rfl) ?_
  show Goes p e below _ T2 (mkF m 12 #[.val (.ref a), .val (.int (1 : Int32)), .val (.ref b), .val (.int (1 : Int32)), .val (.int (3 : Int32)), .val (.int (1 : Int32)), .val (.int c0)] [(.int (1 : Int32)), (.ref a)])
  refine goLdC (.int c1) X2 hx hZ eT2 Va (by decide) (by decide) rfl (g := (mkF m 12 #[.val (.ref a), .val (.int (1 : Int32)), .val (.ref b), .val (.int (1 : Int32)), .val (.int (3 : Int32)), .val (.int (1 : Int32)), .val (.int c0)] [(.int (1 : Int32)), (.ref a)])) rfl rfl (hb hby d15_12) ?_
  show Goes p e below _ T2 (mkF m 13 #[.val (.ref a), .val (.int (1 : Int32)), .val (.ref b), .val (.int (1 : Int32)), .val (.int (3 : Int32)), .val (.int (1 : Int32)), .val (.int c0)] [(.int c1)])
  refine Goes.of (fun _ => XS.istore X2.here hx rfl (hb hby d15_13) rfl (l' := #[.val (.ref a), .val (.int (1 : Int32)), .val (.ref b), .val (.int (1 : Int32)), .val (.int (3 : Int32)), .val (.int (1 : Int32)), .val (.int c1)]) rfl) ?_
  show Goes p e below _ T2 (mkF m 15 #[.val (.ref a), .val (.int (1 : Int32)), .val (.ref b), .val (.int (1 : Int32)), .val (.int (3 : Int32)), .val (.int (1 : Int32)), .val (.int c1)] [])
  refine Goes.of (fun _ => XS.iload X2.here hx rfl (hb hby d15_15) rfl) ?_
  show Goes p e below _ T2 (mkF m 17 #[.val (.ref a), .val (.int (1 : Int32)), .val (.ref b), .val (.int (1 : Int32)), .val (.int (3 : Int32)), .val (.int (1 : Int32)), .val (.int c1)] [(.int c1)])
  refine Goes.of (fun _ => XS.sipush X2.here hx rfl (hb hby d15_17)) ?_
  show Goes p e below _ T2 (mkF m 20 #[.val (.ref a), .val (.int (1 : Int32)), .val (.ref b), .val (.int (1 : Int32)), .val (.int (3 : Int32)), .val (.int (1 : Int32)), .val (.int c1)] [(.int (255 : Int32)), (.int c1)])
  refine Goes.of (fun _ => XS.icmpYes X2.here hx rfl (pc0 := 20) (pc' := 26) rfl (hb hby d15_20) rfl (flt hk1).2.2.2 (by decide) (by decide)) ?_
  show Goes p e below _ T2 (mkF m 26 #[.val (.ref a), .val (.int (1 : Int32)), .val (.ref b), .val (.int (1 : Int32)), .val (.int (3 : Int32)), .val (.int (1 : Int32)), .val (.int c1)] [])
  refine Goes.of (fun _ => XS.aloadN X2.here hx rfl (hb hby d15_26) rfl rfl) ?_
  show Goes p e below _ T2 (mkF m 27 #[.val (.ref a), .val (.int (1 : Int32)), .val (.ref b), .val (.int (1 : Int32)), .val (.int (3 : Int32)), .val (.int (1 : Int32)), .val (.int c1)] [(.ref b)])
  refine Goes.of (fun _ => XS.iloadN X2.here hx rfl (hb hby d15_27) rfl) ?_
  show Goes p e below _ T2 (mkF m 28 #[.val (.ref a), .val (.int (1 : Int32)), .val (.ref b), .val (.int (1 : Int32)), .val (.int (3 : Int32)), .val (.int (1 : Int32)), .val (.int c1)] [(.int (1 : Int32)), (.ref b)])
  refine Goes.of (fun _ => XS.iload X2.here hx rfl (hb hby d15_28) rfl) ?_
  show Goes p e below _ T2 (mkF m 30 #[.val (.ref a), .val (.int (1 : Int32)), .val (.ref b), .val (.int (1 : Int32)), .val (.int (3 : Int32)), .val (.int (1 : Int32)), .val (.int c1)] [(.int c1), (.int (1 : Int32)), (.ref b)])
  refine Goes.of (fun _ => XS.i2b X2.here hx rfl (hb hby d15_30) rfl) ?_
  show Goes p e below _ T2 (mkF m 31 #[.val (.ref a), .val (.int (1 : Int32)), .val (.ref b), .val (.int (1 : Int32)), .val (.int (3 : Int32)), .val (.int (1 : Int32)), .val (.int c1)] [(.int (c1.toInt8.toInt32)), (.int (1 : Int32)), (.ref b)])
  refine goStB 1 X2 hx hZ eT2 Vb (by decide) (by decide) rfl (Nat.lt_of_lt_of_le (Nat.lt_succ_self _) (Nat.le_of_ble_eq_true rfl)) (g := (mkF m 31 #[.val (.ref a), .val (.int (1 : Int32)), .val (.ref b), .val (.int (1 : Int32)), .val (.int (3 : Int32)), .val (.int (1 : Int32)), .val (.int c1)] [(.int (c1.toInt8.toInt32)), (.int (1 : Int32)), (.ref b)])) rfl rfl (hb hby d15_31) ?_
  intro T4 h4 X4 eT4 W4 Vb
  have N4 := Fr.snoc X4 N2 g_b
  have Va := Va.other W4 hab
  have Kp := Kp.wr W4 (Or.inl (List.mem_of_getElem? (i := 0) rfl))
  have O0 := O0.wr W4 g_b
  have Vb : Arv Z h4 b kb .byte (3 : Int32) [(.int (nar .byte (c0.toInt8.toInt32))), (.int (nar .byte (c1.toInt8.toInt32))), (.int (0 : Int32))] (.int (0 : Int32)) := Vb
  show Goes p e below _ T4 (mkF m 32 #[.val (.ref a), .val (.int (1 : Int32)), .val (.ref b), .val (.int (1 : Int32)), .val (.int (3 : Int32)), .val (.int (1 : Int32)), .val (.int c1)] [])
  refine Goes.of (fun _ => XS.iinc X4.here hx rfl (hb hby d15_32) rfl (l' := #[.val (.ref a), .val (.int (2 : Int32)), .val (.ref b), .val (.int (1 : Int32)), .val (.int (3 : Int32)), .val (.int (1 : Int32)), .val (.int c1)]) rfl) ?_
  show Goes p e below _ T4 (mkF m 35 #[.val (.ref a), .val (.int (2 : Int32)), .val (.ref b), .val (.int (1 : Int32)), .val (.int (3 : Int32)), .val (.int (1 : Int32)), .val (.int c1)] [])
  refine Goes.of (fun _ => XS.iinc X4.here hx rfl (hb hby d15_35) rfl (l' := #[.val (.ref a), .val (.int (2 : Int32)), .val (.ref b), .val (.int (2 : Int32)), .val (.int (3 : Int32)), .val (.int (1 : Int32)), .val (.int c1)]) rfl) ?_
  show Goes p e below _ T4 (mkF m 38 #[.val (.ref a), .val (.int (2 : Int32)), .val (.ref b), .val (.int (2 : Int32)), .val (.int (3 : Int32)), .val (.int (1 : Int32)), .val (.int c1)] [])
  refine Goes.of (fun _ => XS.iinc X4.here hx rfl (hb hby d15_38) rfl (l' := #[.val (.ref a), .val (.int (2 : Int32)), .val (.ref b), .val (.int (2 : Int32)), .val (.int (3 : Int32)), .val (.int (2 : Int32)), .val (.int c1)]) rfl) ?_
  show Goes p e below _ T4 (mkF m 41 #[.val (.ref a), .val (.int (2 : Int32)), .val (.ref b), .val (.int (2 : Int32)), .val (.int (3 : Int32)), .val (.int (2 : Int32)), .val (.int c1)] [])
  refine Goes.of (fun _ => XS.goto X4.here hx rfl (pc0 := 41) (pc' := 3) rfl (hb hby d15_41) (by decide) (by decide)) ?_
  show Goes p e below _ T4 (mkF m 3 #[.val (.ref a), .val (.int (2 : Int32)), .val (.ref b), .val (.int (2 : Int32)), .val (.int (3 : Int32)), .val (.int (2 : Int32)), .val (.int c1)] [])
  refine Goes.of (fun _ => XS.iload X4.here hx rfl (hb hby d15_3) rfl) ?_
  show Goes p e below _ T4 (mkF m 5 #[.val (.ref a), .val (.int (2 : Int32)), .val (.ref b), .val (.int (2 : Int32)), .val (.int (3 : Int32)), .val (.int (2 : Int32)), .val (.int c1)] [(.int (2 : Int32))])
  refine Goes.of (fun _ => XS.iload X4.here hx rfl (hb hby d15_5) rfl) ?_
  show Goes p e below _ T4 (mkF m 7 #[.val (.ref a), .val (.int (2 : Int32)), .val (.ref b), .val (.int (2 : Int32)), .val (.int (3 : Int32)), .val (.int (2 : Int32)), .val (.int c1)] [(.int (3 : Int32)), (.int (2 : Int32))])
  refine Goes.of (fun _ => XS.icmpNo X4.here hx rfl (hb hby d15_7) rfl (tlt (by decide)).2.1) ?_
  show Goes p e below _ T4 (mkF m 10 #[.val (.ref a), .val (.int (2 : Int32)), .val (.ref b), .val (.int (2 : Int32)), .val (.int (3 : Int32)), .val (.int (2 : Int32)), .val (.int c1)] [])
  refine Goes.of (fun _ => XS.aloadN X4.here hx rfl (hb hby d15_10) rfl rfl) ?_
  show Goes p e below _ T4 (mkF m 11 #[.val (.ref a), .val (.int (2 : Int32)), .val (.ref b), .val (.int (2 : Int32)), .val (.int (3 : Int32)), .val (.int (2 : Int32)), .val (.int c1)] [(.ref a)])
  refine Goes.of (fun _ => XS.iloadN X4.here hx rfl (hb hby d15_11) rfl) ?_
  show Goes p e below _ T4 (mkF m 12 #[.val (.ref a), .val (.int (2 : Int32)), .val (.ref b), .val (.int (2 : Int32)), .val (.int (3 : Int32)), .val (.int (2 : Int32)), .val (.int c1)] [(.int (2 : Int32)), (.ref a)])
  refine goLdC (.int c2) X4 hx hZ eT4 Va (by decide) (by decide) rfl (g := (mkF m 12 #[.val (.ref a), .val (.int (2 : Int32)), .val (.ref b), .val (.int (2 : Int32)), .val (.int (3 : Int32)), .val (.int (2 : Int32)), .val (.int c1)] [(.int (2 : Int32)), (.ref a)])) rfl rfl (hb hby d15_12) ?_
  show Goes p e below _ T4 (mkF m 13 #[.val (.ref a), .val (.int (2 : Int32)), .val (.ref b), .val (.int (2 : Int32)), .val (.int (3 : Int32)), .val (.int (2 : Int32)), .val (.int c1)] [(.int c2)])
  refine Goes.of (fun _ => XS.istore X4.here hx rfl (hb hby d15_13) rfl (l' := #[.val (.ref a), .val (.int (2 : Int32)), .val (.ref b), .val (.int (2 : Int32)), .val (.int (3 : Int32)), .val (.int (2 : Int32)), .val (.int c2)]) rfl) ?_
  show Goes p e below _ T4 (mkF m 15 #[.val (.ref a), .val (.int (2 : Int32)), .val (.ref b), .val (.int (2 : Int32)), .val (.int (3 : Int32)), .val (.int (2 : Int32)), .val (.int c2)] [])
  refine Goes.of (fun _ => XS.iload X4.here hx rfl (hb hby d15_15) rfl) ?_
  show Goes p e below _ T4 (mkF m 17 #[.val (.ref a), .val (.int (2 : Int32)), .val (.ref b), .val (.int (2 : Int32)), .val (.int (3 : Int32)), .val (.int (2 : Int32)), .val (.int c2)] [(.int c2)])
  refine Goes.of (fun _ => XS.sipush X4.here hx rfl (hb hby d15_17)) ?_
  show Goes p e below _ T4 (mkF m 20 #[.val (.ref a), .val (.int (2 : Int32)), .val (.ref b), .val (.int (2 : Int32)), .val (.int (3 : Int32)), .val (.int (2 : Int32)), .val (.int c2)] [(.int (255 : Int32)), (.int c2)])
  refine Goes.of (fun _ => XS.icmpYes X4.here hx rfl (pc0 := 20) (pc' := 26) rfl (hb hby d15_20) rfl (flt hk2).2.2.2 (by decide) (by decide)) ?_
  show Goes p e below _ T4 (mkF m 26 #[.val (.ref a), .val (.int (2 : Int32)), .val (.ref b), .val (.int (2 : Int32)), .val (.int (3 : Int32)), .val (.int (2 : Int32)), .val (.int c2)] [])
  refine Goes.of (fun _ => XS.aloadN X4.here hx rfl (hb hby d15_26) rfl rfl) ?_
  show Goes p e below _ T4 (mkF m 27 #[.val (.ref a), .val (.int (2 : Int32)), .val (.ref b), .val (.int (2 : Int32)), .val (.int (3 : Int32)), .val (.int (2 : Int32)), .val (.int c2)] [(.ref b)])
  refine Goes.of (fun _ => XS.iloadN X4.here hx rfl (hb hby d15_27) rfl) ?_
  show Goes p e below _ T4 (mkF m 28 #[.val (.ref a), .val (.int (2 : Int32)), .val (.ref b), .val (.int (2 : Int32)), .val (.int (3 : Int32)), .val (.int (2 : Int32)), .val (.int c2)] [(.int (2 : Int32)), (.ref b)])
  refine Goes.of (fun _ => XS.iload X4.here hx rfl (hb hby d15_28) rfl) ?_
  show Goes p e below _ T4 (mkF m 30 #[.val (.ref a), .val (.int (2 : Int32)), .val (.ref b), .val (.int (2 : Int32)), .val (.int (3 : Int32)), .val (.int (2 : Int32)), .val (.int c2)] [(.int c2), (.int (2 : Int32)), (.ref b)])
  refine Goes.of (fun _ => XS.i2b X4.here hx rfl (hb hby d15_30) rfl) ?_
  show Goes p e below _ T4 (mkF m 31 #[.val (.ref a), .val (.int (2 : Int32)), .val (.ref b), .val (.int (2 : Int32)), .val (.int (3 : Int32)), .val (.int (2 : Int32)), .val (.int c2)] [(.int (c2.toInt8.toInt32)), (.int (2 : Int32)), (.ref b)])
  refine goStB 2 X4 hx hZ eT4 Vb (by decide) (by decide) rfl (Nat.lt_of_lt_of_le (Nat.lt_succ_self _) (Nat.le_of_ble_eq_true rfl)) (g := (mkF m 31 #[.val (.ref a), .val (.int (2 : Int32)), .val (.ref b), .val (.int (2 : Int32)), .val (.int (3 : Int32)), .val (.int (2 : Int32)), .val (.int c2)] [(.int (c2.toInt8.toInt32)), (.int (2 : Int32)), (.ref b)])) rfl rfl (hb hby d15_31) ?_
  intro T6 h6 X6 eT6 W6 Vb
  have N6 := Fr.snoc X6 N4 g_b
  have Va := Va.other W6 hab
  have Kp := Kp.wr W6 (Or.inl (List.mem_of_getElem? (i := 0) rfl))
  have O0 := O0.wr W6 g_b
  have Vb : Arv Z h6 b kb .byte (3 : Int32) [(.int (nar .byte (c0.toInt8.toInt32))), (.int (nar .byte (c1.toInt8.toInt32))), (.int (nar .byte (c2.toInt8.toInt32)))] (.int (0 : Int32)) := Vb
  show Goes p e below _ T6 (mkF m 32 #[.val (.ref a), .val (.int (2 : Int32)), .val (.ref b), .val (.int (2 : Int32)), .val (.int (3 : Int32)), .val (.int (2 : Int32)), .val (.int c2)] [])
  refine Goes.of (fun _ => XS.iinc X6.here hx rfl (hb hby d15_32) rfl (l' := #[.val (.ref a), .val (.int (3 : Int32)), .val (.ref b), .val (.int (2 : Int32)), .val (.int (3 : Int32)), .val (.int (2 : Int32)), .val (.int c2)]) rfl) ?_
  show Goes p e below _ T6 (mkF m 35 #[.val (.ref a), .val (.int (3 : Int32)), .val (.ref b), .val (.int (2 : Int32)), .val (.int (3 : Int32)), .val (.int (2 : Int32)), .val (.int c2)] [])
  refine Goes.of (fun _ => XS.iinc X6.here hx rfl (hb hby d15_35) rfl (l' := #[.val (.ref a), .val (.int (3 : Int32)), .val (.ref b), .val (.int (3 : Int32)), .val (.int (3 : Int32)), .val (.int (2 : Int32)), .val (.int c2)]) rfl) ?_
  show Goes p e below _ T6 (mkF m 38 #[.val (.ref a), .val (.int (3 : Int32)), .val (.ref b), .val (.int (3 : Int32)), .val (.int (3 : Int32)), .val (.int (2 : Int32)), .val (.int c2)] [])
  refine Goes.of (fun _ => XS.iinc X6.here hx rfl (hb hby d15_38) rfl (l' := #[.val (.ref a), .val (.int (3 : Int32)), .val (.ref b), .val (.int (3 : Int32)), .val (.int (3 : Int32)), .val (.int (3 : Int32)), .val (.int c2)]) rfl) ?_
  show Goes p e below _ T6 (mkF m 41 #[.val (.ref a), .val (.int (3 : Int32)), .val (.ref b), .val (.int (3 : Int32)), .val (.int (3 : Int32)), .val (.int (3 : Int32)), .val (.int c2)] [])
  refine Goes.of (fun _ => XS.goto X6.here hx rfl (pc0 := 41) (pc' := 3) rfl (hb hby d15_41) (by decide) (by decide)) ?_
  show Goes p e below _ T6 (mkF m 3 #[.val (.ref a), .val (.int (3 : Int32)), .val (.ref b), .val (.int (3 : Int32)), .val (.int (3 : Int32)), .val (.int (3 : Int32)), .val (.int c2)] [])
  refine Goes.of (fun _ => XS.iload X6.here hx rfl (hb hby d15_3) rfl) ?_
  show Goes p e below _ T6 (mkF m 5 #[.val (.ref a), .val (.int (3 : Int32)), .val (.ref b), .val (.int (3 : Int32)), .val (.int (3 : Int32)), .val (.int (3 : Int32)), .val (.int c2)] [(.int (3 : Int32))])
  refine Goes.of (fun _ => XS.iload X6.here hx rfl (hb hby d15_5) rfl) ?_
  show Goes p e below _ T6 (mkF m 7 #[.val (.ref a), .val (.int (3 : Int32)), .val (.ref b), .val (.int (3 : Int32)), .val (.int (3 : Int32)), .val (.int (3 : Int32)), .val (.int c2)] [(.int (3 : Int32)), (.int (3 : Int32))])
  refine Goes.of (fun _ => XS.icmpYes X6.here hx rfl (pc0 := 7) (pc' := 44) rfl (hb hby d15_7) rfl (flt (by decide)).2.1 (by decide) (by decide)) ?_
  show Goes p e below _ T6 (mkF m 44 #[.val (.ref a), .val (.int (3 : Int32)), .val (.ref b), .val (.int (3 : Int32)), .val (.int (3 : Int32)), .val (.int (3 : Int32)), .val (.int c2)] [])
  refine Goes.of (fun _ => XS.iload X6.here hx rfl (hb hby d15_44) rfl) ?_
  show Goes p e below _ T6 (mkF m 46 #[.val (.ref a), .val (.int (3 : Int32)), .val (.ref b), .val (.int (3 : Int32)), .val (.int (3 : Int32)), .val (.int (3 : Int32)), .val (.int c2)] [(.int (3 : Int32))])
  exact retInt X6 hx hret hlk (hb hby d15_46) eT6 (by decide) (by decide) ⟨rfl, N6, Kp, Vb⟩
set_option maxRecDepth 65536 in
set_option maxHeartbeats 40000000 in
theorem rm_comp3_3_3 (l : Launch) (Z : State) (a0 : Array Value) (hw : ∀ d ∈ tables_1, d.before a0 Z = true) (a : Addr) (ka : ClassId) (c0 c1 c2 : Int32) (h0 : Heap) (n0 : Nat) (O0 : Old Z n0 h0) (Sa : Sta Z Z.heap "java/lang/StringUTF16" "$assertionsDisabled" "Z" (.int (1 : Int32))) (Sh : Sta Z Z.heap "java/lang/StringUTF16" "HI_BYTE_SHIFT" "I" (.int (0 : Int32))) (Sl : Sta Z Z.heap "java/lang/StringUTF16" "LO_BYTE_SHIFT" "I" (.int (8 : Int32))) (Va : Arv Z h0 a ka .char (3 : Int32) [(.int c0), (.int c1), (.int c2)] (.int (0 : Int32))) (hk0 : ¬ (255 : Int32) < c0) (hk1 : ¬ (255 : Int32) < c1) (hk2 : ¬ (255 : Int32) < c2) (hbd0 : ¬ c0 < 0 ∧ ¬ (65535 : Int32) < c0) (hbd1 : ¬ c1 < 0 ∧ ¬ (65535 : Int32) < c1) (hbd2 : ¬ c2 < 0 ∧ ¬ (65535 : Int32) < c2) :
    Rm l (⟨"java/lang/StringUTF16", "compress", "([CII)[B"⟩ : MethodName) jdk_52_method_16_code 6 (some (.array .byte)) ({ frames := 1, cells := 1, slots := 3, locals := 18 } : Room) [] Z #[(.ref a), (.int (0 : Int32)), (.int (3 : Int32))] h0 (fun v h L => ∃ (b : Addr) (kb : ClassId), v = some (.ref b) ∧ Fr n0 L ∧ Keep h0 h [] ∧ n0 ≤ b ∧ h0.size ≤ b ∧ Arv Z h b kb .byte (3 : Int32) [(.int (nar .byte (c0.toInt8.toInt32))), (.int (nar .byte (c1.toInt8.toInt32))), (.int (nar .byte (c2.toInt8.toInt32)))] (.int (0 : Int32))) := by
  refine Rm.of (plainFor_of_name pn_java_lang_StringUTF16) ?_
  intro p e s m below meth cod T X hx hZ hby hml hown hnm hret hlk eT0
  have hown : s.vm.findClass "java/lang/StringUTF16" = some m.cls := hown
  have hnm : meth.name = "compress" := hnm
  have N0 := Fr.nil n0
  have Kp := Keep.refl h0 []
  refine Goes.cast (ef_14 m a (0 : Int32) (3 : Int32)) ?_
  show Goes p e below _ T (mkF m 0 #[.val (.ref a), .val (.int (0 : Int32)), .val (.int (3 : Int32)), .unset, .unset, .unset] [])
  refine Goes.of (fun _ => XS.iloadN X.here hx rfl (hb hby d14_0) rfl) ?_
  show Goes p e below _ T (mkF m 1 #[.val (.ref a), .val (.int (0 : Int32)), .val (.int (3 : Int32)), .unset, .unset, .unset] [(.int (3 : Int32))])
  refine goNewP 3 X hx hZ (hw _ (List.mem_of_getElem? (i := 99) rfl)) eT0 (g := (mkF m 1 #[.val (.ref a), .val (.int (0 : Int32)), .val (.int (3 : Int32)), .unset, .unset, .unset] [(.int (3 : Int32))])) rfl (hb hby d14_1) rfl (by decide) (by decide) (by decide) (by decide) (by decide) (ad := "[B") (by first | rfl | decide) ?_
  intro T1 h1 b1 kA1 X1 eT1 E1 hb1 V1 A1
  have g_b1 : n0 ≤ b1 := Nat.le_trans (oldLe O0) hb1
  have sz_b1 : h0.size ≤ b1 := Nat.le_trans Kp.1 hb1
  have ne_a_b1 : a ≠ b1 := Nat.ne_of_lt (Nat.lt_of_lt_of_le Va.lt hb1)
  have Va := Va.ext E1
  have Kp := Kp.ext E1
  have O0 := O0.ext E1
  have V1 : Arv Z h1 b1 kA1 .byte (3 : Int32) [(.int (0 : Int32)), (.int (0 : Int32)), (.int (0 : Int32))] (.int (0 : Int32)) := V1
  show Goes p e below _ T1 (mkF m 3 #[.val (.ref a), .val (.int (0 : Int32)), .val (.int (3 : Int32)), .unset, .unset, .unset] [(.ref b1)])
  refine Goes.of (fun _ => XS.astoreN X1.here hx rfl (hb hby d14_3) rfl rfl (l' := #[.val (.ref a), .val (.int (0 : Int32)), .val (.int (3 : Int32)), .val (.ref b1), .unset, .unset]) rfl) ?_
  show Goes p e below _ T1 (mkF m 4 #[.val (.ref a), .val (.int (0 : Int32)), .val (.int (3 : Int32)), .val (.ref b1), .unset, .unset] [])
  refine Goes.of (fun _ => XS.aloadN X1.here hx rfl (hb hby d14_4) rfl rfl) ?_
  show Goes p e below _ T1 (mkF m 5 #[.val (.ref a), .val (.int (0 : Int32)), .val (.int (3 : Int32)), .val (.ref b1), .unset, .unset] [(.ref a)])
  refine Goes.of (fun _ => XS.iloadN X1.here hx rfl (hb hby d14_5) rfl) ?_
  show Goes p e below _ T1 (mkF m 6 #[.val (.ref a), .val (.int (0 : Int32)), .val (.int (3 : Int32)), .val (.ref b1), .unset, .unset] [(.int (0 : Int32)), (.ref a)])
  refine Goes.of (fun _ => XS.aloadN X1.here hx rfl (hb hby d14_6) rfl rfl) ?_
  show Goes p e below _ T1 (mkF m 7 #[.val (.ref a), .val (.int (0 : Int32)), .val (.int (3 : Int32)), .val (.ref b1), .unset, .unset] [(.ref b1), (.int (0 : Int32)), (.ref a)])
  refine Goes.of (fun _ => XS.iconst X1.here hx rfl (hb hby d14_7)) ?_
  show Goes p e below _ T1 (mkF m 8 #[.val (.ref a), .val (.int (0 : Int32)), .val (.int (3 : Int32)), .val (.ref b1), .unset, .unset] [(.int (0 : Int32)), (.ref b1), (.int (0 : Int32)), (.ref a)])
  refine Goes.of (fun _ => XS.iloadN X1.here hx rfl (hb hby d14_8) rfl) ?_
  show Goes p e below _ T1 (mkF m 9 #[.val (.ref a), .val (.int (0 : Int32)), .val (.int (3 : Int32)), .val (.ref b1), .unset, .unset] [(.int (3 : Int32)), (.int (0 : Int32)), (.ref b1), (.int (0 : Int32)), (.ref a)])
  refine goStatic 0 X1 hx hZ hown (hw _ (List.mem_of_getElem? (i := 100) rfl)) (hw _ (List.mem_of_getElem? (i := 101) rfl)) (hw _ (List.mem_of_getElem? (i := 97) rfl)) (hw _ (List.mem_of_getElem? (i := 102) rfl)) (by decide) (rm_comp5_3_3 l Z a0 hw a b1 _ _ c0 c1 c2 h1 n0 O0 g_b1 ne_a_b1 Va V1 hk0 hk1 hk2) eT1 (g := (mkF m 9 #[.val (.ref a), .val (.int (0 : Int32)), .val (.int (3 : Int32)), .val (.ref b1), .unset, .unset] [(.int (3 : Int32)), (.int (0 : Int32)), (.ref b1), (.int (0 : Int32)), (.ref a)])) rfl (by rw [hml]; rfl) [(.ref a), (.int (0 : Int32)), (.ref b1), (.int (0 : Int32)), (.int (3 : Int32))] [] (lenOf pd___CI_BII_I rfl) rfl rfl (by show 2 * 0 + _ ≤ _; exact Nat.le_of_eq rfl) (hb hby d14_9) (by decide) (by decide) (by decide) (by decide) ?_
  intro v2 T2 L2 X2 q2
  obtain ⟨rfl, Nq2, Kq2, Vq2⟩ := q2
  have N2 := Fr.app N0 Nq2
  have Va := Va.keep Kq2 (ninS ne_a_b1 nin0)
  have A1 := A1.keep Kq2
  have Kp := Kp.trans Kq2 (allS (Or.inr sz_b1) all0)
  have O0 := O0.keep Kq2 (allS g_b1 all0)
  show Goes p e below _ T2 (mkF m 12 #[.val (.ref a), .val (.int (0 : Int32)), .val (.int (3 : Int32)), .val (.ref b1), .unset, .unset] [(.int (3 : Int32))])
  refine Goes.of (fun _ => XS.istore X2.here hx rfl (hb hby d14_12) rfl (l' := #[.val (.ref a), .val (.int (0 : Int32)), .val (.int (3 : Int32)), .val (.ref b1), .val (.int (3 : Int32)), .unset]) rfl) ?_
  show Goes p e below _ T2 (mkF m 14 #[.val (.ref a), .val (.int (0 : Int32)), .val (.int (3 : Int32)), .val (.ref b1), .val (.int (3 : Int32)), .unset] [])
  refine Goes.of (fun _ => XS.iload X2.here hx rfl (hb hby d14_14) rfl) ?_
  show Goes p e below _ T2 (mkF m 16 #[.val (.ref a), .val (.int (0 : Int32)), .val (.int (3 : Int32)), .val (.ref b1), .val (.int (3 : Int32)), .unset] [(.int (3 : Int32))])
  refine Goes.of (fun _ => XS.iloadN X2.here hx rfl (hb hby d14_16) rfl) ?_
  show Goes p e below _ T2 (mkF m 17 #[.val (.ref a), .val (.int (0 : Int32)), .val (.int (3 : Int32)), .val (.ref b1), .val (.int (3 : Int32)), .unset] [(.int (3 : Int32)), (.int (3 : Int32))])
  refine Goes.of (fun _ => XS.icmpYes X2.here hx rfl (pc0 := 17) (pc' := 57) rfl (hb hby d14_17) rfl (teq (by decide)).1 (by decide) (by decide)) ?_
  show Goes p e below _ T2 (mkF m 57 #[.val (.ref a), .val (.int (0 : Int32)), .val (.int (3 : Int32)), .val (.ref b1), .val (.int (3 : Int32)), .unset] [])
  refine Goes.of (fun _ => XS.aloadN X2.here hx rfl (hb hby d14_57) rfl rfl) ?_
  show Goes p e below _ T2 (mkF m 58 #[.val (.ref a), .val (.int (0 : Int32)), .val (.int (3 : Int32)), .val (.ref b1), .val (.int (3 : Int32)), .unset] [(.ref b1)])
  exact retRef X2 hx hret hlk rfl rfl (hb hby d14_58) (rfl : T2.heap = _) (by decide) (by decide) ⟨b1, _, rfl, N2, Kp, g_b1, sz_b1, Vq2⟩
set_option maxRecDepth 65536 in
set_option maxHeartbeats 40000000 in
theorem rm_coder3_3 (l : Launch) (Z : State) (a0 : Array Value) (hw : ∀ d ∈ tables_1, d.before a0 Z = true) (b : Addr) (kb : ClassId) (vs : List Value) (h0 : Heap) (n0 : Nat) (O0 : Old Z n0 h0) (Vb : Arv Z h0 b kb .byte (3 : Int32) vs (.int (0 : Int32))) :
    Rm l (⟨"java/lang/StringUTF16", "coderFromArrayLen", "([BI)B"⟩ : MethodName) jdk_52_method_15_code 2 (some .byte) ({ frames := 0, cells := 0, slots := 0, locals := 0 } : Room) [] Z #[(.ref b), (.int (3 : Int32))] h0 (fun v h L => v = some (.int (0 : Int32)) ∧ Fr n0 L ∧ h = h0) := by
  refine Rm.of (plainFor_of_name pn_java_lang_StringUTF16) ?_
  intro p e s m below meth cod T X hx hZ hby hml hown hnm hret hlk eT0
  have hown : s.vm.findClass "java/lang/StringUTF16" = some m.cls := hown
  have hnm : meth.name = "coderFromArrayLen" := hnm
  have N0 := Fr.nil n0
  refine Goes.cast (ef_16 m b (3 : Int32)) ?_
  show Goes p e below _ T (mkF m 0 #[.val (.ref b), .val (.int (3 : Int32))] [])
  refine Goes.of (fun _ => XS.iloadN X.here hx rfl (hb hby d16_0) rfl) ?_
  show Goes p e below _ T (mkF m 1 #[.val (.ref b), .val (.int (3 : Int32))] [(.int (3 : Int32))])
  refine Goes.of (fun _ => XS.aloadN X.here hx rfl (hb hby d16_1) rfl rfl) ?_
  show Goes p e below _ T (mkF m 2 #[.val (.ref b), .val (.int (3 : Int32))] [(.ref b), (.int (3 : Int32))])
  refine goLen X hx hZ eT0 Vb (g := (mkF m 2 #[.val (.ref b), .val (.int (3 : Int32))] [(.ref b), (.int (3 : Int32))])) rfl rfl (hb hby d16_2) ?_
  show Goes p e below _ T (mkF m 3 #[.val (.ref b), .val (.int (3 : Int32))] [(.int (3 : Int32)), (.int (3 : Int32))])
  refine Goes.of (fun _ => XS.isub X.here hx rfl (hb hby d16_3) rfl) ?_
  show Goes p e below _ T (mkF m 4 #[.val (.ref b), .val (.int (3 : Int32))] [(.int ((3 : Int32) - (3 : Int32)))])
  refine Goes.of (fun _ => XS.bipush X.here hx rfl (hb hby d16_4)) ?_
  show Goes p e below _ T (mkF m 6 #[.val (.ref b), .val (.int (3 : Int32))] [(.int (31 : Int32)), (.int ((3 : Int32) - (3 : Int32)))])
  refine Goes.of (fun _ => XS.iushr X.here hx rfl (hb hby d16_6) rfl) ?_
  show Goes p e below _ T (mkF m 7 #[.val (.ref b), .val (.int (3 : Int32))] [(.int ((((3 : Int32) - (3 : Int32)).toUInt32 >>> ((31 : Int32) &&& 31).toUInt32).toInt32))])
  refine Goes.of (fun _ => XS.i2b X.here hx rfl (hb hby d16_7) rfl) ?_
  show Goes p e below _ T (mkF m 8 #[.val (.ref b), .val (.int (3 : Int32))] [(.int (((((3 : Int32) - (3 : Int32)).toUInt32 >>> ((31 : Int32) &&& 31).toUInt32).toInt32).toInt8.toInt32))])
  exact retZ (t := .byte) X hx hret hlk (by simp) (hb hby d16_8) eT0 (by decide) (by decide) ⟨by first | rfl | decide, N0, rfl⟩
set_option maxRecDepth 65536 in
set_option maxHeartbeats 40000000 in
theorem rm_coder3_6 (l : Launch) (Z : State) (a0 : Array Value) (hw : ∀ d ∈ tables_1, d.before a0 Z = true) (b : Addr) (kb : ClassId) (vs : List Value) (h0 : Heap) (n0 : Nat) (O0 : Old Z n0 h0) (Vb : Arv Z h0 b kb .byte (6 : Int32) vs (.int (0 : Int32))) :
    Rm l (⟨"java/lang/StringUTF16", "coderFromArrayLen", "([BI)B"⟩ : MethodName) jdk_52_method_15_code 2 (some .byte) ({ frames := 0, cells := 0, slots := 0, locals := 0 } : Room) [] Z #[(.ref b), (.int (3 : Int32))] h0 (fun v h L => v = some (.int (1 : Int32)) ∧ Fr n0 L ∧ h = h0) := by
  refine Rm.of (plainFor_of_name pn_java_lang_StringUTF16) ?_
  intro p e s m below meth cod T X hx hZ hby hml hown hnm hret hlk eT0
  have hown : s.vm.findClass "java/lang/StringUTF16" = some m.cls := hown
  have hnm : meth.name = "coderFromArrayLen" := hnm
  have N0 := Fr.nil n0
  refine Goes.cast (ef_16 m b (3 : Int32)) ?_
  show Goes p e below _ T (mkF m 0 #[.val (.ref b), .val (.int (3 : Int32))] [])
  refine Goes.of (fun _ => XS.iloadN X.here hx rfl (hb hby d16_0) rfl) ?_
  show Goes p e below _ T (mkF m 1 #[.val (.ref b), .val (.int (3 : Int32))] [(.int (3 : Int32))])
  refine Goes.of (fun _ => XS.aloadN X.here hx rfl (hb hby d16_1) rfl rfl) ?_
  show Goes p e below _ T (mkF m 2 #[.val (.ref b), .val (.int (3 : Int32))] [(.ref b), (.int (3 : Int32))])
  refine goLen X hx hZ eT0 Vb (g := (mkF m 2 #[.val (.ref b), .val (.int (3 : Int32))] [(.ref b), (.int (3 : Int32))])) rfl rfl (hb hby d16_2) ?_
  show Goes p e below _ T (mkF m 3 #[.val (.ref b), .val (.int (3 : Int32))] [(.int (6 : Int32)), (.int (3 : Int32))])
  refine Goes.of (fun _ => XS.isub X.here hx rfl (hb hby d16_3) rfl) ?_
  show Goes p e below _ T (mkF m 4 #[.val (.ref b), .val (.int (3 : Int32))] [(.int ((3 : Int32) - (6 : Int32)))])
  refine Goes.of (fun _ => XS.bipush X.here hx rfl (hb hby d16_4)) ?_
  show Goes p e below _ T (mkF m 6 #[.val (.ref b), .val (.int (3 : Int32))] [(.int (31 : Int32)), (.int ((3 : Int32) - (6 : Int32)))])
  refine Goes.of (fun _ => XS.iushr X.here hx rfl (hb hby d16_6) rfl) ?_
  show Goes p e below _ T (mkF m 7 #[.val (.ref b), .val (.int (3 : Int32))] [(.int ((((3 : Int32) - (6 : Int32)).toUInt32 >>> ((31 : Int32) &&& 31).toUInt32).toInt32))])
  refine Goes.of (fun _ => XS.i2b X.here hx rfl (hb hby d16_7) rfl) ?_
  show Goes p e below _ T (mkF m 8 #[.val (.ref b), .val (.int (3 : Int32))] [(.int (((((3 : Int32) - (6 : Int32)).toUInt32 >>> ((31 : Int32) &&& 31).toUInt32).toInt32).toInt8.toInt32))])
  exact retZ (t := .byte) X hx hret hlk (by simp) (hb hby d16_8) eT0 (by decide) (by decide) ⟨by first | rfl | decide, N0, rfl⟩
set_option maxRecDepth 65536 in
set_option maxHeartbeats 40000000 in
theorem rm_sin4_2 (l : Launch) (Z : State) (a0 : Array Value) (hw : ∀ d ∈ tables_1, d.before a0 Z = true) (a b : Addr) (kb : ClassId) (c0 c1 : Int32) (cz : Int32) (h0 : Heap) (n0 : Nat) (O0 : Old Z n0 h0) (Sa : Sta Z Z.heap "java/lang/StringUTF16" "$assertionsDisabled" "Z" (.int (1 : Int32))) (Sh : Sta Z Z.heap "java/lang/StringUTF16" "HI_BYTE_SHIFT" "I" (.int (0 : Int32))) (Sl : Sta Z Z.heap "java/lang/StringUTF16" "LO_BYTE_SHIFT" "I" (.int (8 : Int32))) (Sc : Sta Z Z.heap "java/lang/String" "COMPACT_STRINGS" "Z" (.int cz)) (hcz : ¬ cz = 0) (g_a : n0 ≤ a) (Ex : Exa Z h0 a "java/lang/String") (Fv : Fld Z h0 a "java/lang/String" "value" "[B" .null) (Fc : Fld Z h0 a "java/lang/String" "coder" "B" (.int (0 : Int32))) (hab : a ≠ b) (Vb : Arv Z h0 b kb .char (2 : Int32) [(.int c0), (.int c1)] (.int (0 : Int32))) (hbd0 : ¬ c0 < 0 ∧ ¬ (65535 : Int32) < c0) (hbd1 : ¬ c1 < 0 ∧ ¬ (65535 : Int32) < c1) :
    Rm l (⟨"java/lang/String", "<init>", "([CIILjava/lang/Void;)V"⟩ : MethodName) jdk_42_method_149_code 6 none ({ frames := 4, cells := 2, slots := 6, locals := 57 } : Room) [] Z #[(.ref a), (.ref b), (.int (0 : Int32)), (.int (2 : Int32)), .null] h0 (fun v h L => v = none ∧ Fr n0 L ∧ Keep h0 h [a]) := by
  refine Rm.of (plainFor_of_name pn_java_lang_String) ?_
  intro p e s m below meth cod T X hx hZ hby hml hown hnm hret hlk eT0
  have hown : s.vm.findClass "java/lang/String" = some m.cls := hown
  have hnm : meth.name = "<init>" := hnm
  have N0 := Fr.nil n0
  have Kp := Keep.refl h0 [a]
  refine Goes.cast (ef_13n4 m a b (0 : Int32) (2 : Int32)) ?_
  show Goes p e below _ T (mkF m 0 #[.val (.ref a), .val (.ref b), .val (.int (0 : Int32)), .val (.int (2 : Int32)), .val .null, .unset] [])
  refine Goes.of (fun _ => XS.aloadN X.here hx rfl (hb hby d13_0) rfl rfl) ?_
  show Goes p e below _ T (mkF m 1 #[.val (.ref a), .val (.ref b), .val (.int (0 : Int32)), .val (.int (2 : Int32)), .val .null, .unset] [(.ref a)])
  refine goInitO 0 X hx hZ hown (hw _ (List.mem_of_getElem? (i := 93) rfl)) (hw _ (List.mem_of_getElem? (i := 31) rfl)) (hw _ (List.mem_of_getElem? (i := 32) rfl)) eT0 (g := (mkF m 1 #[.val (.ref a), .val (.ref b), .val (.int (0 : Int32)), .val (.int (2 : Int32)), .val .null, .unset] [(.ref a)])) rfl (by rw [hml]; rfl) rfl (hb hby d13_1) (by decide) (by show 2 * 0 + _ ≤ _; exact Nat.le_of_eq rfl) (by decide) ?_
  intro T1 X1 eT1
  show Goes p e below _ T1 (mkF m 4 #[.val (.ref a), .val (.ref b), .val (.int (0 : Int32)), .val (.int (2 : Int32)), .val .null, .unset] [])
  refine Goes.of (fun _ => XS.iloadN X1.here hx rfl (hb hby d13_4) rfl) ?_
  show Goes p e below _ T1 (mkF m 5 #[.val (.ref a), .val (.ref b), .val (.int (0 : Int32)), .val (.int (2 : Int32)), .val .null, .unset] [(.int (2 : Int32))])
  refine Goes.of (fun _ => XS.ifYes X1.here hx rfl (pc0 := 5) (pc' := 27) rfl (hb hby d13_5) rfl ((if0 _ _).trans (feq (by decide)).2) (by decide) (by decide)) ?_
  show Goes p e below _ T1 (mkF m 27 #[.val (.ref a), .val (.ref b), .val (.int (0 : Int32)), .val (.int (2 : Int32)), .val .null, .unset] [])
  refine goGetS X1 hx hZ hown (host := "") (Or.inl (hw _ (List.mem_of_getElem? (i := 94) rfl))) Via.refl eT1 (Sc.ext O0.2) (g := (mkF m 27 #[.val (.ref a), .val (.ref b), .val (.int (0 : Int32)), .val (.int (2 : Int32)), .val .null, .unset] [])) rfl (hb hby d13_27) ?_
  intro T2 X2 eT2
  show Goes p e below _ T2 (mkF m 30 #[.val (.ref a), .val (.ref b), .val (.int (0 : Int32)), .val (.int (2 : Int32)), .val .null, .unset] [(.int cz)])
  refine Goes.of (fun _ => XS.ifNo X2.here hx rfl (hb hby d13_30) rfl ((if0 _ _).trans (feq hcz).1)) ?_
  show Goes p e below _ T2 (mkF m 33 #[.val (.ref a), .val (.ref b), .val (.int (0 : Int32)), .val (.int (2 : Int32)), .val .null, .unset] [])
  by_cases hk0 : (255 : Int32) < c0
  · show Goes p e below _ T2 (mkF m 33 #[.val (.ref a), .val (.ref b), .val (.int (0 : Int32)), .val (.int (2 : Int32)), .val .null, .unset] [])
    refine Goes.of (fun _ => XS.aloadN X2.here hx rfl (hb hby d13_33) rfl rfl) ?_
    show Goes p e below _ T2 (mkF m 34 #[.val (.ref a), .val (.ref b), .val (.int (0 : Int32)), .val (.int (2 : Int32)), .val .null, .unset] [(.ref b)])
    refine Goes.of (fun _ => XS.iloadN X2.here hx rfl (hb hby d13_34) rfl) ?_
    show Goes p e below _ T2 (mkF m 35 #[.val (.ref a), .val (.ref b), .val (.int (0 : Int32)), .val (.int (2 : Int32)), .val .null, .unset] [(.int (0 : Int32)), (.ref b)])
    refine Goes.of (fun _ => XS.iloadN X2.here hx rfl (hb hby d13_35) rfl) ?_
    show Goes p e below _ T2 (mkF m 36 #[.val (.ref a), .val (.ref b), .val (.int (0 : Int32)), .val (.int (2 : Int32)), .val .null, .unset] [(.int (2 : Int32)), (.int (0 : Int32)), (.ref b)])
    refine goStatic 0 X2 hx hZ hown (hw _ (List.mem_of_getElem? (i := 95) rfl)) (hw _ (List.mem_of_getElem? (i := 96) rfl)) (hw _ (List.mem_of_getElem? (i := 97) rfl)) (hw _ (List.mem_of_getElem? (i := 98) rfl)) (by decide) (rm_comp3_2_0 l Z a0 hw b _ c0 c1 h0 n0 O0 Sa Sh Sl Vb hk0 hbd0 hbd1) eT2 (g := (mkF m 36 #[.val (.ref a), .val (.ref b), .val (.int (0 : Int32)), .val (.int (2 : Int32)), .val .null, .unset] [(.int (2 : Int32)), (.int (0 : Int32)), (.ref b)])) rfl (by rw [hml]; rfl) [(.ref b), (.int (0 : Int32)), (.int (2 : Int32))] [] (lenOf pd___CII__B rfl) rfl rfl (by show 2 * 0 + _ ≤ _; exact Nat.le_of_eq rfl) (hb hby d13_36) (by decide) (by decide) (by decide) (by decide) ?_
    intro v3 T3 L3 X3 q3
    obtain ⟨tb3, kt3, rfl, Nq3, Kq3, gq3, sq3, Vt3⟩ := q3
    have N3 := Fr.app N0 Nq3
    have g_tb3 : n0 ≤ tb3 := gq3
    have sz_tb3 : h0.size ≤ tb3 := Nat.le_trans Kp.1 sq3
    have ne_a_tb3 : a ≠ tb3 := Nat.ne_of_lt (Nat.lt_of_lt_of_le Ex.lt sq3)
    have ne_b_tb3 : b ≠ tb3 := Nat.ne_of_lt (Nat.lt_of_lt_of_le Vb.lt sq3)
    have Ex := Ex.keep Kq3
    have Fv := Fv.keep Kq3 nin0
    have Fc := Fc.keep Kq3 nin0
    have Vb := Vb.keep Kq3 nin0
    have Kp := Kp.trans Kq3 all0
    have O0 := O0.keep Kq3 all0
    show Goes p e below _ T3 (mkF m 39 #[.val (.ref a), .val (.ref b), .val (.int (0 : Int32)), .val (.int (2 : Int32)), .val .null, .unset] [(.ref tb3)])
    refine Goes.of (fun _ => XS.astore X3.here hx rfl (hb hby d13_39) rfl rfl (l' := #[.val (.ref a), .val (.ref b), .val (.int (0 : Int32)), .val (.int (2 : Int32)), .val .null, .val (.ref tb3)]) rfl) ?_
    show Goes p e below _ T3 (mkF m 41 #[.val (.ref a), .val (.ref b), .val (.int (0 : Int32)), .val (.int (2 : Int32)), .val .null, .val (.ref tb3)] [])
    refine Goes.of (fun _ => XS.aloadN X3.here hx rfl (hb hby d13_41) rfl rfl) ?_
    show Goes p e below _ T3 (mkF m 42 #[.val (.ref a), .val (.ref b), .val (.int (0 : Int32)), .val (.int (2 : Int32)), .val .null, .val (.ref tb3)] [(.ref a)])
    refine Goes.of (fun _ => XS.aload X3.here hx rfl (hb hby d13_42) rfl rfl) ?_
    show Goes p e below _ T3 (mkF m 44 #[.val (.ref a), .val (.ref b), .val (.int (0 : Int32)), .val (.int (2 : Int32)), .val .null, .val (.ref tb3)] [(.ref tb3), (.ref a)])
    refine Goes.of (fun _ => XS.iloadN X3.here hx rfl (hb hby d13_44) rfl) ?_
    show Goes p e below _ T3 (mkF m 45 #[.val (.ref a), .val (.ref b), .val (.int (0 : Int32)), .val (.int (2 : Int32)), .val .null, .val (.ref tb3)] [(.int (2 : Int32)), (.ref tb3), (.ref a)])
    refine goStatic 1 X3 hx hZ hown (hw _ (List.mem_of_getElem? (i := 103) rfl)) (hw _ (List.mem_of_getElem? (i := 104) rfl)) (hw _ (List.mem_of_getElem? (i := 97) rfl)) (hw _ (List.mem_of_getElem? (i := 105) rfl)) (by decide) (rm_coder2_4 l Z a0 hw tb3 _ _ T3.heap n0 O0 Vt3) (rfl : T3.heap = _) (g := (mkF m 45 #[.val (.ref a), .val (.ref b), .val (.int (0 : Int32)), .val (.int (2 : Int32)), .val .null, .val (.ref tb3)] [(.int (2 : Int32)), (.ref tb3), (.ref a)])) rfl (by rw [hml]; rfl) [(.ref tb3), (.int (2 : Int32))] [(.ref a)] (lenOf pd___BI_B rfl) rfl rfl (by show 2 * 0 + _ ≤ _; exact Nat.le_of_eq rfl) (hb hby d13_45) (by decide) (by decide) (by decide) (by decide) ?_
    intro v4 T4 L4 X4 q4
    obtain ⟨rfl, Nq4, eT4⟩ := q4
    have N4 := Fr.app N3 Nq4
    show Goes p e below _ T4 (mkF m 48 #[.val (.ref a), .val (.ref b), .val (.int (0 : Int32)), .val (.int (2 : Int32)), .val .null, .val (.ref tb3)] [(.int (1 : Int32)), (.ref a)])
    refine goPut (ty := .byte) X4 hx hZ hown (host := "") (Or.inl (hw _ (List.mem_of_getElem? (i := 106) rfl))) Via.refl eT4 Fc Ex (Or.inr ⟨(hw _ (List.mem_of_getElem? (i := 107) rfl)), rfl, hnm⟩) (hw _ (List.mem_of_getElem? (i := 83) rfl)) (by decide) rfl rfl (g := (mkF m 48 #[.val (.ref a), .val (.ref b), .val (.int (0 : Int32)), .val (.int (2 : Int32)), .val .null, .val (.ref tb3)] [(.int (1 : Int32)), (.ref a)])) rfl rfl (hb hby d13_48) ?_
    intro T5 h5 X5 eT5 W5
    have Fc := Fld.same W5 Fc
    have N5 := Fr.snoc X5 N4 g_a
    have Ex := Ex.wr W5
    have Fv := Fv.other W5 (Or.inr (slot_ne (Or.inr (hw _ (List.mem_of_getElem? (i := 109) rfl))) (Or.inr (hw _ (List.mem_of_getElem? (i := 107) rfl))) (by decide) (t := (.array .byte)) (t' := .byte) (by decide) (by decide)))
    have Vb := Vb.other W5 (Ne.symm hab)
    have Vt3 := Vt3.other W5 (Ne.symm ne_a_tb3)
    have Kp := Kp.wr W5 (Or.inl (List.mem_of_getElem? (i := 0) rfl))
    have O0 := O0.wr W5 g_a
    show Goes p e below _ T5 (mkF m 51 #[.val (.ref a), .val (.ref b), .val (.int (0 : Int32)), .val (.int (2 : Int32)), .val .null, .val (.ref tb3)] [])
    refine Goes.of (fun _ => XS.aloadN X5.here hx rfl (hb hby d13_51) rfl rfl) ?_
    show Goes p e below _ T5 (mkF m 52 #[.val (.ref a), .val (.ref b), .val (.int (0 : Int32)), .val (.int (2 : Int32)), .val .null, .val (.ref tb3)] [(.ref a)])
    refine Goes.of (fun _ => XS.aload X5.here hx rfl (hb hby d13_52) rfl rfl) ?_
    show Goes p e below _ T5 (mkF m 54 #[.val (.ref a), .val (.ref b), .val (.int (0 : Int32)), .val (.int (2 : Int32)), .val .null, .val (.ref tb3)] [(.ref tb3), (.ref a)])
    refine goPut (ty := (.array .byte)) X5 hx hZ hown (host := "") (Or.inl (hw _ (List.mem_of_getElem? (i := 108) rfl))) Via.refl eT5 Fv Ex (Or.inr ⟨(hw _ (List.mem_of_getElem? (i := 109) rfl)), rfl, hnm⟩) (hw _ (List.mem_of_getElem? (i := 83) rfl)) (by decide) rfl rfl (g := (mkF m 54 #[.val (.ref a), .val (.ref b), .val (.int (0 : Int32)), .val (.int (2 : Int32)), .val .null, .val (.ref tb3)] [(.ref tb3), (.ref a)])) rfl rfl (hb hby d13_54) ?_
    intro T6 h6 X6 eT6 W6
    have Fv := Fld.same W6 Fv
    have N6 := Fr.snoc X6 N5 g_a
    have Ex := Ex.wr W6
    have Fc := Fc.other W6 (Or.inr (slot_ne (Or.inr (hw _ (List.mem_of_getElem? (i := 107) rfl))) (Or.inr (hw _ (List.mem_of_getElem? (i := 109) rfl))) (by decide) (t := .byte) (t' := (.array .byte)) (by decide) (by decide)))
    have Vb := Vb.other W6 (Ne.symm hab)
    have Vt3 := Vt3.other W6 (Ne.symm ne_a_tb3)
    have Kp := Kp.wr W6 (Or.inl (List.mem_of_getElem? (i := 0) rfl))
    have O0 := O0.wr W6 g_a
    show Goes p e below _ T6 (mkF m 57 #[.val (.ref a), .val (.ref b), .val (.int (0 : Int32)), .val (.int (2 : Int32)), .val .null, .val (.ref tb3)] [])
    exact retVoid X6 hx hret hlk (hb hby d13_57) eT6 (by decide) (by decide) ⟨rfl, N6, Kp⟩
  · show Goes p e below _ T2 (mkF m 33 #[.val (.ref a), .val (.ref b), .val (.int (0 : Int32)), .val (.int (2 : Int32)), .val .null, .unset] [])
    by_cases hk1 : (255 : Int32) < c1
    · show Goes p e below _ T2 (mkF m 33 #[.val (.ref a), .val (.ref b), .val (.int (0 : Int32)), .val (.int (2 : Int32)), .val .null, .unset] [])
      refine Goes.of (fun _ => XS.aloadN X2.here hx rfl (hb hby d13_33) rfl rfl) ?_
      show Goes p e below _ T2 (mkF m 34 #[.val (.ref a), .val (.ref b), .val (.int (0 : Int32)), .val (.int (2 : Int32)), .val .null, .unset] [(.ref b)])
      refine Goes.of (fun _ => XS.iloadN X2.here hx rfl (hb hby d13_34) rfl) ?_
      show Goes p e below _ T2 (mkF m 35 #[.val (.ref a), .val (.ref b), .val (.int (0 : Int32)), .val (.int (2 : Int32)), .val .null, .unset] [(.int (0 : Int32)), (.ref b)])
      refine Goes.of (fun _ => XS.iloadN X2.here hx rfl (hb hby d13_35) rfl) ?_
      show Goes p e below _ T2 (mkF m 36 #[.val (.ref a), .val (.ref b), .val (.int (0 : Int32)), .val (.int (2 : Int32)), .val .null, .unset] [(.int (2 : Int32)), (.int (0 : Int32)), (.ref b)])
      refine goStatic 0 X2 hx hZ hown (hw _ (List.mem_of_getElem? (i := 95) rfl)) (hw _ (List.mem_of_getElem? (i := 96) rfl)) (hw _ (List.mem_of_getElem? (i := 97) rfl)) (hw _ (List.mem_of_getElem? (i := 98) rfl)) (by decide) (rm_comp3_2_1 l Z a0 hw b _ c0 c1 h0 n0 O0 Sa Sh Sl Vb hk0 hk1 hbd0 hbd1) eT2 (g := (mkF m 36 #[.val (.ref a), .val (.ref b), .val (.int (0 : Int32)), .val (.int (2 : Int32)), .val .null, .unset] [(.int (2 : Int32)), (.int (0 : Int32)), (.ref b)])) rfl (by rw [hml]; rfl) [(.ref b), (.int (0 : Int32)), (.int (2 : Int32))] [] (lenOf pd___CII__B rfl) rfl rfl (by show 2 * 0 + _ ≤ _; exact Nat.le_of_eq rfl) (hb hby d13_36) (by decide) (by decide) (by decide) (by decide) ?_
      intro v7 T7 L7 X7 q7
      obtain ⟨tb7, kt7, rfl, Nq7, Kq7, gq7, sq7, Vt7⟩ := q7
      have N7 := Fr.app N0 Nq7
      have g_tb7 : n0 ≤ tb7 := gq7
      have sz_tb7 : h0.size ≤ tb7 := Nat.le_trans Kp.1 sq7
      have ne_a_tb7 : a ≠ tb7 := Nat.ne_of_lt (Nat.lt_of_lt_of_le Ex.lt sq7)
      have ne_b_tb7 : b ≠ tb7 := Nat.ne_of_lt (Nat.lt_of_lt_of_le Vb.lt sq7)
      have Ex := Ex.keep Kq7
      have Fv := Fv.keep Kq7 nin0
      have Fc := Fc.keep Kq7 nin0
      have Vb := Vb.keep Kq7 nin0
      have Kp := Kp.trans Kq7 all0
      have O0 := O0.keep Kq7 all0
      show Goes p e below _ T7 (mkF m 39 #[.val (.ref a), .val (.ref b), .val (.int (0 : Int32)), .val (.int (2 : Int32)), .val .null, .unset] [(.ref tb7)])
      refine Goes.of (fun _ => XS.astore X7.here hx rfl (hb hby d13_39) rfl rfl (l' := #[.val (.ref a), .val (.ref b), .val (.int (0 : Int32)), .val (.int (2 : Int32)), .val .null, .val (.ref tb7)]) rfl) ?_
      show Goes p e below _ T7 (mkF m 41 #[.val (.ref a), .val (.ref b), .val (.int (0 : Int32)), .val (.int (2 : Int32)), .val .null, .val (.ref tb7)] [])
      refine Goes.of (fun _ => XS.aloadN X7.here hx rfl (hb hby d13_41) rfl rfl) ?_
      show Goes p e below _ T7 (mkF m 42 #[.val (.ref a), .val (.ref b), .val (.int (0 : Int32)), .val (.int (2 : Int32)), .val .null, .val (.ref tb7)] [(.ref a)])
      refine Goes.of (fun _ => XS.aload X7.here hx rfl (hb hby d13_42) rfl rfl) ?_
      show Goes p e below _ T7 (mkF m 44 #[.val (.ref a), .val (.ref b), .val (.int (0 : Int32)), .val (.int (2 : Int32)), .val .null, .val (.ref tb7)] [(.ref tb7), (.ref a)])
      refine Goes.of (fun _ => XS.iloadN X7.here hx rfl (hb hby d13_44) rfl) ?_
      show Goes p e below _ T7 (mkF m 45 #[.val (.ref a), .val (.ref b), .val (.int (0 : Int32)), .val (.int (2 : Int32)), .val .null, .val (.ref tb7)] [(.int (2 : Int32)), (.ref tb7), (.ref a)])
      refine goStatic 1 X7 hx hZ hown (hw _ (List.mem_of_getElem? (i := 103) rfl)) (hw _ (List.mem_of_getElem? (i := 104) rfl)) (hw _ (List.mem_of_getElem? (i := 97) rfl)) (hw _ (List.mem_of_getElem? (i := 105) rfl)) (by decide) (rm_coder2_4 l Z a0 hw tb7 _ _ T7.heap n0 O0 Vt7) (rfl : T7.heap = _) (g := (mkF m 45 #[.val (.ref a), .val (.ref b), .val (.int (0 : Int32)), .val (.int (2 : Int32)), .val .null, .val (.ref tb7)] [(.int (2 : Int32)), (.ref tb7), (.ref a)])) rfl (by rw [hml]; rfl) [(.ref tb7), (.int (2 : Int32))] [(.ref a)] (lenOf pd___BI_B rfl) rfl rfl (by show 2 * 0 + _ ≤ _; exact Nat.le_of_eq rfl) (hb hby d13_45) (by decide) (by decide) (by decide) (by decide) ?_
      intro v8 T8 L8 X8 q8
      obtain ⟨rfl, Nq8, eT8⟩ := q8
      have N8 := Fr.app N7 Nq8
      show Goes p e below _ T8 (mkF m 48 #[.val (.ref a), .val (.ref b), .val (.int (0 : Int32)), .val (.int (2 : Int32)), .val .null, .val (.ref tb7)] [(.int (1 : Int32)), (.ref a)])
      refine goPut (ty := .byte) X8 hx hZ hown (host := "") (Or.inl (hw _ (List.mem_of_getElem? (i := 106) rfl))) Via.refl eT8 Fc Ex (Or.inr ⟨(hw _ (List.mem_of_getElem? (i := 107) rfl)), rfl, hnm⟩) (hw _ (List.mem_of_getElem? (i := 83) rfl)) (by decide) rfl rfl (g := (mkF m 48 #[.val (.ref a), .val (.ref b), .val (.int (0 : Int32)), .val (.int (2 : Int32)), .val .null, .val (.ref tb7)] [(.int (1 : Int32)), (.ref a)])) rfl rfl (hb hby d13_48) ?_
      intro T9 h9 X9 eT9 W9
      have Fc := Fld.same W9 Fc
      have N9 := Fr.snoc X9 N8 g_a
      have Ex := Ex.wr W9
      have Fv := Fv.other W9 (Or.inr (slot_ne (Or.inr (hw _ (List.mem_of_getElem? (i := 109) rfl))) (Or.inr (hw _ (List.mem_of_getElem? (i := 107) rfl))) (by decide) (t := (.array .byte)) (t' := .byte) (by decide) (by decide)))
      have Vb := Vb.other W9 (Ne.symm hab)
      have Vt7 := Vt7.other W9 (Ne.symm ne_a_tb7)
      have Kp := Kp.wr W9 (Or.inl (List.mem_of_getElem? (i := 0) rfl))
      have O0 := O0.wr W9 g_a
      show Goes p e below _ T9 (mkF m 51 #[.val (.ref a), .val (.ref b), .val (.int (0 : Int32)), .val (.int (2 : Int32)), .val .null, .val (.ref tb7)] [])
      refine Goes.of (fun _ => XS.aloadN X9.here hx rfl (hb hby d13_51) rfl rfl) ?_
      show Goes p e below _ T9 (mkF m 52 #[.val (.ref a), .val (.ref b), .val (.int (0 : Int32)), .val (.int (2 : Int32)), .val .null, .val (.ref tb7)] [(.ref a)])
      refine Goes.of (fun _ => XS.aload X9.here hx rfl (hb hby d13_52) rfl rfl) ?_
      show Goes p e below _ T9 (mkF m 54 #[.val (.ref a), .val (.ref b), .val (.int (0 : Int32)), .val (.int (2 : Int32)), .val .null, .val (.ref tb7)] [(.ref tb7), (.ref a)])
      refine goPut (ty := (.array .byte)) X9 hx hZ hown (host := "") (Or.inl (hw _ (List.mem_of_getElem? (i := 108) rfl))) Via.refl eT9 Fv Ex (Or.inr ⟨(hw _ (List.mem_of_getElem? (i := 109) rfl)), rfl, hnm⟩) (hw _ (List.mem_of_getElem? (i := 83) rfl)) (by decide) rfl rfl (g := (mkF m 54 #[.val (.ref a), .val (.ref b), .val (.int (0 : Int32)), .val (.int (2 : Int32)), .val .null, .val (.ref tb7)] [(.ref tb7), (.ref a)])) rfl rfl (hb hby d13_54) ?_
      intro T10 h10 X10 eT10 W10
      have Fv := Fld.same W10 Fv
      have N10 := Fr.snoc X10 N9 g_a
      have Ex := Ex.wr W10
      have Fc := Fc.other W10 (Or.inr (slot_ne (Or.inr (hw _ (List.mem_of_getElem? (i := 107) rfl))) (Or.inr (hw _ (List.mem_of_getElem? (i := 109) rfl))) (by decide) (t := .byte) (t' := (.array .byte)) (by decide) (by decide)))
      have Vb := Vb.other W10 (Ne.symm hab)
      have Vt7 := Vt7.other W10 (Ne.symm ne_a_tb7)
      have Kp := Kp.wr W10 (Or.inl (List.mem_of_getElem? (i := 0) rfl))
      have O0 := O0.wr W10 g_a
      show Goes p e below _ T10 (mkF m 57 #[.val (.ref a), .val (.ref b), .val (.int (0 : Int32)), .val (.int (2 : Int32)), .val .null, .val (.ref tb7)] [])
      exact retVoid X10 hx hret hlk (hb hby d13_57) eT10 (by decide) (by decide) ⟨rfl, N10, Kp⟩
    · show Goes p e below _ T2 (mkF m 33 #[.val (.ref a), .val (.ref b), .val (.int (0 : Int32)), .val (.int (2 : Int32)), .val .null, .unset] [])
      refine Goes.of (fun _ => XS.aloadN X2.here hx rfl (hb hby d13_33) rfl rfl) ?_
      show Goes p e below _ T2 (mkF m 34 #[.val (.ref a), .val (.ref b), .val (.int (0 : Int32)), .val (.int (2 : Int32)), .val .null, .unset] [(.ref b)])
      refine Goes.of (fun _ => XS.iloadN X2.here hx rfl (hb hby d13_34) rfl) ?_
      show Goes p e below _ T2 (mkF m 35 #[.val (.ref a), .val (.ref b), .val (.int (0 : Int32)), .val (.int (2 : Int32)), .val .null, .unset] [(.int (0 : Int32)), (.ref b)])
      refine Goes.of (fun _ => XS.iloadN X2.here hx rfl (hb hby d13_35) rfl) ?_
      show Goes p e below _ T2 (mkF m 36 #[.val (.ref a), .val (.ref b), .val (.int (0 : Int32)), .val (.int (2 : Int32)), .val .null, .unset] [(.int (2 : Int32)), (.int (0 : Int32)), (.ref b)])
      refine goStatic 0 X2 hx hZ hown (hw _ (List.mem_of_getElem? (i := 95) rfl)) (hw _ (List.mem_of_getElem? (i := 96) rfl)) (hw _ (List.mem_of_getElem? (i := 97) rfl)) (hw _ (List.mem_of_getElem? (i := 98) rfl)) (by decide) (rm_comp3_2_2 l Z a0 hw b _ c0 c1 h0 n0 O0 Sa Sh Sl Vb hk0 hk1 hbd0 hbd1) eT2 (g := (mkF m 36 #[.val (.ref a), .val (.ref b), .val (.int (0 : Int32)), .val (.int (2 : Int32)), .val .null, .unset] [(.int (2 : Int32)), (.int (0 : Int32)), (.ref b)])) rfl (by rw [hml]; rfl) [(.ref b), (.int (0 : Int32)), (.int (2 : Int32))] [] (lenOf pd___CII__B rfl) rfl rfl (by show 2 * 0 + _ ≤ _; exact Nat.le_of_eq rfl) (hb hby d13_36) (by decide) (by decide) (by decide) (by decide) ?_
      intro v11 T11 L11 X11 q11
      obtain ⟨tb11, kt11, rfl, Nq11, Kq11, gq11, sq11, Vt11⟩ := q11
      have N11 := Fr.app N0 Nq11
      have g_tb11 : n0 ≤ tb11 := gq11
      have sz_tb11 : h0.size ≤ tb11 := Nat.le_trans Kp.1 sq11
      have ne_a_tb11 : a ≠ tb11 := Nat.ne_of_lt (Nat.lt_of_lt_of_le Ex.lt sq11)
      have ne_b_tb11 : b ≠ tb11 := Nat.ne_of_lt (Nat.lt_of_lt_of_le Vb.lt sq11)
      have Ex := Ex.keep Kq11
      have Fv := Fv.keep Kq11 nin0
      have Fc := Fc.keep Kq11 nin0
      have Vb := Vb.keep Kq11 nin0
      have Kp := Kp.trans Kq11 all0
      have O0 := O0.keep Kq11 all0
      show Goes p e below _ T11 (mkF m 39 #[.val (.ref a), .val (.ref b), .val (.int (0 : Int32)), .val (.int (2 : Int32)), .val .null, .unset] [(.ref tb11)])
      refine Goes.of (fun _ => XS.astore X11.here hx rfl (hb hby d13_39) rfl rfl (l' := #[.val (.ref a), .val (.ref b), .val (.int (0 : Int32)), .val (.int (2 : Int32)), .val .null, .val (.ref tb11)]) rfl) ?_
      show Goes p e below _ T11 (mkF m 41 #[.val (.ref a), .val (.ref b), .val (.int (0 : Int32)), .val (.int (2 : Int32)), .val .null, .val (.ref tb11)] [])
      refine Goes.of (fun _ => XS.aloadN X11.here hx rfl (hb hby d13_41) rfl rfl) ?_
      show Goes p e below _ T11 (mkF m 42 #[.val (.ref a), .val (.ref b), .val (.int (0 : Int32)), .val (.int (2 : Int32)), .val .null, .val (.ref tb11)] [(.ref a)])
      refine Goes.of (fun _ => XS.aload X11.here hx rfl (hb hby d13_42) rfl rfl) ?_
      show Goes p e below _ T11 (mkF m 44 #[.val (.ref a), .val (.ref b), .val (.int (0 : Int32)), .val (.int (2 : Int32)), .val .null, .val (.ref tb11)] [(.ref tb11), (.ref a)])
      refine Goes.of (fun _ => XS.iloadN X11.here hx rfl (hb hby d13_44) rfl) ?_
      show Goes p e below _ T11 (mkF m 45 #[.val (.ref a), .val (.ref b), .val (.int (0 : Int32)), .val (.int (2 : Int32)), .val .null, .val (.ref tb11)] [(.int (2 : Int32)), (.ref tb11), (.ref a)])
      refine goStatic 1 X11 hx hZ hown (hw _ (List.mem_of_getElem? (i := 103) rfl)) (hw _ (List.mem_of_getElem? (i := 104) rfl)) (hw _ (List.mem_of_getElem? (i := 97) rfl)) (hw _ (List.mem_of_getElem? (i := 105) rfl)) (by decide) (rm_coder2_2 l Z a0 hw tb11 _ _ T11.heap n0 O0 Vt11) (rfl : T11.heap = _) (g := (mkF m 45 #[.val (.ref a), .val (.ref b), .val (.int (0 : Int32)), .val (.int (2 : Int32)), .val .null, .val (.ref tb11)] [(.int (2 : Int32)), (.ref tb11), (.ref a)])) rfl (by rw [hml]; rfl) [(.ref tb11), (.int (2 : Int32))] [(.ref a)] (lenOf pd___BI_B rfl) rfl rfl (by show 2 * 0 + _ ≤ _; exact Nat.le_of_eq rfl) (hb hby d13_45) (by decide) (by decide) (by decide) (by decide) ?_
      intro v12 T12 L12 X12 q12
      obtain ⟨rfl, Nq12, eT12⟩ := q12
      have N12 := Fr.app N11 Nq12
      show Goes p e below _ T12 (mkF m 48 #[.val (.ref a), .val (.ref b), .val (.int (0 : Int32)), .val (.int (2 : Int32)), .val .null, .val (.ref tb11)] [(.int (0 : Int32)), (.ref a)])
      refine goPut (ty := .byte) X12 hx hZ hown (host := "") (Or.inl (hw _ (List.mem_of_getElem? (i := 106) rfl))) Via.refl eT12 Fc Ex (Or.inr ⟨(hw _ (List.mem_of_getElem? (i := 107) rfl)), rfl, hnm⟩) (hw _ (List.mem_of_getElem? (i := 83) rfl)) (by decide) rfl rfl (g := (mkF m 48 #[.val (.ref a), .val (.ref b), .val (.int (0 : Int32)), .val (.int (2 : Int32)), .val .null, .val (.ref tb11)] [(.int (0 : Int32)), (.ref a)])) rfl rfl (hb hby d13_48) ?_
      intro T13 h13 X13 eT13 W13
      have Fc := Fld.same W13 Fc
      have N13 := Fr.snoc X13 N12 g_a
      have Ex := Ex.wr W13
      have Fv := Fv.other W13 (Or.inr (slot_ne (Or.inr (hw _ (List.mem_of_getElem? (i := 109) rfl))) (Or.inr (hw _ (List.mem_of_getElem? (i := 107) rfl))) (by decide) (t := (.array .byte)) (t' := .byte) (by decide) (by decide)))
      have Vb := Vb.other W13 (Ne.symm hab)
      have Vt11 := Vt11.other W13 (Ne.symm ne_a_tb11)
      have Kp := Kp.wr W13 (Or.inl (List.mem_of_getElem? (i := 0) rfl))
      have O0 := O0.wr W13 g_a
      show Goes p e below _ T13 (mkF m 51 #[.val (.ref a), .val (.ref b), .val (.int (0 : Int32)), .val (.int (2 : Int32)), .val .null, .val (.ref tb11)] [])
      refine Goes.of (fun _ => XS.aloadN X13.here hx rfl (hb hby d13_51) rfl rfl) ?_
      show Goes p e below _ T13 (mkF m 52 #[.val (.ref a), .val (.ref b), .val (.int (0 : Int32)), .val (.int (2 : Int32)), .val .null, .val (.ref tb11)] [(.ref a)])
      refine Goes.of (fun _ => XS.aload X13.here hx rfl (hb hby d13_52) rfl rfl) ?_
      show Goes p e below _ T13 (mkF m 54 #[.val (.ref a), .val (.ref b), .val (.int (0 : Int32)), .val (.int (2 : Int32)), .val .null, .val (.ref tb11)] [(.ref tb11), (.ref a)])
      refine goPut (ty := (.array .byte)) X13 hx hZ hown (host := "") (Or.inl (hw _ (List.mem_of_getElem? (i := 108) rfl))) Via.refl eT13 Fv Ex (Or.inr ⟨(hw _ (List.mem_of_getElem? (i := 109) rfl)), rfl, hnm⟩) (hw _ (List.mem_of_getElem? (i := 83) rfl)) (by decide) rfl rfl (g := (mkF m 54 #[.val (.ref a), .val (.ref b), .val (.int (0 : Int32)), .val (.int (2 : Int32)), .val .null, .val (.ref tb11)] [(.ref tb11), (.ref a)])) rfl rfl (hb hby d13_54) ?_
      intro T14 h14 X14 eT14 W14
      have Fv := Fld.same W14 Fv
      have N14 := Fr.snoc X14 N13 g_a
      have Ex := Ex.wr W14
      have Fc := Fc.other W14 (Or.inr (slot_ne (Or.inr (hw _ (List.mem_of_getElem? (i := 107) rfl))) (Or.inr (hw _ (List.mem_of_getElem? (i := 109) rfl))) (by decide) (t := .byte) (t' := (.array .byte)) (by decide) (by decide)))
      have Vb := Vb.other W14 (Ne.symm hab)
      have Vt11 := Vt11.other W14 (Ne.symm ne_a_tb11)
      have Kp := Kp.wr W14 (Or.inl (List.mem_of_getElem? (i := 0) rfl))
      have O0 := O0.wr W14 g_a
      show Goes p e below _ T14 (mkF m 57 #[.val (.ref a), .val (.ref b), .val (.int (0 : Int32)), .val (.int (2 : Int32)), .val .null, .val (.ref tb11)] [])
      exact retVoid X14 hx hret hlk (hb hby d13_57) eT14 (by decide) (by decide) ⟨rfl, N14, Kp⟩
set_option maxRecDepth 65536 in
set_option maxHeartbeats 40000000 in
theorem rm_sin1_2 (l : Launch) (Z : State) (a0 : Array Value) (hw : ∀ d ∈ tables_1, d.before a0 Z = true) (a b : Addr) (kb : ClassId) (c0 c1 : Int32) (cz : Int32) (h0 : Heap) (n0 : Nat) (O0 : Old Z n0 h0) (Sa : Sta Z Z.heap "java/lang/StringUTF16" "$assertionsDisabled" "Z" (.int (1 : Int32))) (Sh : Sta Z Z.heap "java/lang/StringUTF16" "HI_BYTE_SHIFT" "I" (.int (0 : Int32))) (Sl : Sta Z Z.heap "java/lang/StringUTF16" "LO_BYTE_SHIFT" "I" (.int (8 : Int32))) (Sc : Sta Z Z.heap "java/lang/String" "COMPACT_STRINGS" "Z" (.int cz)) (hcz : ¬ cz = 0) (g_a : n0 ≤ a) (Ex : Exa Z h0 a "java/lang/String") (Fv : Fld Z h0 a "java/lang/String" "value" "[B" .null) (Fc : Fld Z h0 a "java/lang/String" "coder" "B" (.int (0 : Int32))) (hab : a ≠ b) (Vb : Arv Z h0 b kb .char (2 : Int32) [(.int c0), (.int c1)] (.int (0 : Int32))) (hbd0 : ¬ c0 < 0 ∧ ¬ (65535 : Int32) < c0) (hbd1 : ¬ c1 < 0 ∧ ¬ (65535 : Int32) < c1) :
    Rm l (⟨"java/lang/String", "<init>", "([C)V"⟩ : MethodName) jdk_42_method_3_code 2 none ({ frames := 5, cells := 2, slots := 6, locals := 74 } : Room) [] Z #[(.ref a), (.ref b)] h0 (fun v h L => v = none ∧ Fr n0 L ∧ Keep h0 h [a]) := by
  refine Rm.of (plainFor_of_name pn_java_lang_String) ?_
  intro p e s m below meth cod T X hx hZ hby hml hown hnm hret hlk eT0
  have hown : s.vm.findClass "java/lang/String" = some m.cls := hown
  have hnm : meth.name = "<init>" := hnm
  have N0 := Fr.nil n0
  have Kp := Keep.refl h0 [a]
  refine Goes.cast (ef_12 m a b) ?_
  show Goes p e below _ T (mkF m 0 #[.val (.ref a), .val (.ref b)] [])
  refine Goes.of (fun _ => XS.aloadN X.here hx rfl (hb hby d12_0) rfl rfl) ?_
  show Goes p e below _ T (mkF m 1 #[.val (.ref a), .val (.ref b)] [(.ref a)])
  refine Goes.of (fun _ => XS.aloadN X.here hx rfl (hb hby d12_1) rfl rfl) ?_
  show Goes p e below _ T (mkF m 2 #[.val (.ref a), .val (.ref b)] [(.ref b), (.ref a)])
  refine Goes.of (fun _ => XS.iconst X.here hx rfl (hb hby d12_2)) ?_
  show Goes p e below _ T (mkF m 3 #[.val (.ref a), .val (.ref b)] [(.int (0 : Int32)), (.ref b), (.ref a)])
  refine Goes.of (fun _ => XS.aloadN X.here hx rfl (hb hby d12_3) rfl rfl) ?_
  show Goes p e below _ T (mkF m 4 #[.val (.ref a), .val (.ref b)] [(.ref b), (.int (0 : Int32)), (.ref b), (.ref a)])
  refine goLen X hx hZ eT0 Vb (g := (mkF m 4 #[.val (.ref a), .val (.ref b)] [(.ref b), (.int (0 : Int32)), (.ref b), (.ref a)])) rfl rfl (hb hby d12_4) ?_
  show Goes p e below _ T (mkF m 5 #[.val (.ref a), .val (.ref b)] [(.int (2 : Int32)), (.int (0 : Int32)), (.ref b), (.ref a)])
  refine Goes.of (fun _ => XS.aconstNull X.here hx rfl (hb hby d12_5)) ?_
  show Goes p e below _ T (mkF m 6 #[.val (.ref a), .val (.ref b)] [.null, (.int (2 : Int32)), (.int (0 : Int32)), (.ref b), (.ref a)])
  refine goSpecial 0 X hx hZ rfl hown (hw _ (List.mem_of_getElem? (i := 89) rfl)) (hw _ (List.mem_of_getElem? (i := 90) rfl)) (hw _ (List.mem_of_getElem? (i := 84) rfl)) (hw _ (List.mem_of_getElem? (i := 92) rfl)) (by decide) (rm_sin4_2 l Z a0 hw a b _ c0 c1 cz h0 n0 O0 Sa Sh Sl Sc hcz g_a Ex Fv Fc hab Vb hbd0 hbd1) eT0 (g := (mkF m 6 #[.val (.ref a), .val (.ref b)] [.null, (.int (2 : Int32)), (.int (0 : Int32)), (.ref b), (.ref a)])) rfl (by rw [hml]; rfl) a [(.ref b), (.int (0 : Int32)), (.int (2 : Int32)), .null] [] (lenOf pd___CIILjava_lang_Void__V rfl) rfl rfl (by show 2 * 0 + _ ≤ _; exact Nat.le_of_eq rfl) (hb hby d12_6) (by decide) (by decide) (by decide) (by decide) ?_
  intro v2 T2 L2 X2 q2
  obtain ⟨rfl, Nq2, Kq2⟩ := q2
  have N2 := Fr.app N0 Nq2
  have Ex := Ex.keep Kq2
  have Vb := Vb.keep Kq2 (ninS (Ne.symm hab) nin0)
  have Kp := Kp.trans Kq2 (allS (Or.inl (List.mem_of_getElem? (i := 0) rfl)) all0)
  have O0 := O0.keep Kq2 (allS g_a all0)
  show Goes p e below _ T2 (mkF m 9 #[.val (.ref a), .val (.ref b)] [])
  exact retVoid X2 hx hret hlk (hb hby d12_9) (rfl : T2.heap = _) (by decide) (by decide) ⟨rfl, N2, Kp⟩
set_option maxRecDepth 65536 in
set_option maxHeartbeats 40000000 in
theorem rm_sin4_3 (l : Launch) (Z : State) (a0 : Array Value) (hw : ∀ d ∈ tables_1, d.before a0 Z = true) (a b : Addr) (kb : ClassId) (c0 c1 c2 : Int32) (cz : Int32) (h0 : Heap) (n0 : Nat) (O0 : Old Z n0 h0) (Sa : Sta Z Z.heap "java/lang/StringUTF16" "$assertionsDisabled" "Z" (.int (1 : Int32))) (Sh : Sta Z Z.heap "java/lang/StringUTF16" "HI_BYTE_SHIFT" "I" (.int (0 : Int32))) (Sl : Sta Z Z.heap "java/lang/StringUTF16" "LO_BYTE_SHIFT" "I" (.int (8 : Int32))) (Sc : Sta Z Z.heap "java/lang/String" "COMPACT_STRINGS" "Z" (.int cz)) (hcz : ¬ cz = 0) (g_a : n0 ≤ a) (Ex : Exa Z h0 a "java/lang/String") (Fv : Fld Z h0 a "java/lang/String" "value" "[B" .null) (Fc : Fld Z h0 a "java/lang/String" "coder" "B" (.int (0 : Int32))) (hab : a ≠ b) (Vb : Arv Z h0 b kb .char (3 : Int32) [(.int c0), (.int c1), (.int c2)] (.int (0 : Int32))) (hbd0 : ¬ c0 < 0 ∧ ¬ (65535 : Int32) < c0) (hbd1 : ¬ c1 < 0 ∧ ¬ (65535 : Int32) < c1) (hbd2 : ¬ c2 < 0 ∧ ¬ (65535 : Int32) < c2) :
    Rm l (⟨"java/lang/String", "<init>", "([CIILjava/lang/Void;)V"⟩ : MethodName) jdk_42_method_149_code 6 none ({ frames := 4, cells := 2, slots := 9, locals := 57 } : Room) [] Z #[(.ref a), (.ref b), (.int (0 : Int32)), (.int (3 : Int32)), .null] h0 (fun v h L => v = none ∧ Fr n0 L ∧ Keep h0 h [a]) := by
  refine Rm.of (plainFor_of_name pn_java_lang_String) ?_
  intro p e s m below meth cod T X hx hZ hby hml hown hnm hret hlk eT0
  have hown : s.vm.findClass "java/lang/String" = some m.cls := hown
  have hnm : meth.name = "<init>" := hnm
  have N0 := Fr.nil n0
  have Kp := Keep.refl h0 [a]
  refine Goes.cast (ef_13n4 m a b (0 : Int32) (3 : Int32)) ?_
  show Goes p e below _ T (mkF m 0 #[.val (.ref a), .val (.ref b), .val (.int (0 : Int32)), .val (.int (3 : Int32)), .val .null, .unset] [])
  refine Goes.of (fun _ => XS.aloadN X.here hx rfl (hb hby d13_0) rfl rfl) ?_
  show Goes p e below _ T (mkF m 1 #[.val (.ref a), .val (.ref b), .val (.int (0 : Int32)), .val (.int (3 : Int32)), .val .null, .unset] [(.ref a)])
  refine goInitO 0 X hx hZ hown (hw _ (List.mem_of_getElem? (i := 93) rfl)) (hw _ (List.mem_of_getElem? (i := 31) rfl)) (hw _ (List.mem_of_getElem? (i := 32) rfl)) eT0 (g := (mkF m 1 #[.val (.ref a), .val (.ref b), .val (.int (0 : Int32)), .val (.int (3 : Int32)), .val .null, .unset] [(.ref a)])) rfl (by rw [hml]; rfl) rfl (hb hby d13_1) (by decide) (by show 2 * 0 + _ ≤ _; exact Nat.le_of_eq rfl) (by decide) ?_
  intro T1 X1 eT1
  show Goes p e below _ T1 (mkF m 4 #[.val (.ref a), .val (.ref b), .val (.int (0 : Int32)), .val (.int (3 : Int32)), .val .null, .unset] [])
  refine Goes.of (fun _ => XS.iloadN X1.here hx rfl (hb hby d13_4) rfl) ?_
  show Goes p e below _ T1 (mkF m 5 #[.val (.ref a), .val (.ref b), .val (.int (0 : Int32)), .val (.int (3 : Int32)), .val .null, .unset] [(.int (3 : Int32))])
  refine Goes.of (fun _ => XS.ifYes X1.here hx rfl (pc0 := 5) (pc' := 27) rfl (hb hby d13_5) rfl ((if0 _ _).trans (feq (by decide)).2) (by decide) (by decide)) ?_
  show Goes p e below _ T1 (mkF m 27 #[.val (.ref a), .val (.ref b), .val (.int (0 : Int32)), .val (.int (3 : Int32)), .val .null, .unset] [])
  refine goGetS X1 hx hZ hown (host := "") (Or.inl (hw _ (List.mem_of_getElem? (i := 94) rfl))) Via.refl eT1 (Sc.ext O0.2) (g := (mkF m 27 #[.val (.ref a), .val (.ref b), .val (.int (0 : Int32)), .val (.int (3 : Int32)), .val .null, .unset] [])) rfl (hb hby d13_27) ?_
  intro T2 X2 eT2
  show Goes p e below _ T2 (mkF m 30 #[.val (.ref a), .val (.ref b), .val (.int (0 : Int32)), .val (.int (3 : Int32)), .val .null, .unset] [(.int cz)])
  refine Goes.of (fun _ => XS.ifNo X2.here hx rfl (hb hby d13_30) rfl ((if0 _ _).trans (feq hcz).1)) ?_
  show Goes p e below _ T2 (mkF m 33 #[.val (.ref a), .val (.ref b), .val (.int (0 : Int32)), .val (.int (3 : Int32)), .val .null, .unset] [])
  by_cases hk0 : (255 : Int32) < c0
  · show Goes p e below _ T2 (mkF m 33 #[.val (.ref a), .val (.ref b), .val (.int (0 : Int32)), .val (.int (3 : Int32)), .val .null, .unset] [])
    refine Goes.of (fun _ => XS.aloadN X2.here hx rfl (hb hby d13_33) rfl rfl) ?_
    show Goes p e below _ T2 (mkF m 34 #[.val (.ref a), .val (.ref b), .val (.int (0 : Int32)), .val (.int (3 : Int32)), .val .null, .unset] [(.ref b)])
    refine Goes.of (fun _ => XS.iloadN X2.here hx rfl (hb hby d13_34) rfl) ?_
    show Goes p e below _ T2 (mkF m 35 #[.val (.ref a), .val (.ref b), .val (.int (0 : Int32)), .val (.int (3 : Int32)), .val .null, .unset] [(.int (0 : Int32)), (.ref b)])
    refine Goes.of (fun _ => XS.iloadN X2.here hx rfl (hb hby d13_35) rfl) ?_
    show Goes p e below _ T2 (mkF m 36 #[.val (.ref a), .val (.ref b), .val (.int (0 : Int32)), .val (.int (3 : Int32)), .val .null, .unset] [(.int (3 : Int32)), (.int (0 : Int32)), (.ref b)])
    refine goStatic 0 X2 hx hZ hown (hw _ (List.mem_of_getElem? (i := 95) rfl)) (hw _ (List.mem_of_getElem? (i := 96) rfl)) (hw _ (List.mem_of_getElem? (i := 97) rfl)) (hw _ (List.mem_of_getElem? (i := 98) rfl)) (by decide) (rm_comp3_3_0 l Z a0 hw b _ c0 c1 c2 h0 n0 O0 Sa Sh Sl Vb hk0 hbd0 hbd1 hbd2) eT2 (g := (mkF m 36 #[.val (.ref a), .val (.ref b), .val (.int (0 : Int32)), .val (.int (3 : Int32)), .val .null, .unset] [(.int (3 : Int32)), (.int (0 : Int32)), (.ref b)])) rfl (by rw [hml]; rfl) [(.ref b), (.int (0 : Int32)), (.int (3 : Int32))] [] (lenOf pd___CII__B rfl) rfl rfl (by show 2 * 0 + _ ≤ _; exact Nat.le_of_eq rfl) (hb hby d13_36) (by decide) (by decide) (by decide) (by decide) ?_
    intro v3 T3 L3 X3 q3
    obtain ⟨tb3, kt3, rfl, Nq3, Kq3, gq3, sq3, Vt3⟩ := q3
    have N3 := Fr.app N0 Nq3
    have g_tb3 : n0 ≤ tb3 := gq3
    have sz_tb3 : h0.size ≤ tb3 := Nat.le_trans Kp.1 sq3
    have ne_a_tb3 : a ≠ tb3 := Nat.ne_of_lt (Nat.lt_of_lt_of_le Ex.lt sq3)
    have ne_b_tb3 : b ≠ tb3 := Nat.ne_of_lt (Nat.lt_of_lt_of_le Vb.lt sq3)
    have Ex := Ex.keep Kq3
    have Fv := Fv.keep Kq3 nin0
    have Fc := Fc.keep Kq3 nin0
    have Vb := Vb.keep Kq3 nin0
    have Kp := Kp.trans Kq3 all0
    have O0 := O0.keep Kq3 all0
    show Goes p e below _ T3 (mkF m 39 #[.val (.ref a), .val (.ref b), .val (.int (0 : Int32)), .val (.int (3 : Int32)), .val .null, .unset] [(.ref tb3)])
    refine Goes.of (fun _ => XS.astore X3.here hx rfl (hb hby d13_39) rfl rfl (l' := #[.val (.ref a), .val (.ref b), .val (.int (0 : Int32)), .val (.int (3 : Int32)), .val .null, .val (.ref tb3)]) rfl) ?_
    show Goes p e below _ T3 (mkF m 41 #[.val (.ref a), .val (.ref b), .val (.int (0 : Int32)), .val (.int (3 : Int32)), .val .null, .val (.ref tb3)] [])
    refine Goes.of (fun _ => XS.aloadN X3.here hx rfl (hb hby d13_41) rfl rfl) ?_
    show Goes p e below _ T3 (mkF m 42 #[.val (.ref a), .val (.ref b), .val (.int (0 : Int32)), .val (.int (3 : Int32)), .val .null, .val (.ref tb3)] [(.ref a)])
    refine Goes.of (fun _ => XS.aload X3.here hx rfl (hb hby d13_42) rfl rfl) ?_
    show Goes p e below _ T3 (mkF m 44 #[.val (.ref a), .val (.ref b), .val (.int (0 : Int32)), .val (.int (3 : Int32)), .val .null, .val (.ref tb3)] [(.ref tb3), (.ref a)])
    refine Goes.of (fun _ => XS.iloadN X3.here hx rfl (hb hby d13_44) rfl) ?_
    show Goes p e below _ T3 (mkF m 45 #[.val (.ref a), .val (.ref b), .val (.int (0 : Int32)), .val (.int (3 : Int32)), .val .null, .val (.ref tb3)] [(.int (3 : Int32)), (.ref tb3), (.ref a)])
    refine goStatic 1 X3 hx hZ hown (hw _ (List.mem_of_getElem? (i := 103) rfl)) (hw _ (List.mem_of_getElem? (i := 104) rfl)) (hw _ (List.mem_of_getElem? (i := 97) rfl)) (hw _ (List.mem_of_getElem? (i := 105) rfl)) (by decide) (rm_coder3_6 l Z a0 hw tb3 _ _ T3.heap n0 O0 Vt3) (rfl : T3.heap = _) (g := (mkF m 45 #[.val (.ref a), .val (.ref b), .val (.int (0 : Int32)), .val (.int (3 : Int32)), .val .null, .val (.ref tb3)] [(.int (3 : Int32)), (.ref tb3), (.ref a)])) rfl (by rw [hml]; rfl) [(.ref tb3), (.int (3 : Int32))] [(.ref a)] (lenOf pd___BI_B rfl) rfl rfl (by show 2 * 0 + _ ≤ _; exact Nat.le_of_eq rfl) (hb hby d13_45) (by decide) (by decide) (by decide) (by decide) ?_
    intro v4 T4 L4 X4 q4
    obtain ⟨rfl, Nq4, eT4⟩ := q4
    have N4 := Fr.app N3 Nq4
    show Goes p e below _ T4 (mkF m 48 #[.val (.ref a), .val (.ref b), .val (.int (0 : Int32)), .val (.int (3 : Int32)), .val .null, .val (.ref tb3)] [(.int (1 : Int32)), (.ref a)])
    refine goPut (ty := .byte) X4 hx hZ hown (host := "") (Or.inl (hw _ (List.mem_of_getElem? (i := 106) rfl))) Via.refl eT4 Fc Ex (Or.inr ⟨(hw _ (List.mem_of_getElem? (i := 107) rfl)), rfl, hnm⟩) (hw _ (List.mem_of_getElem? (i := 83) rfl)) (by decide) rfl rfl (g := (mkF m 48 #[.val (.ref a), .val (.ref b), .val (.int (0 : Int32)), .val (.int (3 : Int32)), .val .null, .val (.ref tb3)] [(.int (1 : Int32)), (.ref a)])) rfl rfl (hb hby d13_48) ?_
    intro T5 h5 X5 eT5 W5
    have Fc := Fld.same W5 Fc
    have N5 := Fr.snoc X5 N4 g_a
    have Ex := Ex.wr W5
    have Fv := Fv.other W5 (Or.inr (slot_ne (Or.inr (hw _ (List.mem_of_getElem? (i := 109) rfl))) (Or.inr (hw _ (List.mem_of_getElem? (i := 107) rfl))) (by decide) (t := (.array .byte)) (t' := .byte) (by decide) (by decide)))
    have Vb := Vb.other W5 (Ne.symm hab)
    have Vt3 := Vt3.other W5 (Ne.symm ne_a_tb3)
    have Kp := Kp.wr W5 (Or.inl (List.mem_of_getElem? (i := 0) rfl))
    have O0 := O0.wr W5 g_a
    show Goes p e below _ T5 (mkF m 51 #[.val (.ref a), .val (.ref b), .val (.int (0 : Int32)), .val (.int (3 : Int32)), .val .null, .val (.ref tb3)] [])
    refine Goes.of (fun _ => XS.aloadN X5.here hx rfl (hb hby d13_51) rfl rfl) ?_
    show Goes p e below _ T5 (mkF m 52 #[.val (.ref a), .val (.ref b), .val (.int (0 : Int32)), .val (.int (3 : Int32)), .val .null, .val (.ref tb3)] [(.ref a)])
    refine Goes.of (fun _ => XS.aload X5.here hx rfl (hb hby d13_52) rfl rfl) ?_
    show Goes p e below _ T5 (mkF m 54 #[.val (.ref a), .val (.ref b), .val (.int (0 : Int32)), .val (.int (3 : Int32)), .val .null, .val (.ref tb3)] [(.ref tb3), (.ref a)])
    refine goPut (ty := (.array .byte)) X5 hx hZ hown (host := "") (Or.inl (hw _ (List.mem_of_getElem? (i := 108) rfl))) Via.refl eT5 Fv Ex (Or.inr ⟨(hw _ (List.mem_of_getElem? (i := 109) rfl)), rfl, hnm⟩) (hw _ (List.mem_of_getElem? (i := 83) rfl)) (by decide) rfl rfl (g := (mkF m 54 #[.val (.ref a), .val (.ref b), .val (.int (0 : Int32)), .val (.int (3 : Int32)), .val .null, .val (.ref tb3)] [(.ref tb3), (.ref a)])) rfl rfl (hb hby d13_54) ?_
    intro T6 h6 X6 eT6 W6
    have Fv := Fld.same W6 Fv
    have N6 := Fr.snoc X6 N5 g_a
    have Ex := Ex.wr W6
    have Fc := Fc.other W6 (Or.inr (slot_ne (Or.inr (hw _ (List.mem_of_getElem? (i := 107) rfl))) (Or.inr (hw _ (List.mem_of_getElem? (i := 109) rfl))) (by decide) (t := .byte) (t' := (.array .byte)) (by decide) (by decide)))
    have Vb := Vb.other W6 (Ne.symm hab)
    have Vt3 := Vt3.other W6 (Ne.symm ne_a_tb3)
    have Kp := Kp.wr W6 (Or.inl (List.mem_of_getElem? (i := 0) rfl))
    have O0 := O0.wr W6 g_a
    show Goes p e below _ T6 (mkF m 57 #[.val (.ref a), .val (.ref b), .val (.int (0 : Int32)), .val (.int (3 : Int32)), .val .null, .val (.ref tb3)] [])
    exact retVoid X6 hx hret hlk (hb hby d13_57) eT6 (by decide) (by decide) ⟨rfl, N6, Kp⟩
  · show Goes p e below _ T2 (mkF m 33 #[.val (.ref a), .val (.ref b), .val (.int (0 : Int32)), .val (.int (3 : Int32)), .val .null, .unset] [])
    by_cases hk1 : (255 : Int32) < c1
    · show Goes p e below _ T2 (mkF m 33 #[.val (.ref a), .val (.ref b), .val (.int (0 : Int32)), .val (.int (3 : Int32)), .val .null, .unset] [])
      refine Goes.of (fun _ => XS.aloadN X2.here hx rfl (hb hby d13_33) rfl rfl) ?_
      show Goes p e below _ T2 (mkF m 34 #[.val (.ref a), .val (.ref b), .val (.int (0 : Int32)), .val (.int (3 : Int32)), .val .null, .unset] [(.ref b)])
      refine Goes.of (fun _ => XS.iloadN X2.here hx rfl (hb hby d13_34) rfl) ?_
      show Goes p e below _ T2 (mkF m 35 #[.val (.ref a), .val (.ref b), .val (.int (0 : Int32)), .val (.int (3 : Int32)), .val .null, .unset] [(.int (0 : Int32)), (.ref b)])
      refine Goes.of (fun _ => XS.iloadN X2.here hx rfl (hb hby d13_35) rfl) ?_
      show Goes p e below _ T2 (mkF m 36 #[.val (.ref a), .val (.ref b), .val (.int (0 : Int32)), .val (.int (3 : Int32)), .val .null, .unset] [(.int (3 : Int32)), (.int (0 : Int32)), (.ref b)])
      refine goStatic 0 X2 hx hZ hown (hw _ (List.mem_of_getElem? (i := 95) rfl)) (hw _ (List.mem_of_getElem? (i := 96) rfl)) (hw _ (List.mem_of_getElem? (i := 97) rfl)) (hw _ (List.mem_of_getElem? (i := 98) rfl)) (by decide) (rm_comp3_3_1 l Z a0 hw b _ c0 c1 c2 h0 n0 O0 Sa Sh Sl Vb hk0 hk1 hbd0 hbd1 hbd2) eT2 (g := (mkF m 36 #[.val (.ref a), .val (.ref b), .val (.int (0 : Int32)), .val (.int (3 : Int32)), .val .null, .unset] [(.int (3 : Int32)), (.int (0 : Int32)), (.ref b)])) rfl (by rw [hml]; rfl) [(.ref b), (.int (0 : Int32)), (.int (3 : Int32))] [] (lenOf pd___CII__B rfl) rfl rfl (by show 2 * 0 + _ ≤ _; exact Nat.le_of_eq rfl) (hb hby d13_36) (by decide) (by decide) (by decide) (by decide) ?_
      intro v7 T7 L7 X7 q7
      obtain ⟨tb7, kt7, rfl, Nq7, Kq7, gq7, sq7, Vt7⟩ := q7
      have N7 := Fr.app N0 Nq7
      have g_tb7 : n0 ≤ tb7 := gq7
      have sz_tb7 : h0.size ≤ tb7 := Nat.le_trans Kp.1 sq7
      have ne_a_tb7 : a ≠ tb7 := Nat.ne_of_lt (Nat.lt_of_lt_of_le Ex.lt sq7)
      have ne_b_tb7 : b ≠ tb7 := Nat.ne_of_lt (Nat.lt_of_lt_of_le Vb.lt sq7)
      have Ex := Ex.keep Kq7
      have Fv := Fv.keep Kq7 nin0
      have Fc := Fc.keep Kq7 nin0
      have Vb := Vb.keep Kq7 nin0
      have Kp := Kp.trans Kq7 all0
      have O0 := O0.keep Kq7 all0
      show Goes p e below _ T7 (mkF m 39 #[.val (.ref a), .val (.ref b), .val (.int (0 : Int32)), .val (.int (3 : Int32)), .val .null, .unset] [(.ref tb7)])
      refine Goes.of (fun _ => XS.astore X7.here hx rfl (hb hby d13_39) rfl rfl (l' := #[.val (.ref a), .val (.ref b), .val (.int (0 : Int32)), .val (.int (3 : Int32)), .val .null, .val (.ref tb7)]) rfl) ?_
      show Goes p e below _ T7 (mkF m 41 #[.val (.ref a), .val (.ref b), .val (.int (0 : Int32)), .val (.int (3 : Int32)), .val .null, .val (.ref tb7)] [])
      refine Goes.of (fun _ => XS.aloadN X7.here hx rfl (hb hby d13_41) rfl rfl) ?_
      show Goes p e below _ T7 (mkF m 42 #[.val (.ref a), .val (.ref b), .val (.int (0 : Int32)), .val (.int (3 : Int32)), .val .null, .val (.ref tb7)] [(.ref a)])
      refine Goes.of (fun _ => XS.aload X7.here hx rfl (hb hby d13_42) rfl rfl) ?_
      show Goes p e below _ T7 (mkF m 44 #[.val (.ref a), .val (.ref b), .val (.int (0 : Int32)), .val (.int (3 : Int32)), .val .null, .val (.ref tb7)] [(.ref tb7), (.ref a)])
      refine Goes.of (fun _ => XS.iloadN X7.here hx rfl (hb hby d13_44) rfl) ?_
      show Goes p e below _ T7 (mkF m 45 #[.val (.ref a), .val (.ref b), .val (.int (0 : Int32)), .val (.int (3 : Int32)), .val .null, .val (.ref tb7)] [(.int (3 : Int32)), (.ref tb7), (.ref a)])
      refine goStatic 1 X7 hx hZ hown (hw _ (List.mem_of_getElem? (i := 103) rfl)) (hw _ (List.mem_of_getElem? (i := 104) rfl)) (hw _ (List.mem_of_getElem? (i := 97) rfl)) (hw _ (List.mem_of_getElem? (i := 105) rfl)) (by decide) (rm_coder3_6 l Z a0 hw tb7 _ _ T7.heap n0 O0 Vt7) (rfl : T7.heap = _) (g := (mkF m 45 #[.val (.ref a), .val (.ref b), .val (.int (0 : Int32)), .val (.int (3 : Int32)), .val .null, .val (.ref tb7)] [(.int (3 : Int32)), (.ref tb7), (.ref a)])) rfl (by rw [hml]; rfl) [(.ref tb7), (.int (3 : Int32))] [(.ref a)] (lenOf pd___BI_B rfl) rfl rfl (by show 2 * 0 + _ ≤ _; exact Nat.le_of_eq rfl) (hb hby d13_45) (by decide) (by decide) (by decide) (by decide) ?_
      intro v8 T8 L8 X8 q8
      obtain ⟨rfl, Nq8, eT8⟩ := q8
      have N8 := Fr.app N7 Nq8
      show Goes p e below _ T8 (mkF m 48 #[.val (.ref a), .val (.ref b), .val (.int (0 : Int32)), .val (.int (3 : Int32)), .val .null, .val (.ref tb7)] [(.int (1 : Int32)), (.ref a)])
      refine goPut (ty := .byte) X8 hx hZ hown (host := "") (Or.inl (hw _ (List.mem_of_getElem? (i := 106) rfl))) Via.refl eT8 Fc Ex (Or.inr ⟨(hw _ (List.mem_of_getElem? (i := 107) rfl)), rfl, hnm⟩) (hw _ (List.mem_of_getElem? (i := 83) rfl)) (by decide) rfl rfl (g := (mkF m 48 #[.val (.ref a), .val (.ref b), .val (.int (0 : Int32)), .val (.int (3 : Int32)), .val .null, .val (.ref tb7)] [(.int (1 : Int32)), (.ref a)])) rfl rfl (hb hby d13_48) ?_
      intro T9 h9 X9 eT9 W9
      have Fc := Fld.same W9 Fc
      have N9 := Fr.snoc X9 N8 g_a
      have Ex := Ex.wr W9
      have Fv := Fv.other W9 (Or.inr (slot_ne (Or.inr (hw _ (List.mem_of_getElem? (i := 109) rfl))) (Or.inr (hw _ (List.mem_of_getElem? (i := 107) rfl))) (by decide) (t := (.array .byte)) (t' := .byte) (by decide) (by decide)))
      have Vb := Vb.other W9 (Ne.symm hab)
      have Vt7 := Vt7.other W9 (Ne.symm ne_a_tb7)
      have Kp := Kp.wr W9 (Or.inl (List.mem_of_getElem? (i := 0) rfl))
      have O0 := O0.wr W9 g_a
      show Goes p e below _ T9 (mkF m 51 #[.val (.ref a), .val (.ref b), .val (.int (0 : Int32)), .val (.int (3 : Int32)), .val .null, .val (.ref tb7)] [])
      refine Goes.of (fun _ => XS.aloadN X9.here hx rfl (hb hby d13_51) rfl rfl) ?_
      show Goes p e below _ T9 (mkF m 52 #[.val (.ref a), .val (.ref b), .val (.int (0 : Int32)), .val (.int (3 : Int32)), .val .null, .val (.ref tb7)] [(.ref a)])
      refine Goes.of (fun _ => XS.aload X9.here hx rfl (hb hby d13_52) rfl rfl) ?_
      show Goes p e below _ T9 (mkF m 54 #[.val (.ref a), .val (.ref b), .val (.int (0 : Int32)), .val (.int (3 : Int32)), .val .null, .val (.ref tb7)] [(.ref tb7), (.ref a)])
      refine goPut (ty := (.array .byte)) X9 hx hZ hown (host := "") (Or.inl (hw _ (List.mem_of_getElem? (i := 108) rfl))) Via.refl eT9 Fv Ex (Or.inr ⟨(hw _ (List.mem_of_getElem? (i := 109) rfl)), rfl, hnm⟩) (hw _ (List.mem_of_getElem? (i := 83) rfl)) (by decide) rfl rfl (g := (mkF m 54 #[.val (.ref a), .val (.ref b), .val (.int (0 : Int32)), .val (.int (3 : Int32)), .val .null, .val (.ref tb7)] [(.ref tb7), (.ref a)])) rfl rfl (hb hby d13_54) ?_
      intro T10 h10 X10 eT10 W10
      have Fv := Fld.same W10 Fv
      have N10 := Fr.snoc X10 N9 g_a
      have Ex := Ex.wr W10
      have Fc := Fc.other W10 (Or.inr (slot_ne (Or.inr (hw _ (List.mem_of_getElem? (i := 107) rfl))) (Or.inr (hw _ (List.mem_of_getElem? (i := 109) rfl))) (by decide) (t := .byte) (t' := (.array .byte)) (by decide) (by decide)))
      have Vb := Vb.other W10 (Ne.symm hab)
      have Vt7 := Vt7.other W10 (Ne.symm ne_a_tb7)
      have Kp := Kp.wr W10 (Or.inl (List.mem_of_getElem? (i := 0) rfl))
      have O0 := O0.wr W10 g_a
      show Goes p e below _ T10 (mkF m 57 #[.val (.ref a), .val (.ref b), .val (.int (0 : Int32)), .val (.int (3 : Int32)), .val .null, .val (.ref tb7)] [])
      exact retVoid X10 hx hret hlk (hb hby d13_57) eT10 (by decide) (by decide) ⟨rfl, N10, Kp⟩
    · show Goes p e below _ T2 (mkF m 33 #[.val (.ref a), .val (.ref b), .val (.int (0 : Int32)), .val (.int (3 : Int32)), .val .null, .unset] [])
      by_cases hk2 : (255 : Int32) < c2
      · show Goes p e below _ T2 (mkF m 33 #[.val (.ref a), .val (.ref b), .val (.int (0 : Int32)), .val (.int (3 : Int32)), .val .null, .unset] [])
        refine Goes.of (fun _ => XS.aloadN X2.here hx rfl (hb hby d13_33) rfl rfl) ?_
        show Goes p e below _ T2 (mkF m 34 #[.val (.ref a), .val (.ref b), .val (.int (0 : Int32)), .val (.int (3 : Int32)), .val .null, .unset] [(.ref b)])
        refine Goes.of (fun _ => XS.iloadN X2.here hx rfl (hb hby d13_34) rfl) ?_
        show Goes p e below _ T2 (mkF m 35 #[.val (.ref a), .val (.ref b), .val (.int (0 : Int32)), .val (.int (3 : Int32)), .val .null, .unset] [(.int (0 : Int32)), (.ref b)])
        refine Goes.of (fun _ => XS.iloadN X2.here hx rfl (hb hby d13_35) rfl) ?_
        show Goes p e below _ T2 (mkF m 36 #[.val (.ref a), .val (.ref b), .val (.int (0 : Int32)), .val (.int (3 : Int32)), .val .null, .unset] [(.int (3 : Int32)), (.int (0 : Int32)), (.ref b)])
        refine goStatic 0 X2 hx hZ hown (hw _ (List.mem_of_getElem? (i := 95) rfl)) (hw _ (List.mem_of_getElem? (i := 96) rfl)) (hw _ (List.mem_of_getElem? (i := 97) rfl)) (hw _ (List.mem_of_getElem? (i := 98) rfl)) (by decide) (rm_comp3_3_2 l Z a0 hw b _ c0 c1 c2 h0 n0 O0 Sa Sh Sl Vb hk0 hk1 hk2 hbd0 hbd1 hbd2) eT2 (g := (mkF m 36 #[.val (.ref a), .val (.ref b), .val (.int (0 : Int32)), .val (.int (3 : Int32)), .val .null, .unset] [(.int (3 : Int32)), (.int (0 : Int32)), (.ref b)])) rfl (by rw [hml]; rfl) [(.ref b), (.int (0 : Int32)), (.int (3 : Int32))] [] (lenOf pd___CII__B rfl) rfl rfl (by show 2 * 0 + _ ≤ _; exact Nat.le_of_eq rfl) (hb hby d13_36) (by decide) (by decide) (by decide) (by decide) ?_
        intro v11 T11 L11 X11 q11
        obtain ⟨tb11, kt11, rfl, Nq11, Kq11, gq11, sq11, Vt11⟩ := q11
        have N11 := Fr.app N0 Nq11
        have g_tb11 : n0 ≤ tb11 := gq11
        have sz_tb11 : h0.size ≤ tb11 := Nat.le_trans Kp.1 sq11
        have ne_a_tb11 : a ≠ tb11 := Nat.ne_of_lt (Nat.lt_of_lt_of_le Ex.lt sq11)
        have ne_b_tb11 : b ≠ tb11 := Nat.ne_of_lt (Nat.lt_of_lt_of_le Vb.lt sq11)
        have Ex := Ex.keep Kq11
        have Fv := Fv.keep Kq11 nin0
        have Fc := Fc.keep Kq11 nin0
        have Vb := Vb.keep Kq11 nin0
        have Kp := Kp.trans Kq11 all0
        have O0 := O0.keep Kq11 all0
        show Goes p e below _ T11 (mkF m 39 #[.val (.ref a), .val (.ref b), .val (.int (0 : Int32)), .val (.int (3 : Int32)), .val .null, .unset] [(.ref tb11)])
        refine Goes.of (fun _ => XS.astore X11.here hx rfl (hb hby d13_39) rfl rfl (l' := #[.val (.ref a), .val (.ref b), .val (.int (0 : Int32)), .val (.int (3 : Int32)), .val .null, .val (.ref tb11)]) rfl) ?_
        show Goes p e below _ T11 (mkF m 41 #[.val (.ref a), .val (.ref b), .val (.int (0 : Int32)), .val (.int (3 : Int32)), .val .null, .val (.ref tb11)] [])
        refine Goes.of (fun _ => XS.aloadN X11.here hx rfl (hb hby d13_41) rfl rfl) ?_
        show Goes p e below _ T11 (mkF m 42 #[.val (.ref a), .val (.ref b), .val (.int (0 : Int32)), .val (.int (3 : Int32)), .val .null, .val (.ref tb11)] [(.ref a)])
        refine Goes.of (fun _ => XS.aload X11.here hx rfl (hb hby d13_42) rfl rfl) ?_
        show Goes p e below _ T11 (mkF m 44 #[.val (.ref a), .val (.ref b), .val (.int (0 : Int32)), .val (.int (3 : Int32)), .val .null, .val (.ref tb11)] [(.ref tb11), (.ref a)])
        refine Goes.of (fun _ => XS.iloadN X11.here hx rfl (hb hby d13_44) rfl) ?_
        show Goes p e below _ T11 (mkF m 45 #[.val (.ref a), .val (.ref b), .val (.int (0 : Int32)), .val (.int (3 : Int32)), .val .null, .val (.ref tb11)] [(.int (3 : Int32)), (.ref tb11), (.ref a)])
        refine goStatic 1 X11 hx hZ hown (hw _ (List.mem_of_getElem? (i := 103) rfl)) (hw _ (List.mem_of_getElem? (i := 104) rfl)) (hw _ (List.mem_of_getElem? (i := 97) rfl)) (hw _ (List.mem_of_getElem? (i := 105) rfl)) (by decide) (rm_coder3_6 l Z a0 hw tb11 _ _ T11.heap n0 O0 Vt11) (rfl : T11.heap = _) (g := (mkF m 45 #[.val (.ref a), .val (.ref b), .val (.int (0 : Int32)), .val (.int (3 : Int32)), .val .null, .val (.ref tb11)] [(.int (3 : Int32)), (.ref tb11), (.ref a)])) rfl (by rw [hml]; rfl) [(.ref tb11), (.int (3 : Int32))] [(.ref a)] (lenOf pd___BI_B rfl) rfl rfl (by show 2 * 0 + _ ≤ _; exact Nat.le_of_eq rfl) (hb hby d13_45) (by decide) (by decide) (by decide) (by decide) ?_
        intro v12 T12 L12 X12 q12
        obtain ⟨rfl, Nq12, eT12⟩ := q12
        have N12 := Fr.app N11 Nq12
        show Goes p e below _ T12 (mkF m 48 #[.val (.ref a), .val (.ref b), .val (.int (0 : Int32)), .val (.int (3 : Int32)), .val .null, .val (.ref tb11)] [(.int (1 : Int32)), (.ref a)])
        refine goPut (ty := .byte) X12 hx hZ hown (host := "") (Or.inl (hw _ (List.mem_of_getElem? (i := 106) rfl))) Via.refl eT12 Fc Ex (Or.inr ⟨(hw _ (List.mem_of_getElem? (i := 107) rfl)), rfl, hnm⟩) (hw _ (List.mem_of_getElem? (i := 83) rfl)) (by decide) rfl rfl (g := (mkF m 48 #[.val (.ref a), .val (.ref b), .val (.int (0 : Int32)), .val (.int (3 : Int32)), .val .null, .val (.ref tb11)] [(.int (1 : Int32)), (.ref a)])) rfl rfl (hb hby d13_48) ?_
        intro T13 h13 X13 eT13 W13
        have Fc := Fld.same W13 Fc
        have N13 := Fr.snoc X13 N12 g_a
        have Ex := Ex.wr W13
        have Fv := Fv.other W13 (Or.inr (slot_ne (Or.inr (hw _ (List.mem_of_getElem? (i := 109) rfl))) (Or.inr (hw _ (List.mem_of_getElem? (i := 107) rfl))) (by decide) (t := (.array .byte)) (t' := .byte) (by decide) (by decide)))
        have Vb := Vb.other W13 (Ne.symm hab)
        have Vt11 := Vt11.other W13 (Ne.symm ne_a_tb11)
        have Kp := Kp.wr W13 (Or.inl (List.mem_of_getElem? (i := 0) rfl))
        have O0 := O0.wr W13 g_a
        show Goes p e below _ T13 (mkF m 51 #[.val (.ref a), .val (.ref b), .val (.int (0 : Int32)), .val (.int (3 : Int32)), .val .null, .val (.ref tb11)] [])
        refine Goes.of (fun _ => XS.aloadN X13.here hx rfl (hb hby d13_51) rfl rfl) ?_
        show Goes p e below _ T13 (mkF m 52 #[.val (.ref a), .val (.ref b), .val (.int (0 : Int32)), .val (.int (3 : Int32)), .val .null, .val (.ref tb11)] [(.ref a)])
        refine Goes.of (fun _ => XS.aload X13.here hx rfl (hb hby d13_52) rfl rfl) ?_
        show Goes p e below _ T13 (mkF m 54 #[.val (.ref a), .val (.ref b), .val (.int (0 : Int32)), .val (.int (3 : Int32)), .val .null, .val (.ref tb11)] [(.ref tb11), (.ref a)])
        refine goPut (ty := (.array .byte)) X13 hx hZ hown (host := "") (Or.inl (hw _ (List.mem_of_getElem? (i := 108) rfl))) Via.refl eT13 Fv Ex (Or.inr ⟨(hw _ (List.mem_of_getElem? (i := 109) rfl)), rfl, hnm⟩) (hw _ (List.mem_of_getElem? (i := 83) rfl)) (by decide) rfl rfl (g := (mkF m 54 #[.val (.ref a), .val (.ref b), .val (.int (0 : Int32)), .val (.int (3 : Int32)), .val .null, .val (.ref tb11)] [(.ref tb11), (.ref a)])) rfl rfl (hb hby d13_54) ?_
        intro T14 h14 X14 eT14 W14
        have Fv := Fld.same W14 Fv
        have N14 := Fr.snoc X14 N13 g_a
        have Ex := Ex.wr W14
        have Fc := Fc.other W14 (Or.inr (slot_ne (Or.inr (hw _ (List.mem_of_getElem? (i := 107) rfl))) (Or.inr (hw _ (List.mem_of_getElem? (i := 109) rfl))) (by decide) (t := .byte) (t' := (.array .byte)) (by decide) (by decide)))
        have Vb := Vb.other W14 (Ne.symm hab)
        have Vt11 := Vt11.other W14 (Ne.symm ne_a_tb11)
        have Kp := Kp.wr W14 (Or.inl (List.mem_of_getElem? (i := 0) rfl))
        have O0 := O0.wr W14 g_a
        show Goes p e below _ T14 (mkF m 57 #[.val (.ref a), .val (.ref b), .val (.int (0 : Int32)), .val (.int (3 : Int32)), .val .null, .val (.ref tb11)] [])
        exact retVoid X14 hx hret hlk (hb hby d13_57) eT14 (by decide) (by decide) ⟨rfl, N14, Kp⟩
      · show Goes p e below _ T2 (mkF m 33 #[.val (.ref a), .val (.ref b), .val (.int (0 : Int32)), .val (.int (3 : Int32)), .val .null, .unset] [])
        refine Goes.of (fun _ => XS.aloadN X2.here hx rfl (hb hby d13_33) rfl rfl) ?_
        show Goes p e below _ T2 (mkF m 34 #[.val (.ref a), .val (.ref b), .val (.int (0 : Int32)), .val (.int (3 : Int32)), .val .null, .unset] [(.ref b)])
        refine Goes.of (fun _ => XS.iloadN X2.here hx rfl (hb hby d13_34) rfl) ?_
        show Goes p e below _ T2 (mkF m 35 #[.val (.ref a), .val (.ref b), .val (.int (0 : Int32)), .val (.int (3 : Int32)), .val .null, .unset] [(.int (0 : Int32)), (.ref b)])
        refine Goes.of (fun _ => XS.iloadN X2.here hx rfl (hb hby d13_35) rfl) ?_
        show Goes p e below _ T2 (mkF m 36 #[.val (.ref a), .val (.ref b), .val (.int (0 : Int32)), .val (.int (3 : Int32)), .val .null, .unset] [(.int (3 : Int32)), (.int (0 : Int32)), (.ref b)])
        refine goStatic 0 X2 hx hZ hown (hw _ (List.mem_of_getElem? (i := 95) rfl)) (hw _ (List.mem_of_getElem? (i := 96) rfl)) (hw _ (List.mem_of_getElem? (i := 97) rfl)) (hw _ (List.mem_of_getElem? (i := 98) rfl)) (by decide) (rm_comp3_3_3 l Z a0 hw b _ c0 c1 c2 h0 n0 O0 Sa Sh Sl Vb hk0 hk1 hk2 hbd0 hbd1 hbd2) eT2 (g := (mkF m 36 #[.val (.ref a), .val (.ref b), .val (.int (0 : Int32)), .val (.int (3 : Int32)), .val .null, .unset] [(.int (3 : Int32)), (.int (0 : Int32)), (.ref b)])) rfl (by rw [hml]; rfl) [(.ref b), (.int (0 : Int32)), (.int (3 : Int32))] [] (lenOf pd___CII__B rfl) rfl rfl (by show 2 * 0 + _ ≤ _; exact Nat.le_of_eq rfl) (hb hby d13_36) (by decide) (by decide) (by decide) (by decide) ?_
        intro v15 T15 L15 X15 q15
        obtain ⟨tb15, kt15, rfl, Nq15, Kq15, gq15, sq15, Vt15⟩ := q15
        have N15 := Fr.app N0 Nq15
        have g_tb15 : n0 ≤ tb15 := gq15
        have sz_tb15 : h0.size ≤ tb15 := Nat.le_trans Kp.1 sq15
        have ne_a_tb15 : a ≠ tb15 := Nat.ne_of_lt (Nat.lt_of_lt_of_le Ex.lt sq15)
        have ne_b_tb15 : b ≠ tb15 := Nat.ne_of_lt (Nat.lt_of_lt_of_le Vb.lt sq15)
        have Ex := Ex.keep Kq15
        have Fv := Fv.keep Kq15 nin0
        have Fc := Fc.keep Kq15 nin0
        have Vb := Vb.keep Kq15 nin0
        have Kp := Kp.trans Kq15 all0
        have O0 := O0.keep Kq15 all0
        show Goes p e below _ T15 (mkF m 39 #[.val (.ref a), .val (.ref b), .val (.int (0 : Int32)), .val (.int (3 : Int32)), .val .null, .unset] [(.ref tb15)])
        refine Goes.of (fun _ => XS.astore X15.here hx rfl (hb hby d13_39) rfl rfl (l' := #[.val (.ref a), .val (.ref b), .val (.int (0 : Int32)), .val (.int (3 : Int32)), .val .null, .val (.ref tb15)]) rfl) ?_
        show Goes p e below _ T15 (mkF m 41 #[.val (.ref a), .val (.ref b), .val (.int (0 : Int32)), .val (.int (3 : Int32)), .val .null, .val (.ref tb15)] [])
        refine Goes.of (fun _ => XS.aloadN X15.here hx rfl (hb hby d13_41) rfl rfl) ?_
        show Goes p e below _ T15 (mkF m 42 #[.val (.ref a), .val (.ref b), .val (.int (0 : Int32)), .val (.int (3 : Int32)), .val .null, .val (.ref tb15)] [(.ref a)])
        refine Goes.of (fun _ => XS.aload X15.here hx rfl (hb hby d13_42) rfl rfl) ?_
        show Goes p e below _ T15 (mkF m 44 #[.val (.ref a), .val (.ref b), .val (.int (0 : Int32)), .val (.int (3 : Int32)), .val .null, .val (.ref tb15)] [(.ref tb15), (.ref a)])
        refine Goes.of (fun _ => XS.iloadN X15.here hx rfl (hb hby d13_44) rfl) ?_
        show Goes p e below _ T15 (mkF m 45 #[.val (.ref a), .val (.ref b), .val (.int (0 : Int32)), .val (.int (3 : Int32)), .val .null, .val (.ref tb15)] [(.int (3 : Int32)), (.ref tb15), (.ref a)])
        refine goStatic 1 X15 hx hZ hown (hw _ (List.mem_of_getElem? (i := 103) rfl)) (hw _ (List.mem_of_getElem? (i := 104) rfl)) (hw _ (List.mem_of_getElem? (i := 97) rfl)) (hw _ (List.mem_of_getElem? (i := 105) rfl)) (by decide) (rm_coder3_3 l Z a0 hw tb15 _ _ T15.heap n0 O0 Vt15) (rfl : T15.heap = _) (g := (mkF m 45 #[.val (.ref a), .val (.ref b), .val (.int (0 : Int32)), .val (.int (3 : Int32)), .val .null, .val (.ref tb15)] [(.int (3 : Int32)), (.ref tb15), (.ref a)])) rfl (by rw [hml]; rfl) [(.ref tb15), (.int (3 : Int32))] [(.ref a)] (lenOf pd___BI_B rfl) rfl rfl (by show 2 * 0 + _ ≤ _; exact Nat.le_of_eq rfl) (hb hby d13_45) (by decide) (by decide) (by decide) (by decide) ?_
        intro v16 T16 L16 X16 q16
        obtain ⟨rfl, Nq16, eT16⟩ := q16
        have N16 := Fr.app N15 Nq16
        show Goes p e below _ T16 (mkF m 48 #[.val (.ref a), .val (.ref b), .val (.int (0 : Int32)), .val (.int (3 : Int32)), .val .null, .val (.ref tb15)] [(.int (0 : Int32)), (.ref a)])
        refine goPut (ty := .byte) X16 hx hZ hown (host := "") (Or.inl (hw _ (List.mem_of_getElem? (i := 106) rfl))) Via.refl eT16 Fc Ex (Or.inr ⟨(hw _ (List.mem_of_getElem? (i := 107) rfl)), rfl, hnm⟩) (hw _ (List.mem_of_getElem? (i := 83) rfl)) (by decide) rfl rfl (g := (mkF m 48 #[.val (.ref a), .val (.ref b), .val (.int (0 : Int32)), .val (.int (3 : Int32)), .val .null, .val (.ref tb15)] [(.int (0 : Int32)), (.ref a)])) rfl rfl (hb hby d13_48) ?_
        intro T17 h17 X17 eT17 W17
        have Fc := Fld.same W17 Fc
        have N17 := Fr.snoc X17 N16 g_a
        have Ex := Ex.wr W17
        have Fv := Fv.other W17 (Or.inr (slot_ne (Or.inr (hw _ (List.mem_of_getElem? (i := 109) rfl))) (Or.inr (hw _ (List.mem_of_getElem? (i := 107) rfl))) (by decide) (t := (.array .byte)) (t' := .byte) (by decide) (by decide)))
        have Vb := Vb.other W17 (Ne.symm hab)
        have Vt15 := Vt15.other W17 (Ne.symm ne_a_tb15)
        have Kp := Kp.wr W17 (Or.inl (List.mem_of_getElem? (i := 0) rfl))
        have O0 := O0.wr W17 g_a
        show Goes p e below _ T17 (mkF m 51 #[.val (.ref a), .val (.ref b), .val (.int (0 : Int32)), .val (.int (3 : Int32)), .val .null, .val (.ref tb15)] [])
        refine Goes.of (fun _ => XS.aloadN X17.here hx rfl (hb hby d13_51) rfl rfl) ?_
        show Goes p e below _ T17 (mkF m 52 #[.val (.ref a), .val (.ref b), .val (.int (0 : Int32)), .val (.int (3 : Int32)), .val .null, .val (.ref tb15)] [(.ref a)])
        refine Goes.of (fun _ => XS.aload X17.here hx rfl (hb hby d13_52) rfl rfl) ?_
        show Goes p e below _ T17 (mkF m 54 #[.val (.ref a), .val (.ref b), .val (.int (0 : Int32)), .val (.int (3 : Int32)), .val .null, .val (.ref tb15)] [(.ref tb15), (.ref a)])
        refine goPut (ty := (.array .byte)) X17 hx hZ hown (host := "") (Or.inl (hw _ (List.mem_of_getElem? (i := 108) rfl))) Via.refl eT17 Fv Ex (Or.inr ⟨(hw _ (List.mem_of_getElem? (i := 109) rfl)), rfl, hnm⟩) (hw _ (List.mem_of_getElem? (i := 83) rfl)) (by decide) rfl rfl (g := (mkF m 54 #[.val (.ref a), .val (.ref b), .val (.int (0 : Int32)), .val (.int (3 : Int32)), .val .null, .val (.ref tb15)] [(.ref tb15), (.ref a)])) rfl rfl (hb hby d13_54) ?_
        intro T18 h18 X18 eT18 W18
        have Fv := Fld.same W18 Fv
        have N18 := Fr.snoc X18 N17 g_a
        have Ex := Ex.wr W18
        have Fc := Fc.other W18 (Or.inr (slot_ne (Or.inr (hw _ (List.mem_of_getElem? (i := 107) rfl))) (Or.inr (hw _ (List.mem_of_getElem? (i := 109) rfl))) (by decide) (t := .byte) (t' := (.array .byte)) (by decide) (by decide)))
        have Vb := Vb.other W18 (Ne.symm hab)
        have Vt15 := Vt15.other W18 (Ne.symm ne_a_tb15)
        have Kp := Kp.wr W18 (Or.inl (List.mem_of_getElem? (i := 0) rfl))
        have O0 := O0.wr W18 g_a
        show Goes p e below _ T18 (mkF m 57 #[.val (.ref a), .val (.ref b), .val (.int (0 : Int32)), .val (.int (3 : Int32)), .val .null, .val (.ref tb15)] [])
        exact retVoid X18 hx hret hlk (hb hby d13_57) eT18 (by decide) (by decide) ⟨rfl, N18, Kp⟩
set_option maxRecDepth 65536 in
set_option maxHeartbeats 40000000 in
theorem rm_sin1_3 (l : Launch) (Z : State) (a0 : Array Value) (hw : ∀ d ∈ tables_1, d.before a0 Z = true) (a b : Addr) (kb : ClassId) (c0 c1 c2 : Int32) (cz : Int32) (h0 : Heap) (n0 : Nat) (O0 : Old Z n0 h0) (Sa : Sta Z Z.heap "java/lang/StringUTF16" "$assertionsDisabled" "Z" (.int (1 : Int32))) (Sh : Sta Z Z.heap "java/lang/StringUTF16" "HI_BYTE_SHIFT" "I" (.int (0 : Int32))) (Sl : Sta Z Z.heap "java/lang/StringUTF16" "LO_BYTE_SHIFT" "I" (.int (8 : Int32))) (Sc : Sta Z Z.heap "java/lang/String" "COMPACT_STRINGS" "Z" (.int cz)) (hcz : ¬ cz = 0) (g_a : n0 ≤ a) (Ex : Exa Z h0 a "java/lang/String") (Fv : Fld Z h0 a "java/lang/String" "value" "[B" .null) (Fc : Fld Z h0 a "java/lang/String" "coder" "B" (.int (0 : Int32))) (hab : a ≠ b) (Vb : Arv Z h0 b kb .char (3 : Int32) [(.int c0), (.int c1), (.int c2)] (.int (0 : Int32))) (hbd0 : ¬ c0 < 0 ∧ ¬ (65535 : Int32) < c0) (hbd1 : ¬ c1 < 0 ∧ ¬ (65535 : Int32) < c1) (hbd2 : ¬ c2 < 0 ∧ ¬ (65535 : Int32) < c2) :
    Rm l (⟨"java/lang/String", "<init>", "([C)V"⟩ : MethodName) jdk_42_method_3_code 2 none ({ frames := 5, cells := 2, slots := 9, locals := 74 } : Room) [] Z #[(.ref a), (.ref b)] h0 (fun v h L => v = none ∧ Fr n0 L ∧ Keep h0 h [a]) := by
  refine Rm.of (plainFor_of_name pn_java_lang_String) ?_
  intro p e s m below meth cod T X hx hZ hby hml hown hnm hret hlk eT0
  have hown : s.vm.findClass "java/lang/String" = some m.cls := hown
  have hnm : meth.name = "<init>" := hnm
  have N0 := Fr.nil n0
  have Kp := Keep.refl h0 [a]
  refine Goes.cast (ef_12 m a b) ?_
  show Goes p e below _ T (mkF m 0 #[.val (.ref a), .val (.ref b)] [])
  refine Goes.of (fun _ => XS.aloadN X.here hx rfl (hb hby d12_0) rfl rfl) ?_
  show Goes p e below _ T (mkF m 1 #[.val (.ref a), .val (.ref b)] [(.ref a)])
  refine Goes.of (fun _ => XS.aloadN X.here hx rfl (hb hby d12_1) rfl rfl) ?_
  show Goes p e below _ T (mkF m 2 #[.val (.ref a), .val (.ref b)] [(.ref b), (.ref a)])
  refine Goes.of (fun _ => XS.iconst X.here hx rfl (hb hby d12_2)) ?_
  show Goes p e below _ T (mkF m 3 #[.val (.ref a), .val (.ref b)] [(.int (0 : Int32)), (.ref b), (.ref a)])
  refine Goes.of (fun _ => XS.aloadN X.here hx rfl (hb hby d12_3) rfl rfl) ?_
  show Goes p e below _ T (mkF m 4 #[.val (.ref a), .val (.ref b)] [(.ref b), (.int (0 : Int32)), (.ref b), (.ref a)])
  refine goLen X hx hZ eT0 Vb (g := (mkF m 4 #[.val (.ref a), .val (.ref b)] [(.ref b), (.int (0 : Int32)), (.ref b), (.ref a)])) rfl rfl (hb hby d12_4) ?_
  show Goes p e below _ T (mkF m 5 #[.val (.ref a), .val (.ref b)] [(.int (3 : Int32)), (.int (0 : Int32)), (.ref b), (.ref a)])
  refine Goes.of (fun _ => XS.aconstNull X.here hx rfl (hb hby d12_5)) ?_
  show Goes p e below _ T (mkF m 6 #[.val (.ref a), .val (.ref b)] [.null, (.int (3 : Int32)), (.int (0 : Int32)), (.ref b), (.ref a)])
  refine goSpecial 0 X hx hZ rfl hown (hw _ (List.mem_of_getElem? (i := 89) rfl)) (hw _ (List.mem_of_getElem? (i := 90) rfl)) (hw _ (List.mem_of_getElem? (i := 84) rfl)) (hw _ (List.mem_of_getElem? (i := 92) rfl)) (by decide) (rm_sin4_3 l Z a0 hw a b _ c0 c1 c2 cz h0 n0 O0 Sa Sh Sl Sc hcz g_a Ex Fv Fc hab Vb hbd0 hbd1 hbd2) eT0 (g := (mkF m 6 #[.val (.ref a), .val (.ref b)] [.null, (.int (3 : Int32)), (.int (0 : Int32)), (.ref b), (.ref a)])) rfl (by rw [hml]; rfl) a [(.ref b), (.int (0 : Int32)), (.int (3 : Int32)), .null] [] (lenOf pd___CIILjava_lang_Void__V rfl) rfl rfl (by show 2 * 0 + _ ≤ _; exact Nat.le_of_eq rfl) (hb hby d12_6) (by decide) (by decide) (by decide) (by decide) ?_
  intro v2 T2 L2 X2 q2
  obtain ⟨rfl, Nq2, Kq2⟩ := q2
  have N2 := Fr.app N0 Nq2
  have Ex := Ex.keep Kq2
  have Vb := Vb.keep Kq2 (ninS (Ne.symm hab) nin0)
  have Kp := Kp.trans Kq2 (allS (Or.inl (List.mem_of_getElem? (i := 0) rfl)) all0)
  have O0 := O0.keep Kq2 (allS g_a all0)
  show Goes p e below _ T2 (mkF m 9 #[.val (.ref a), .val (.ref b)] [])
  exact retVoid X2 hx hret hlk (hb hby d12_9) (rfl : T2.heap = _) (by decide) (by decide) ⟨rfl, N2, Kp⟩
set_option maxRecDepth 65536 in
set_option maxHeartbeats 40000000 in
theorem rm_sinit40 (l : Launch) (Z : State) (a0 : Array Value) (hw : ∀ d ∈ tables_1, d.before a0 Z = true) (a b : Addr) (h0 : Heap) (n0 : Nat) (O0 : Old Z n0 h0) (g_a : n0 ≤ a) (Ex : Exa Z h0 a "java/lang/String") (Fv : Fld Z h0 a "java/lang/String" "value" "[B" .null) (Fc : Fld Z h0 a "java/lang/String" "coder" "B" (.int (0 : Int32))) :
    RmH l (⟨"java/lang/String", "<init>", "([CIILjava/lang/Void;)V"⟩ : MethodName) jdk_42_method_149_code 6 none ({ frames := 1, cells := 4, slots := 8, locals := 12 } : Room) [] Z EL #[(.ref a), (.ref b), (.int (0 : Int32)), (.int (0 : Int32)), .null] h0 (fun v h L => v = none ∧ Fr n0 L ∧ Keep h0 h [a]) := by
  refine RmH.of (plainFor_of_name pn_java_lang_String) ?_
  intro p e s m below meth cod T X hx hZ hby hml hown hnm hret hlk eT0 hS hk HC
  have hEL := hELof hw
  have wS := wSof hw
  have hown : s.vm.findClass "java/lang/String" = some m.cls := hown
  have hnm : meth.name = "<init>" := hnm
  have N0 := Fr.nil n0
  have Kp := Keep.refl h0 [a]
  have Sf0 : Safe Z EL s.vm h0 a := safeNull hZ.alike Ex Fv
  refine Goes.cast (ef_13n4 m a b (0 : Int32) (0 : Int32)) ?_
  show Goes p e below _ T (mkF m 0 #[.val (.ref a), .val (.ref b), .val (.int (0 : Int32)), .val (.int (0 : Int32)), .val .null, .unset] [])
  refine Goes.of (fun _ => XS.aloadN X.here hx rfl (hb hby d13_0) rfl rfl) ?_
  show Goes p e below _ T (mkF m 1 #[.val (.ref a), .val (.ref b), .val (.int (0 : Int32)), .val (.int (0 : Int32)), .val .null, .unset] [(.ref a)])
  refine goInitO 0 X hx hZ hown (hw _ (List.mem_of_getElem? (i := 93) rfl)) (hw _ (List.mem_of_getElem? (i := 31) rfl)) (hw _ (List.mem_of_getElem? (i := 32) rfl)) eT0 (g := (mkF m 1 #[.val (.ref a), .val (.ref b), .val (.int (0 : Int32)), .val (.int (0 : Int32)), .val .null, .unset] [(.ref a)])) rfl (by rw [hml]; rfl) rfl (hb hby d13_1) (by decide) (by show 2 * 0 + _ ≤ _; exact Nat.le_of_eq rfl) (by decide) ?_
  intro T1 X1 eT1
  show Goes p e below _ T1 (mkF m 4 #[.val (.ref a), .val (.ref b), .val (.int (0 : Int32)), .val (.int (0 : Int32)), .val .null, .unset] [])
  refine Goes.of (fun _ => XS.iloadN X1.here hx rfl (hb hby d13_4) rfl) ?_
  show Goes p e below _ T1 (mkF m 5 #[.val (.ref a), .val (.ref b), .val (.int (0 : Int32)), .val (.int (0 : Int32)), .val .null, .unset] [(.int (0 : Int32))])
  refine Goes.of (fun _ => XS.ifNo X1.here hx rfl (hb hby d13_5) rfl ((if0 _ _).trans (teq (by decide)).2)) ?_
  show Goes p e below _ T1 (mkF m 8 #[.val (.ref a), .val (.ref b), .val (.int (0 : Int32)), .val (.int (0 : Int32)), .val .null, .unset] [])
  refine Goes.of (fun _ => XS.aloadN X1.here hx rfl (hb hby d13_8) rfl rfl) ?_
  show Goes p e below _ T1 (mkF m 9 #[.val (.ref a), .val (.ref b), .val (.int (0 : Int32)), .val (.int (0 : Int32)), .val .null, .unset] [(.ref a)])
  refine goLdcC (z := (0 : Int32)) (vs := []) 0 X1 hS hk hEL (by decide) HC hx hZ hown (hw _ (List.mem_of_getElem? (i := 135) rfl)) wS eT1 (by decide) (by decide) (by decide) (g := (mkF m 9 #[.val (.ref a), .val (.ref b), .val (.int (0 : Int32)), .val (.int (0 : Int32)), .val .null, .unset] [(.ref a)])) rfl (hb hby d13_9) (by decide) (by decide) (by decide) (by decide) ?_
  intro s2 T2 h2 kk2 d2 kd2 X2 eT2 E2 hS hk hZ hown HC CH2 Es2 Fc2 Fv2 Vd2 hs2
  have Sg_a := CH2.safe Ex.lt Sf0
  have Ex := Ex.ext E2
  have Fv := Fv.ext E2
  have Fc := Fc.ext E2
  have Kp := Kp.ext E2
  have O0 := O0.ext E2
  have ne_a_s2 : a ≠ s2 := (hs2 a Sg_a).1
  have ne_a_d2 : a ≠ d2 := (hs2 a Sg_a).2
  show Goes p e below _ T2 (mkF m 11 #[.val (.ref a), .val (.ref b), .val (.int (0 : Int32)), .val (.int (0 : Int32)), .val .null, .unset] [(.ref s2), (.ref a)])
  refine goGet X2 hx hZ hown (host := "") (Or.inl (hw _ (List.mem_of_getElem? (i := 108) rfl))) Via.refl eT2 Fv2 (g := (mkF m 11 #[.val (.ref a), .val (.ref b), .val (.int (0 : Int32)), .val (.int (0 : Int32)), .val .null, .unset] [(.ref s2), (.ref a)])) rfl rfl (hb hby d13_11) ?_
  intro T3 X3 eT3
  show Goes p e below _ T3 (mkF m 14 #[.val (.ref a), .val (.ref b), .val (.int (0 : Int32)), .val (.int (0 : Int32)), .val .null, .unset] [(.ref d2), (.ref a)])
  have Sf_a := Sg_a
  refine goPut (ty := (.array .byte)) X3 hx hZ hown (host := "") (Or.inl (hw _ (List.mem_of_getElem? (i := 108) rfl))) Via.refl eT3 Fv Ex (Or.inr ⟨(hw _ (List.mem_of_getElem? (i := 109) rfl)), rfl, hnm⟩) (hw _ (List.mem_of_getElem? (i := 83) rfl)) (by decide) rfl rfl (g := (mkF m 14 #[.val (.ref a), .val (.ref b), .val (.int (0 : Int32)), .val (.int (0 : Int32)), .val .null, .unset] [(.ref d2), (.ref a)])) rfl rfl (hb hby d13_14) ?_
  intro T4 h4 X4 eT4 W4
  have Fv := Fld.same W4 Fv
  have N4 := Fr.snoc X4 N0 g_a
  have Ex := Ex.wr W4
  have Fc := Fc.other W4 (Or.inr (slot_ne (Or.inr (hw _ (List.mem_of_getElem? (i := 107) rfl))) (Or.inr (hw _ (List.mem_of_getElem? (i := 109) rfl))) (by decide) (t := .byte) (t' := (.array .byte)) (by decide) (by decide)))
  have Es2 := Es2.wr W4
  have Fc2 := Fc2.other W4 (Or.inl (Ne.symm ne_a_s2))
  have Fv2 := Fv2.other W4 (Or.inl (Ne.symm ne_a_s2))
  have Vd2 := Vd2.other W4 (Ne.symm ne_a_d2)
  have Kp := Kp.wr W4 (Or.inl (List.mem_of_getElem? (i := 0) rfl))
  have Sg_a := Safe.wr W4 Sf_a HC.1 Sg_a
  have HC := HC.trans (CHr.wr W4 Sf_a HC.1)
  have hk := Nat.le_trans hk (Nat.le_of_eq (Wr.size W4).symm)
  have O0 := O0.wr W4 g_a
  show Goes p e below _ T4 (mkF m 17 #[.val (.ref a), .val (.ref b), .val (.int (0 : Int32)), .val (.int (0 : Int32)), .val .null, .unset] [])
  refine Goes.of (fun _ => XS.aloadN X4.here hx rfl (hb hby d13_17) rfl rfl) ?_
  show Goes p e below _ T4 (mkF m 18 #[.val (.ref a), .val (.ref b), .val (.int (0 : Int32)), .val (.int (0 : Int32)), .val .null, .unset] [(.ref a)])
  refine goLdcC (z := (0 : Int32)) (vs := []) 0 X4 hS hk hEL (by decide) HC hx hZ hown (hw _ (List.mem_of_getElem? (i := 135) rfl)) wS eT4 (by decide) (by decide) (by decide) (g := (mkF m 18 #[.val (.ref a), .val (.ref b), .val (.int (0 : Int32)), .val (.int (0 : Int32)), .val .null, .unset] [(.ref a)])) rfl (hb hby d13_18) (by decide) (by decide) (by decide) (by decide) ?_
  intro s5 T5 h5 kk5 d5 kd5 X5 eT5 E5 hS hk hZ hown HC CH5 Es5 Fc5 Fv5 Vd5 hs5
  have Sg_a := CH5.safe Ex.lt Sg_a
  have Ex := Ex.ext E5
  have Fv := Fv.ext E5
  have Fc := Fc.ext E5
  have Es2 := Es2.ext E5
  have Fc2 := Fc2.ext E5
  have Fv2 := Fv2.ext E5
  have Vd2 := Vd2.ext E5
  have Kp := Kp.ext E5
  have O0 := O0.ext E5
  have ne_a_s5 : a ≠ s5 := (hs5 a Sg_a).1
  have ne_a_d5 : a ≠ d5 := (hs5 a Sg_a).2
  show Goes p e below _ T5 (mkF m 20 #[.val (.ref a), .val (.ref b), .val (.int (0 : Int32)), .val (.int (0 : Int32)), .val .null, .unset] [(.ref s5), (.ref a)])
  refine goGet X5 hx hZ hown (host := "") (Or.inl (hw _ (List.mem_of_getElem? (i := 106) rfl))) Via.refl eT5 Fc5 (g := (mkF m 20 #[.val (.ref a), .val (.ref b), .val (.int (0 : Int32)), .val (.int (0 : Int32)), .val .null, .unset] [(.ref s5), (.ref a)])) rfl rfl (hb hby d13_20) ?_
  intro T6 X6 eT6
  show Goes p e below _ T6 (mkF m 23 #[.val (.ref a), .val (.ref b), .val (.int (0 : Int32)), .val (.int (0 : Int32)), .val .null, .unset] [(.int (0 : Int32)), (.ref a)])
  have Sf_a := Sg_a
  refine goPut (ty := .byte) X6 hx hZ hown (host := "") (Or.inl (hw _ (List.mem_of_getElem? (i := 106) rfl))) Via.refl eT6 Fc Ex (Or.inr ⟨(hw _ (List.mem_of_getElem? (i := 107) rfl)), rfl, hnm⟩) (hw _ (List.mem_of_getElem? (i := 83) rfl)) (by decide) rfl rfl (g := (mkF m 23 #[.val (.ref a), .val (.ref b), .val (.int (0 : Int32)), .val (.int (0 : Int32)), .val .null, .unset] [(.int (0 : Int32)), (.ref a)])) rfl rfl (hb hby d13_23) ?_
  intro T7 h7 X7 eT7 W7
  have Fc := Fld.same W7 Fc
  have N7 := Fr.snoc X7 N4 g_a
  have Ex := Ex.wr W7
  have Fv := Fv.other W7 (Or.inr (slot_ne (Or.inr (hw _ (List.mem_of_getElem? (i := 109) rfl))) (Or.inr (hw _ (List.mem_of_getElem? (i := 107) rfl))) (by decide) (t := (.array .byte)) (t' := .byte) (by decide) (by decide)))
  have Es2 := Es2.wr W7
  have Fc2 := Fc2.other W7 (Or.inl (Ne.symm ne_a_s2))
  have Fv2 := Fv2.other W7 (Or.inl (Ne.symm ne_a_s2))
  have Vd2 := Vd2.other W7 (Ne.symm ne_a_d2)
  have Es5 := Es5.wr W7
  have Fc5 := Fc5.other W7 (Or.inl (Ne.symm ne_a_s5))
  have Fv5 := Fv5.other W7 (Or.inl (Ne.symm ne_a_s5))
  have Vd5 := Vd5.other W7 (Ne.symm ne_a_d5)
  have Kp := Kp.wr W7 (Or.inl (List.mem_of_getElem? (i := 0) rfl))
  have Sg_a := Safe.wr W7 Sf_a HC.1 Sg_a
  have HC := HC.trans (CHr.wr W7 Sf_a HC.1)
  have hk := Nat.le_trans hk (Nat.le_of_eq (Wr.size W7).symm)
  have O0 := O0.wr W7 g_a
  show Goes p e below _ T7 (mkF m 26 #[.val (.ref a), .val (.ref b), .val (.int (0 : Int32)), .val (.int (0 : Int32)), .val .null, .unset] [])
  exact retVoidW X7 hS hk hZ hEL HC hx hret hlk (hb hby d13_26) eT7 (by decide) (by decide) ⟨rfl, N7, Kp⟩
set_option maxRecDepth 65536 in
set_option maxHeartbeats 40000000 in
theorem rm_sinit0 (l : Launch) (Z : State) (a0 : Array Value) (hw : ∀ d ∈ tables_1, d.before a0 Z = true) (a b : Addr) (kb : ClassId) (vs : List Value) (dv : Value) (h0 : Heap) (n0 : Nat) (O0 : Old Z n0 h0) (g_a : n0 ≤ a) (Ex : Exa Z h0 a "java/lang/String") (Fv : Fld Z h0 a "java/lang/String" "value" "[B" .null) (Fc : Fld Z h0 a "java/lang/String" "coder" "B" (.int (0 : Int32))) (hab : a ≠ b) (Vb : Arv Z h0 b kb .char (0 : Int32) vs dv) :
    RmH l (⟨"java/lang/String", "<init>", "([C)V"⟩ : MethodName) jdk_42_method_3_code 2 none ({ frames := 2, cells := 4, slots := 8, locals := 29 } : Room) [] Z EL #[(.ref a), (.ref b)] h0 (fun v h L => v = none ∧ Fr n0 L ∧ Keep h0 h [a]) := by
  refine RmH.of (plainFor_of_name pn_java_lang_String) ?_
  intro p e s m below meth cod T X hx hZ hby hml hown hnm hret hlk eT0 hS hk HC
  have hEL := hELof hw
  have wS := wSof hw
  have hown : s.vm.findClass "java/lang/String" = some m.cls := hown
  have hnm : meth.name = "<init>" := hnm
  have N0 := Fr.nil n0
  have Kp := Keep.refl h0 [a]
  refine Goes.cast (ef_12 m a b) ?_
  show Goes p e below _ T (mkF m 0 #[.val (.ref a), .val (.ref b)] [])
  refine Goes.of (fun _ => XS.aloadN X.here hx rfl (hb hby d12_0) rfl rfl) ?_
  show Goes p e below _ T (mkF m 1 #[.val (.ref a), .val (.ref b)] [(.ref a)])
  refine Goes.of (fun _ => XS.aloadN X.here hx rfl (hb hby d12_1) rfl rfl) ?_
  show Goes p e below _ T (mkF m 2 #[.val (.ref a), .val (.ref b)] [(.ref b), (.ref a)])
  refine Goes.of (fun _ => XS.iconst X.here hx rfl (hb hby d12_2)) ?_
  show Goes p e below _ T (mkF m 3 #[.val (.ref a), .val (.ref b)] [(.int (0 : Int32)), (.ref b), (.ref a)])
  refine Goes.of (fun _ => XS.aloadN X.here hx rfl (hb hby d12_3) rfl rfl) ?_
  show Goes p e below _ T (mkF m 4 #[.val (.ref a), .val (.ref b)] [(.ref b), (.int (0 : Int32)), (.ref b), (.ref a)])
  refine goLen X hx hZ eT0 Vb (g := (mkF m 4 #[.val (.ref a), .val (.ref b)] [(.ref b), (.int (0 : Int32)), (.ref b), (.ref a)])) rfl rfl (hb hby d12_4) ?_
  show Goes p e below _ T (mkF m 5 #[.val (.ref a), .val (.ref b)] [(.int (0 : Int32)), (.int (0 : Int32)), (.ref b), (.ref a)])
  refine Goes.of (fun _ => XS.aconstNull X.here hx rfl (hb hby d12_5)) ?_
  show Goes p e below _ T (mkF m 6 #[.val (.ref a), .val (.ref b)] [.null, (.int (0 : Int32)), (.int (0 : Int32)), (.ref b), (.ref a)])
  refine goSpecialW 0 X hS hk hEL HC hx hZ rfl hown (hw _ (List.mem_of_getElem? (i := 89) rfl)) (hw _ (List.mem_of_getElem? (i := 90) rfl)) (hw _ (List.mem_of_getElem? (i := 84) rfl)) (hw _ (List.mem_of_getElem? (i := 92) rfl)) (by decide) (rm_sinit40 l Z a0 hw a b h0 n0 O0 g_a Ex Fv Fc) eT0 (g := (mkF m 6 #[.val (.ref a), .val (.ref b)] [.null, (.int (0 : Int32)), (.int (0 : Int32)), (.ref b), (.ref a)])) rfl (by rw [hml]; rfl) a [(.ref b), (.int (0 : Int32)), (.int (0 : Int32)), .null] [] (lenOf pd___CIILjava_lang_Void__V rfl) rfl rfl (by show 2 * 0 + _ ≤ _; exact Nat.le_of_eq rfl) (hb hby d12_6) (by decide) (by decide) (by decide) (by decide) ?_
  intro v2 T2 L2 kk2 X2 hS hk hZ hown HC q2
  obtain ⟨rfl, Nq2, Kq2⟩ := q2
  have N2 := Fr.app N0 Nq2
  have Ex := Ex.keep Kq2
  have Vb := Vb.keep Kq2 (ninS (Ne.symm hab) nin0)
  have Kp := Kp.trans Kq2 (allS (Or.inl (List.mem_of_getElem? (i := 0) rfl)) all0)
  have O0 := O0.keep Kq2 (allS g_a all0)
  show Goes p e below _ T2 (mkF m 9 #[.val (.ref a), .val (.ref b)] [])
  exact retVoidW X2 hS hk hZ hEL HC hx hret hlk (hb hby d12_9) (rfl : T2.heap = _) (by decide) (by decide) ⟨rfl, N2, Kp⟩
set_option maxRecDepth 65536 in
set_option maxHeartbeats 40000000 in
theorem rm_can0 (l : Launch) (Z : State) (a0 : Array Value) (hw : ∀ d ∈ tables_1, d.before a0 Z = true) (c : Int32) (h0 : Heap) (n0 : Nat) (O0 : Old Z n0 h0) (hc : (255 : Int32) < c) :
    Rm l (⟨"java/lang/StringLatin1", "canEncode", "(C)Z"⟩ : MethodName) jdk_43_method_3_code 1 (some .boolean) ({ frames := 0, cells := 0, slots := 0, locals := 0 } : Room) [] Z #[(.int c)] h0 (fun v h L => v = some (.int (0 : Int32)) ∧ Fr n0 L ∧ h = h0) := by
  refine Rm.of (plainFor_of_name pn_java_lang_StringLatin1) ?_
  intro p e s m below meth cod T X hx hZ hby hml hown hnm hret hlk eT0
  have hown : s.vm.findClass "java/lang/StringLatin1" = some m.cls := hown
  have hnm : meth.name = "canEncode" := hnm
  have N0 := Fr.nil n0
  refine Goes.cast (ef_19 m c) ?_
  show Goes p e below _ T (mkF m 0 #[.val (.int c)] [])
  refine Goes.of (fun _ => XS.iloadN X.here hx rfl (hb hby d19_0) rfl) ?_
  show Goes p e below _ T (mkF m 1 #[.val (.int c)] [(.int c)])
  refine Goes.of (fun _ => XS.sipush X.here hx rfl (hb hby d19_1)) ?_
  show Goes p e below _ T (mkF m 4 #[.val (.int c)] [(.int (255 : Int32)), (.int c)])
  refine Goes.of (fun _ => XS.icmpYes X.here hx rfl (pc0 := 4) (pc' := 11) rfl (hb hby d19_4) rfl (tlt hc).2.2.1 (by decide) (by decide)) ?_
  show Goes p e below _ T (mkF m 11 #[.val (.int c)] [])
  refine Goes.of (fun _ => XS.iconst X.here hx rfl (hb hby d19_11)) ?_
  show Goes p e below _ T (mkF m 12 #[.val (.int c)] [(.int (0 : Int32))])
  exact retZ (t := .boolean) X hx hret hlk (by simp) (hb hby d19_12) eT0 (by decide) (by decide) ⟨rfl, N0, rfl⟩
set_option maxRecDepth 65536 in
set_option maxHeartbeats 40000000 in
theorem rm_can1 (l : Launch) (Z : State) (a0 : Array Value) (hw : ∀ d ∈ tables_1, d.before a0 Z = true) (c : Int32) (h0 : Heap) (n0 : Nat) (O0 : Old Z n0 h0) (hc : ¬ (255 : Int32) < c) :
    Rm l (⟨"java/lang/StringLatin1", "canEncode", "(C)Z"⟩ : MethodName) jdk_43_method_3_code 1 (some .boolean) ({ frames := 0, cells := 0, slots := 0, locals := 0 } : Room) [] Z #[(.int c)] h0 (fun v h L => v = some (.int (1 : Int32)) ∧ Fr n0 L ∧ h = h0) := by
  refine Rm.of (plainFor_of_name pn_java_lang_StringLatin1) ?_
  intro p e s m below meth cod T X hx hZ hby hml hown hnm hret hlk eT0
  have hown : s.vm.findClass "java/lang/StringLatin1" = some m.cls := hown
  have hnm : meth.name = "canEncode" := hnm
  have N0 := Fr.nil n0
  refine Goes.cast (ef_19 m c) ?_
  show Goes p e below _ T (mkF m 0 #[.val (.int c)] [])
  refine Goes.of (fun _ => XS.iloadN X.here hx rfl (hb hby d19_0) rfl) ?_
  show Goes p e below _ T (mkF m 1 #[.val (.int c)] [(.int c)])
  refine Goes.of (fun _ => XS.sipush X.here hx rfl (hb hby d19_1)) ?_
  show Goes p e below _ T (mkF m 4 #[.val (.int c)] [(.int (255 : Int32)), (.int c)])
  refine Goes.of (fun _ => XS.icmpNo X.here hx rfl (hb hby d19_4) rfl (flt hc).2.2.1) ?_
  show Goes p e below _ T (mkF m 7 #[.val (.int c)] [])
  refine Goes.of (fun _ => XS.iconst X.here hx rfl (hb hby d19_7)) ?_
  show Goes p e below _ T (mkF m 8 #[.val (.int c)] [(.int (1 : Int32))])
  refine Goes.of (fun _ => XS.goto X.here hx rfl (pc0 := 8) (pc' := 12) rfl (hb hby d19_8) (by decide) (by decide)) ?_
  show Goes p e below _ T (mkF m 12 #[.val (.int c)] [(.int (1 : Int32))])
  exact retZ (t := .boolean) X hx hret hlk (by simp) (hb hby d19_12) eT0 (by decide) (by decide) ⟨rfl, N0, rfl⟩
set_option maxRecDepth 65536 in
set_option maxHeartbeats 40000000 in
theorem rm_tobl (l : Launch) (Z : State) (a0 : Array Value) (hw : ∀ d ∈ tables_1, d.before a0 Z = true) (c : Int32) (h0 : Heap) (n0 : Nat) (O0 : Old Z n0 h0)  :
    Rm l (⟨"java/lang/StringLatin1", "toBytes", "(C)[B"⟩ : MethodName) jdk_43_method_46_code 1 (some (.array .byte)) ({ frames := 0, cells := 1, slots := 1, locals := 0 } : Room) [] Z #[(.int c)] h0 (fun v h L => ∃ (b : Addr) (kb : ClassId), v = some (.ref b) ∧ Fr n0 L ∧ Keep h0 h [] ∧ n0 ≤ b ∧ h0.size ≤ b ∧ Arv Z h b kb .byte (1 : Int32) [(.int (nar .byte (c.toInt8.toInt32)))] (.int (0 : Int32))) := by
  refine Rm.of (plainFor_of_name pn_java_lang_StringLatin1) ?_
  intro p e s m below meth cod T X hx hZ hby hml hown hnm hret hlk eT0
  have hown : s.vm.findClass "java/lang/StringLatin1" = some m.cls := hown
  have hnm : meth.name = "toBytes" := hnm
  have N0 := Fr.nil n0
  have Kp := Keep.refl h0 []
  refine Goes.cast (ef_27 m c) ?_
  show Goes p e below _ T (mkF m 0 #[.val (.int c)] [])
  refine Goes.of (fun _ => XS.iconst X.here hx rfl (hb hby d27_0)) ?_
  show Goes p e below _ T (mkF m 1 #[.val (.int c)] [(.int (1 : Int32))])
  refine goNewP 1 X hx hZ (hw _ (List.mem_of_getElem? (i := 99) rfl)) eT0 (g := (mkF m 1 #[.val (.int c)] [(.int (1 : Int32))])) rfl (hb hby d27_1) rfl (by decide) (by decide) (by decide) (by decide) (by decide) (ad := "[B") (by first | rfl | decide) ?_
  intro T1 h1 b1 kA1 X1 eT1 E1 hb1 V1 A1
  have g_b1 : n0 ≤ b1 := Nat.le_trans (oldLe O0) hb1
  have sz_b1 : h0.size ≤ b1 := Nat.le_trans Kp.1 hb1
  have Kp := Kp.ext E1
  have O0 := O0.ext E1
  have V1 : Arv Z h1 b1 kA1 .byte (1 : Int32) [(.int (0 : Int32))] (.int (0 : Int32)) := V1
  show Goes p e below _ T1 (mkF m 3 #[.val (.int c)] [(.ref b1)])
  refine Goes.of (fun _ => XS.dup X1.here hx rfl (hb hby d27_3) rfl rfl) ?_
  show Goes p e below _ T1 (mkF m 4 #[.val (.int c)] [(.ref b1), (.ref b1)])
  refine Goes.of (fun _ => XS.iconst X1.here hx rfl (hb hby d27_4)) ?_
  show Goes p e below _ T1 (mkF m 5 #[.val (.int c)] [(.int (0 : Int32)), (.ref b1), (.ref b1)])
  refine Goes.of (fun _ => XS.iloadN X1.here hx rfl (hb hby d27_5) rfl) ?_
  show Goes p e below _ T1 (mkF m 6 #[.val (.int c)] [(.int c), (.int (0 : Int32)), (.ref b1), (.ref b1)])
  refine Goes.of (fun _ => XS.i2b X1.here hx rfl (hb hby d27_6) rfl) ?_
  show Goes p e below _ T1 (mkF m 7 #[.val (.int c)] [(.int (c.toInt8.toInt32)), (.int (0 : Int32)), (.ref b1), (.ref b1)])
  refine goStB 0 X1 hx hZ eT1 V1 (by decide) (by decide) rfl (Nat.lt_of_lt_of_le (Nat.lt_succ_self _) (Nat.le_of_ble_eq_true rfl)) (g := (mkF m 7 #[.val (.int c)] [(.int (c.toInt8.toInt32)), (.int (0 : Int32)), (.ref b1), (.ref b1)])) rfl rfl (hb hby d27_7) ?_
  intro T2 h2 X2 eT2 W2 V1
  have N2 := Fr.snoc X2 N0 g_b1
  have A1 := A1.wr W2
  have Kp := Kp.wr W2 (Or.inr sz_b1)
  have O0 := O0.wr W2 g_b1
  have V1 : Arv Z h2 b1 kA1 .byte (1 : Int32) [(.int (nar .byte (c.toInt8.toInt32)))] (.int (0 : Int32)) := V1
  show Goes p e below _ T2 (mkF m 8 #[.val (.int c)] [(.ref b1)])
  exact retRef X2 hx hret hlk rfl rfl (hb hby d27_8) eT2 (by decide) (by decide) ⟨b1, _, rfl, N2, Kp, g_b1, sz_b1, V1⟩
set_option maxRecDepth 65536 in
set_option maxHeartbeats 40000000 in
theorem rm_tobu (l : Launch) (Z : State) (a0 : Array Value) (hw : ∀ d ∈ tables_1, d.before a0 Z = true) (c : Int32) (h0 : Heap) (n0 : Nat) (O0 : Old Z n0 h0) (Sa : Sta Z Z.heap "java/lang/StringUTF16" "$assertionsDisabled" "Z" (.int (1 : Int32))) (Sh : Sta Z Z.heap "java/lang/StringUTF16" "HI_BYTE_SHIFT" "I" (.int (0 : Int32))) (Sl : Sta Z Z.heap "java/lang/StringUTF16" "LO_BYTE_SHIFT" "I" (.int (8 : Int32))) :
    Rm l (⟨"java/lang/StringUTF16", "toBytes", "(C)[B"⟩ : MethodName) jdk_52_method_24_code 2 (some (.array .byte)) ({ frames := 1, cells := 1, slots := 2, locals := 14 } : Room) [] Z #[(.int c)] h0 (fun v h L => ∃ (b : Addr) (kb : ClassId), v = some (.ref b) ∧ Fr n0 L ∧ Keep h0 h [] ∧ n0 ≤ b ∧ h0.size ≤ b ∧ Arv Z h b kb .byte (2 : Int32) [(.int (nar .byte ((c >>> ((0 : Int32) &&& 31)).toInt8.toInt32))), (.int (nar .byte ((c >>> ((8 : Int32) &&& 31)).toInt8.toInt32)))] (.int (0 : Int32))) := by
  refine Rm.of (plainFor_of_name pn_java_lang_StringUTF16) ?_
  intro p e s m below meth cod T X hx hZ hby hml hown hnm hret hlk eT0
  have hown : s.vm.findClass "java/lang/StringUTF16" = some m.cls := hown
  have hnm : meth.name = "toBytes" := hnm
  have N0 := Fr.nil n0
  have Kp := Keep.refl h0 []
  refine Goes.cast (ef_20 m c) ?_
  show Goes p e below _ T (mkF m 0 #[.val (.int c), .unset] [])
  refine Goes.of (fun _ => XS.iconst X.here hx rfl (hb hby d20_0)) ?_
  show Goes p e below _ T (mkF m 1 #[.val (.int c), .unset] [(.int (2 : Int32))])
  refine goNewP 2 X hx hZ (hw _ (List.mem_of_getElem? (i := 99) rfl)) eT0 (g := (mkF m 1 #[.val (.int c), .unset] [(.int (2 : Int32))])) rfl (hb hby d20_1) rfl (by decide) (by decide) (by decide) (by decide) (by decide) (ad := "[B") (by first | rfl | decide) ?_
  intro T1 h1 b1 kA1 X1 eT1 E1 hb1 V1 A1
  have g_b1 : n0 ≤ b1 := Nat.le_trans (oldLe O0) hb1
  have sz_b1 : h0.size ≤ b1 := Nat.le_trans Kp.1 hb1
  have Kp := Kp.ext E1
  have O0 := O0.ext E1
  have V1 : Arv Z h1 b1 kA1 .byte (2 : Int32) [(.int (0 : Int32)), (.int (0 : Int32))] (.int (0 : Int32)) := V1
  show Goes p e below _ T1 (mkF m 3 #[.val (.int c), .unset] [(.ref b1)])
  refine Goes.of (fun _ => XS.astoreN X1.here hx rfl (hb hby d20_3) rfl rfl (l' := #[.val (.int c), .val (.ref b1)]) rfl) ?_
  show Goes p e below _ T1 (mkF m 4 #[.val (.int c), .val (.ref b1)] [])
  refine Goes.of (fun _ => XS.aloadN X1.here hx rfl (hb hby d20_4) rfl rfl) ?_
  show Goes p e below _ T1 (mkF m 5 #[.val (.int c), .val (.ref b1)] [(.ref b1)])
  refine Goes.of (fun _ => XS.iconst X1.here hx rfl (hb hby d20_5)) ?_
  show Goes p e below _ T1 (mkF m 6 #[.val (.int c), .val (.ref b1)] [(.int (0 : Int32)), (.ref b1)])
  refine Goes.of (fun _ => XS.iloadN X1.here hx rfl (hb hby d20_6) rfl) ?_
  show Goes p e below _ T1 (mkF m 7 #[.val (.int c), .val (.ref b1)] [(.int c), (.int (0 : Int32)), (.ref b1)])
  refine goStatic 0 X1 hx hZ hown (hw _ (List.mem_of_getElem? (i := 126) rfl)) (hw _ (List.mem_of_getElem? (i := 127) rfl)) (hw _ (List.mem_of_getElem? (i := 97) rfl)) (hw _ (List.mem_of_getElem? (i := 128) rfl)) (by decide) (rm_put2_0 l Z a0 hw b1 _ (0 : Int32) (0 : Int32) c h1 n0 O0 Sa Sh Sl g_b1 V1) eT1 (g := (mkF m 7 #[.val (.int c), .val (.ref b1)] [(.int c), (.int (0 : Int32)), (.ref b1)])) rfl (by rw [hml]; rfl) [(.ref b1), (.int (0 : Int32)), (.int c)] [] (lenOf pd___BII_V rfl) rfl rfl (by show 2 * 0 + _ ≤ _; exact Nat.le_of_eq rfl) (hb hby d20_7) (by decide) (by decide) (by decide) (by decide) ?_
  intro v2 T2 L2 X2 q2
  obtain ⟨rfl, Nq2, Kq2, Vp2⟩ := q2
  have N2 := Fr.app N0 Nq2
  have A1 := A1.keep Kq2
  have Kp := Kp.trans Kq2 (allS (Or.inr sz_b1) all0)
  have O0 := O0.keep Kq2 (allS g_b1 all0)
  show Goes p e below _ T2 (mkF m 10 #[.val (.int c), .val (.ref b1)] [])
  refine Goes.of (fun _ => XS.aloadN X2.here hx rfl (hb hby d20_10) rfl rfl) ?_
  show Goes p e below _ T2 (mkF m 11 #[.val (.int c), .val (.ref b1)] [(.ref b1)])
  exact retRef X2 hx hret hlk rfl rfl (hb hby d20_11) (rfl : T2.heap = _) (by decide) (by decide) ⟨b1, _, rfl, N2, Kp, g_b1, sz_b1, Vp2⟩
set_option maxRecDepth 65536 in
set_option maxHeartbeats 40000000 in
theorem rm_newbb0 (l : Launch) (Z : State) (a0 : Array Value) (hw : ∀ d ∈ tables_1, d.before a0 Z = true) (a b : Addr) (h0 : Heap) (n0 : Nat) (O0 : Old Z n0 h0) (g_a : n0 ≤ a) (Ex : Exa Z h0 a "java/lang/String") (Fv : Fld Z h0 a "java/lang/String" "value" "[B" .null) (Fc : Fld Z h0 a "java/lang/String" "coder" "B" (.int (0 : Int32))) :
    Rm l (⟨"java/lang/String", "<init>", "([BB)V"⟩ : MethodName) jdk_42_method_151_code 3 none ({ frames := 1, cells := 0, slots := 0, locals := 12 } : Room) [] Z #[(.ref a), (.ref b), (.int (0 : Int32))] h0 (fun v h L => v = none ∧ Fr n0 L ∧ Keep h0 h [a]) := by
  refine Rm.of (plainFor_of_name pn_java_lang_String) ?_
  intro p e s m below meth cod T X hx hZ hby hml hown hnm hret hlk eT0
  have hown : s.vm.findClass "java/lang/String" = some m.cls := hown
  have hnm : meth.name = "<init>" := hnm
  have N0 := Fr.nil n0
  have Kp := Keep.refl h0 [a]
  refine Goes.cast (ef_22 m a b (0 : Int32)) ?_
  show Goes p e below _ T (mkF m 0 #[.val (.ref a), .val (.ref b), .val (.int (0 : Int32))] [])
  refine Goes.of (fun _ => XS.aloadN X.here hx rfl (hb hby d22_0) rfl rfl) ?_
  show Goes p e below _ T (mkF m 1 #[.val (.ref a), .val (.ref b), .val (.int (0 : Int32))] [(.ref a)])
  refine goInitO 0 X hx hZ hown (hw _ (List.mem_of_getElem? (i := 93) rfl)) (hw _ (List.mem_of_getElem? (i := 31) rfl)) (hw _ (List.mem_of_getElem? (i := 32) rfl)) eT0 (g := (mkF m 1 #[.val (.ref a), .val (.ref b), .val (.int (0 : Int32))] [(.ref a)])) rfl (by rw [hml]; rfl) rfl (hb hby d22_1) (by decide) (by show 2 * 0 + _ ≤ _; exact Nat.le_of_eq rfl) (by decide) ?_
  intro T1 X1 eT1
  show Goes p e below _ T1 (mkF m 4 #[.val (.ref a), .val (.ref b), .val (.int (0 : Int32))] [])
  refine Goes.of (fun _ => XS.aloadN X1.here hx rfl (hb hby d22_4) rfl rfl) ?_
  show Goes p e below _ T1 (mkF m 5 #[.val (.ref a), .val (.ref b), .val (.int (0 : Int32))] [(.ref a)])
  refine Goes.of (fun _ => XS.aloadN X1.here hx rfl (hb hby d22_5) rfl rfl) ?_
  show Goes p e below _ T1 (mkF m 6 #[.val (.ref a), .val (.ref b), .val (.int (0 : Int32))] [(.ref b), (.ref a)])
  refine goPut (ty := (.array .byte)) X1 hx hZ hown (host := "") (Or.inl (hw _ (List.mem_of_getElem? (i := 108) rfl))) Via.refl eT1 Fv Ex (Or.inr ⟨(hw _ (List.mem_of_getElem? (i := 109) rfl)), rfl, hnm⟩) (hw _ (List.mem_of_getElem? (i := 83) rfl)) (by decide) rfl rfl (g := (mkF m 6 #[.val (.ref a), .val (.ref b), .val (.int (0 : Int32))] [(.ref b), (.ref a)])) rfl rfl (hb hby d22_6) ?_
  intro T2 h2 X2 eT2 W2
  have Fv := Fld.same W2 Fv
  have N2 := Fr.snoc X2 N0 g_a
  have Ex := Ex.wr W2
  have Fc := Fc.other W2 (Or.inr (slot_ne (Or.inr (hw _ (List.mem_of_getElem? (i := 107) rfl))) (Or.inr (hw _ (List.mem_of_getElem? (i := 109) rfl))) (by decide) (t := .byte) (t' := (.array .byte)) (by decide) (by decide)))
  have Kp := Kp.wr W2 (Or.inl (List.mem_of_getElem? (i := 0) rfl))
  have O0 := O0.wr W2 g_a
  show Goes p e below _ T2 (mkF m 9 #[.val (.ref a), .val (.ref b), .val (.int (0 : Int32))] [])
  refine Goes.of (fun _ => XS.aloadN X2.here hx rfl (hb hby d22_9) rfl rfl) ?_
  show Goes p e below _ T2 (mkF m 10 #[.val (.ref a), .val (.ref b), .val (.int (0 : Int32))] [(.ref a)])
  refine Goes.of (fun _ => XS.iloadN X2.here hx rfl (hb hby d22_10) rfl) ?_
  show Goes p e below _ T2 (mkF m 11 #[.val (.ref a), .val (.ref b), .val (.int (0 : Int32))] [(.int (0 : Int32)), (.ref a)])
  refine goPut (ty := .byte) X2 hx hZ hown (host := "") (Or.inl (hw _ (List.mem_of_getElem? (i := 106) rfl))) Via.refl eT2 Fc Ex (Or.inr ⟨(hw _ (List.mem_of_getElem? (i := 107) rfl)), rfl, hnm⟩) (hw _ (List.mem_of_getElem? (i := 83) rfl)) (by decide) rfl rfl (g := (mkF m 11 #[.val (.ref a), .val (.ref b), .val (.int (0 : Int32))] [(.int (0 : Int32)), (.ref a)])) rfl rfl (hb hby d22_11) ?_
  intro T3 h3 X3 eT3 W3
  have Fc := Fld.same W3 Fc
  have N3 := Fr.snoc X3 N2 g_a
  have Ex := Ex.wr W3
  have Fv := Fv.other W3 (Or.inr (slot_ne (Or.inr (hw _ (List.mem_of_getElem? (i := 109) rfl))) (Or.inr (hw _ (List.mem_of_getElem? (i := 107) rfl))) (by decide) (t := (.array .byte)) (t' := .byte) (by decide) (by decide)))
  have Kp := Kp.wr W3 (Or.inl (List.mem_of_getElem? (i := 0) rfl))
  have O0 := O0.wr W3 g_a
  show Goes p e below _ T3 (mkF m 14 #[.val (.ref a), .val (.ref b), .val (.int (0 : Int32))] [])
  exact retVoid X3 hx hret hlk (hb hby d22_14) eT3 (by decide) (by decide) ⟨rfl, N3, Kp⟩
set_option maxRecDepth 65536 in
set_option maxHeartbeats 40000000 in
theorem rm_newbb1 (l : Launch) (Z : State) (a0 : Array Value) (hw : ∀ d ∈ tables_1, d.before a0 Z = true) (a b : Addr) (h0 : Heap) (n0 : Nat) (O0 : Old Z n0 h0) (g_a : n0 ≤ a) (Ex : Exa Z h0 a "java/lang/String") (Fv : Fld Z h0 a "java/lang/String" "value" "[B" .null) (Fc : Fld Z h0 a "java/lang/String" "coder" "B" (.int (0 : Int32))) :
    Rm l (⟨"java/lang/String", "<init>", "([BB)V"⟩ : MethodName) jdk_42_method_151_code 3 none ({ frames := 1, cells := 0, slots := 0, locals := 12 } : Room) [] Z #[(.ref a), (.ref b), (.int (1 : Int32))] h0 (fun v h L => v = none ∧ Fr n0 L ∧ Keep h0 h [a]) := by
  refine Rm.of (plainFor_of_name pn_java_lang_String) ?_
  intro p e s m below meth cod T X hx hZ hby hml hown hnm hret hlk eT0
  have hown : s.vm.findClass "java/lang/String" = some m.cls := hown
  have hnm : meth.name = "<init>" := hnm
  have N0 := Fr.nil n0
  have Kp := Keep.refl h0 [a]
  refine Goes.cast (ef_22 m a b (1 : Int32)) ?_
  show Goes p e below _ T (mkF m 0 #[.val (.ref a), .val (.ref b), .val (.int (1 : Int32))] [])
  refine Goes.of (fun _ => XS.aloadN X.here hx rfl (hb hby d22_0) rfl rfl) ?_
  show Goes p e below _ T (mkF m 1 #[.val (.ref a), .val (.ref b), .val (.int (1 : Int32))] [(.ref a)])
  refine goInitO 0 X hx hZ hown (hw _ (List.mem_of_getElem? (i := 93) rfl)) (hw _ (List.mem_of_getElem? (i := 31) rfl)) (hw _ (List.mem_of_getElem? (i := 32) rfl)) eT0 (g := (mkF m 1 #[.val (.ref a), .val (.ref b), .val (.int (1 : Int32))] [(.ref a)])) rfl (by rw [hml]; rfl) rfl (hb hby d22_1) (by decide) (by show 2 * 0 + _ ≤ _; exact Nat.le_of_eq rfl) (by decide) ?_
  intro T1 X1 eT1
  show Goes p e below _ T1 (mkF m 4 #[.val (.ref a), .val (.ref b), .val (.int (1 : Int32))] [])
  refine Goes.of (fun _ => XS.aloadN X1.here hx rfl (hb hby d22_4) rfl rfl) ?_
  show Goes p e below _ T1 (mkF m 5 #[.val (.ref a), .val (.ref b), .val (.int (1 : Int32))] [(.ref a)])
  refine Goes.of (fun _ => XS.aloadN X1.here hx rfl (hb hby d22_5) rfl rfl) ?_
  show Goes p e below _ T1 (mkF m 6 #[.val (.ref a), .val (.ref b), .val (.int (1 : Int32))] [(.ref b), (.ref a)])
  refine goPut (ty := (.array .byte)) X1 hx hZ hown (host := "") (Or.inl (hw _ (List.mem_of_getElem? (i := 108) rfl))) Via.refl eT1 Fv Ex (Or.inr ⟨(hw _ (List.mem_of_getElem? (i := 109) rfl)), rfl, hnm⟩) (hw _ (List.mem_of_getElem? (i := 83) rfl)) (by decide) rfl rfl (g := (mkF m 6 #[.val (.ref a), .val (.ref b), .val (.int (1 : Int32))] [(.ref b), (.ref a)])) rfl rfl (hb hby d22_6) ?_
  intro T2 h2 X2 eT2 W2
  have Fv := Fld.same W2 Fv
  have N2 := Fr.snoc X2 N0 g_a
  have Ex := Ex.wr W2
  have Fc := Fc.other W2 (Or.inr (slot_ne (Or.inr (hw _ (List.mem_of_getElem? (i := 107) rfl))) (Or.inr (hw _ (List.mem_of_getElem? (i := 109) rfl))) (by decide) (t := .byte) (t' := (.array .byte)) (by decide) (by decide)))
  have Kp := Kp.wr W2 (Or.inl (List.mem_of_getElem? (i := 0) rfl))
  have O0 := O0.wr W2 g_a
  show Goes p e below _ T2 (mkF m 9 #[.val (.ref a), .val (.ref b), .val (.int (1 : Int32))] [])
  refine Goes.of (fun _ => XS.aloadN X2.here hx rfl (hb hby d22_9) rfl rfl) ?_
  show Goes p e below _ T2 (mkF m 10 #[.val (.ref a), .val (.ref b), .val (.int (1 : Int32))] [(.ref a)])
  refine Goes.of (fun _ => XS.iloadN X2.here hx rfl (hb hby d22_10) rfl) ?_
  show Goes p e below _ T2 (mkF m 11 #[.val (.ref a), .val (.ref b), .val (.int (1 : Int32))] [(.int (1 : Int32)), (.ref a)])
  refine goPut (ty := .byte) X2 hx hZ hown (host := "") (Or.inl (hw _ (List.mem_of_getElem? (i := 106) rfl))) Via.refl eT2 Fc Ex (Or.inr ⟨(hw _ (List.mem_of_getElem? (i := 107) rfl)), rfl, hnm⟩) (hw _ (List.mem_of_getElem? (i := 83) rfl)) (by decide) rfl rfl (g := (mkF m 11 #[.val (.ref a), .val (.ref b), .val (.int (1 : Int32))] [(.int (1 : Int32)), (.ref a)])) rfl rfl (hb hby d22_11) ?_
  intro T3 h3 X3 eT3 W3
  have Fc := Fld.same W3 Fc
  have N3 := Fr.snoc X3 N2 g_a
  have Ex := Ex.wr W3
  have Fv := Fv.other W3 (Or.inr (slot_ne (Or.inr (hw _ (List.mem_of_getElem? (i := 109) rfl))) (Or.inr (hw _ (List.mem_of_getElem? (i := 107) rfl))) (by decide) (t := (.array .byte)) (t' := .byte) (by decide) (by decide)))
  have Kp := Kp.wr W3 (Or.inl (List.mem_of_getElem? (i := 0) rfl))
  have O0 := O0.wr W3 g_a
  show Goes p e below _ T3 (mkF m 14 #[.val (.ref a), .val (.ref b), .val (.int (1 : Int32))] [])
  exact retVoid X3 hx hret hlk (hb hby d22_14) eT3 (by decide) (by decide) ⟨rfl, N3, Kp⟩
set_option maxRecDepth 65536 in
set_option maxHeartbeats 40000000 in
theorem rm_valchar (l : Launch) (Z : State) (a0 : Array Value) (hw : ∀ d ∈ tables_1, d.before a0 Z = true) (c : Int32) (cz : Int32) (h0 : Heap) (n0 : Nat) (O0 : Old Z n0 h0) (Sa : Sta Z Z.heap "java/lang/StringUTF16" "$assertionsDisabled" "Z" (.int (1 : Int32))) (Sh : Sta Z Z.heap "java/lang/StringUTF16" "HI_BYTE_SHIFT" "I" (.int (0 : Int32))) (Sl : Sta Z Z.heap "java/lang/StringUTF16" "LO_BYTE_SHIFT" "I" (.int (8 : Int32))) (Sc : Sta Z Z.heap "java/lang/String" "COMPACT_STRINGS" "Z" (.int cz)) (hcz : ¬ cz = 0) :
    Rm l (⟨"java/lang/String", "valueOf", "(C)Ljava/lang/String;"⟩ : MethodName) jdk_42_method_139_code 1 (some (.object "java/lang/String")) ({ frames := 2, cells := 2, slots := 6, locals := 29 } : Room) [] Z #[(.int c)] h0 (fun v h L => ∃ b, v = some (.ref b) ∧ Fr n0 L ∧ Keep h0 h [] ∧ Exa Z h b "java/lang/String") := by
  refine Rm.of (plainFor_of_name pn_java_lang_String) ?_
  intro p e s m below meth cod T X hx hZ hby hml hown hnm hret hlk eT0
  have hown : s.vm.findClass "java/lang/String" = some m.cls := hown
  have hnm : meth.name = "valueOf" := hnm
  have N0 := Fr.nil n0
  have Kp := Keep.refl h0 []
  refine Goes.cast (ef_18 m c) ?_
  show Goes p e below _ T (mkF m 0 #[.val (.int c)] [])
  refine goGetS X hx hZ hown (host := "") (Or.inl (hw _ (List.mem_of_getElem? (i := 94) rfl))) Via.refl eT0 (Sc.ext O0.2) (g := (mkF m 0 #[.val (.int c)] [])) rfl (hb hby d18_0) ?_
  intro T1 X1 eT1
  show Goes p e below _ T1 (mkF m 3 #[.val (.int c)] [(.int cz)])
  refine Goes.of (fun _ => XS.ifNo X1.here hx rfl (hb hby d18_3) rfl ((if0 _ _).trans (feq hcz).1)) ?_
  show Goes p e below _ T1 (mkF m 6 #[.val (.int c)] [])
  by_cases hk0 : (255 : Int32) < c
  · show Goes p e below _ T1 (mkF m 6 #[.val (.int c)] [])
    refine Goes.of (fun _ => XS.iloadN X1.here hx rfl (hb hby d18_6) rfl) ?_
    show Goes p e below _ T1 (mkF m 7 #[.val (.int c)] [(.int c)])
    refine goStatic 0 X1 hx hZ hown (hw _ (List.mem_of_getElem? (i := 118) rfl)) (hw _ (List.mem_of_getElem? (i := 119) rfl)) (hw _ (List.mem_of_getElem? (i := 120) rfl)) (hw _ (List.mem_of_getElem? (i := 121) rfl)) (by decide) (rm_can0 l Z a0 hw c h0 n0 O0 hk0) eT1 (g := (mkF m 7 #[.val (.int c)] [(.int c)])) rfl (by rw [hml]; rfl) [(.int c)] [] (lenOf pd__C_Z rfl) rfl rfl (by show 2 * 0 + _ ≤ _; exact Nat.le_of_eq rfl) (hb hby d18_7) (by decide) (by decide) (by decide) (by decide) ?_
    intro v2 T2 L2 X2 q2
    obtain ⟨rfl, Nq2, eT2⟩ := q2
    have N2 := Fr.app N0 Nq2
    show Goes p e below _ T2 (mkF m 10 #[.val (.int c)] [(.int (0 : Int32))])
    refine Goes.of (fun _ => XS.ifYes X2.here hx rfl (pc0 := 10) (pc' := 26) rfl (hb hby d18_10) rfl ((if0 _ _).trans (teq (by decide)).1) (by decide) (by decide)) ?_
    show Goes p e below _ T2 (mkF m 26 #[.val (.int c)] [])
    refine goNew X2 hx hZ hown (hw _ (List.mem_of_getElem? (i := 122) rfl)) (hw _ (List.mem_of_getElem? (i := 83) rfl)) (hw _ (List.mem_of_getElem? (i := 84) rfl)) eT2 (g := (mkF m 26 #[.val (.int c)] [])) rfl (hb hby d18_26) (by decide) (by decide) ?_
    intro T3 h3 b3 X3 eT3 E3 hb3 A3 D3
    have g_b3 : n0 ≤ b3 := Nat.le_trans (oldLe O0) hb3
    have sz_b3 : h0.size ≤ b3 := Nat.le_trans Kp.1 hb3
    have Kp := Kp.ext E3
    have O0 := O0.ext E3
    have F3_coder : Fld Z h3 b3 "java/lang/String" "coder" "B" (.int (0 : Int32)) := D3 (Or.inr (hw _ (List.mem_of_getElem? (i := 107) rfl))) (ty := .byte) (by decide)
    have F3_value : Fld Z h3 b3 "java/lang/String" "value" "[B" .null := D3 (Or.inr (hw _ (List.mem_of_getElem? (i := 109) rfl))) (ty := (.array .byte)) (by decide)
    show Goes p e below _ T3 (mkF m 29 #[.val (.int c)] [(.ref b3)])
    refine Goes.of (fun _ => XS.dup X3.here hx rfl (hb hby d18_29) rfl rfl) ?_
    show Goes p e below _ T3 (mkF m 30 #[.val (.int c)] [(.ref b3), (.ref b3)])
    refine Goes.of (fun _ => XS.iloadN X3.here hx rfl (hb hby d18_30) rfl) ?_
    show Goes p e below _ T3 (mkF m 31 #[.val (.int c)] [(.int c), (.ref b3), (.ref b3)])
    refine goStatic 2 X3 hx hZ hown (hw _ (List.mem_of_getElem? (i := 123) rfl)) (hw _ (List.mem_of_getElem? (i := 124) rfl)) (hw _ (List.mem_of_getElem? (i := 97) rfl)) (hw _ (List.mem_of_getElem? (i := 125) rfl)) (by decide) (rm_tobu l Z a0 hw c h3 n0 O0 Sa Sh Sl) eT3 (g := (mkF m 31 #[.val (.int c)] [(.int c), (.ref b3), (.ref b3)])) rfl (by rw [hml]; rfl) [(.int c)] [(.ref b3), (.ref b3)] (lenOf pd__C__B rfl) rfl rfl (by show 2 * 0 + _ ≤ _; exact Nat.le_of_eq rfl) (hb hby d18_31) (by decide) (by decide) (by decide) (by decide) ?_
    intro v4 T4 L4 X4 q4
    obtain ⟨tb4, kt4, rfl, Nq4, Kq4, gq4, sq4, Vt4⟩ := q4
    have N4 := Fr.app N2 Nq4
    have g_tb4 : n0 ≤ tb4 := gq4
    have sz_tb4 : h0.size ≤ tb4 := Nat.le_trans Kp.1 sq4
    have ne_b3_tb4 : b3 ≠ tb4 := Nat.ne_of_lt (Nat.lt_of_lt_of_le A3.lt sq4)
    have A3 := A3.keep Kq4
    have F3_coder := F3_coder.keep Kq4 nin0
    have F3_value := F3_value.keep Kq4 nin0
    have Kp := Kp.trans Kq4 all0
    have O0 := O0.keep Kq4 all0
    show Goes p e below _ T4 (mkF m 34 #[.val (.int c)] [(.ref tb4), (.ref b3), (.ref b3)])
    refine Goes.of (fun _ => XS.iconst X4.here hx rfl (hb hby d18_34)) ?_
    show Goes p e below _ T4 (mkF m 35 #[.val (.int c)] [(.int (1 : Int32)), (.ref tb4), (.ref b3), (.ref b3)])
    refine goSpecial 1 X4 hx hZ rfl hown (hw _ (List.mem_of_getElem? (i := 132) rfl)) (hw _ (List.mem_of_getElem? (i := 133) rfl)) (hw _ (List.mem_of_getElem? (i := 84) rfl)) (hw _ (List.mem_of_getElem? (i := 134) rfl)) (by decide) (rm_newbb1 l Z a0 hw b3 tb4 T4.heap n0 O0 g_b3 A3 F3_value F3_coder) (rfl : T4.heap = _) (g := (mkF m 35 #[.val (.int c)] [(.int (1 : Int32)), (.ref tb4), (.ref b3), (.ref b3)])) rfl (by rw [hml]; rfl) b3 [(.ref tb4), (.int (1 : Int32))] [(.ref b3)] (lenOf pd___BB_V rfl) rfl rfl (by show 2 * 0 + _ ≤ _; exact Nat.le_of_eq rfl) (hb hby d18_35) (by decide) (by decide) (by decide) (by decide) ?_
    intro v5 T5 L5 X5 q5
    obtain ⟨rfl, Nq5, Kq5⟩ := q5
    have N5 := Fr.app N4 Nq5
    have A3 := A3.keep Kq5
    have Vt4 := Vt4.keep Kq5 (ninS (Ne.symm ne_b3_tb4) nin0)
    have Kp := Kp.trans Kq5 (allS (Or.inr sz_b3) all0)
    have O0 := O0.keep Kq5 (allS g_b3 all0)
    show Goes p e below _ T5 (mkF m 38 #[.val (.int c)] [(.ref b3)])
    exact retRef X5 hx hret hlk rfl rfl (hb hby d18_38) (rfl : T5.heap = _) (by decide) (by decide) ⟨b3, rfl, N5, Kp, A3⟩
  · show Goes p e below _ T1 (mkF m 6 #[.val (.int c)] [])
    refine Goes.of (fun _ => XS.iloadN X1.here hx rfl (hb hby d18_6) rfl) ?_
    show Goes p e below _ T1 (mkF m 7 #[.val (.int c)] [(.int c)])
    refine goStatic 0 X1 hx hZ hown (hw _ (List.mem_of_getElem? (i := 118) rfl)) (hw _ (List.mem_of_getElem? (i := 119) rfl)) (hw _ (List.mem_of_getElem? (i := 120) rfl)) (hw _ (List.mem_of_getElem? (i := 121) rfl)) (by decide) (rm_can1 l Z a0 hw c h0 n0 O0 hk0) eT1 (g := (mkF m 7 #[.val (.int c)] [(.int c)])) rfl (by rw [hml]; rfl) [(.int c)] [] (lenOf pd__C_Z rfl) rfl rfl (by show 2 * 0 + _ ≤ _; exact Nat.le_of_eq rfl) (hb hby d18_7) (by decide) (by decide) (by decide) (by decide) ?_
    intro v6 T6 L6 X6 q6
    obtain ⟨rfl, Nq6, eT6⟩ := q6
    have N6 := Fr.app N0 Nq6
    show Goes p e below _ T6 (mkF m 10 #[.val (.int c)] [(.int (1 : Int32))])
    refine Goes.of (fun _ => XS.ifNo X6.here hx rfl (hb hby d18_10) rfl ((if0 _ _).trans (feq (by decide)).1)) ?_
    show Goes p e below _ T6 (mkF m 13 #[.val (.int c)] [])
    refine goNew X6 hx hZ hown (hw _ (List.mem_of_getElem? (i := 122) rfl)) (hw _ (List.mem_of_getElem? (i := 83) rfl)) (hw _ (List.mem_of_getElem? (i := 84) rfl)) eT6 (g := (mkF m 13 #[.val (.int c)] [])) rfl (hb hby d18_13) (by decide) (by decide) ?_
    intro T7 h7 b7 X7 eT7 E7 hb7 A7 D7
    have g_b7 : n0 ≤ b7 := Nat.le_trans (oldLe O0) hb7
    have sz_b7 : h0.size ≤ b7 := Nat.le_trans Kp.1 hb7
    have Kp := Kp.ext E7
    have O0 := O0.ext E7
    have F7_coder : Fld Z h7 b7 "java/lang/String" "coder" "B" (.int (0 : Int32)) := D7 (Or.inr (hw _ (List.mem_of_getElem? (i := 107) rfl))) (ty := .byte) (by decide)
    have F7_value : Fld Z h7 b7 "java/lang/String" "value" "[B" .null := D7 (Or.inr (hw _ (List.mem_of_getElem? (i := 109) rfl))) (ty := (.array .byte)) (by decide)
    show Goes p e below _ T7 (mkF m 16 #[.val (.int c)] [(.ref b7)])
    refine Goes.of (fun _ => XS.dup X7.here hx rfl (hb hby d18_16) rfl rfl) ?_
    show Goes p e below _ T7 (mkF m 17 #[.val (.int c)] [(.ref b7), (.ref b7)])
    refine Goes.of (fun _ => XS.iloadN X7.here hx rfl (hb hby d18_17) rfl) ?_
    show Goes p e below _ T7 (mkF m 18 #[.val (.int c)] [(.int c), (.ref b7), (.ref b7)])
    refine goStatic 2 X7 hx hZ hown (hw _ (List.mem_of_getElem? (i := 151) rfl)) (hw _ (List.mem_of_getElem? (i := 152) rfl)) (hw _ (List.mem_of_getElem? (i := 120) rfl)) (hw _ (List.mem_of_getElem? (i := 153) rfl)) (by decide) (rm_tobl l Z a0 hw c h7 n0 O0) eT7 (g := (mkF m 18 #[.val (.int c)] [(.int c), (.ref b7), (.ref b7)])) rfl (by rw [hml]; rfl) [(.int c)] [(.ref b7), (.ref b7)] (lenOf pd__C__B rfl) rfl rfl (by show 2 * 0 + _ ≤ _; exact Nat.le_of_eq rfl) (hb hby d18_18) (by decide) (by decide) (by decide) (by decide) ?_
    intro v8 T8 L8 X8 q8
    obtain ⟨tb8, kt8, rfl, Nq8, Kq8, gq8, sq8, Vt8⟩ := q8
    have N8 := Fr.app N6 Nq8
    have g_tb8 : n0 ≤ tb8 := gq8
    have sz_tb8 : h0.size ≤ tb8 := Nat.le_trans Kp.1 sq8
    have ne_b7_tb8 : b7 ≠ tb8 := Nat.ne_of_lt (Nat.lt_of_lt_of_le A7.lt sq8)
    have A7 := A7.keep Kq8
    have F7_coder := F7_coder.keep Kq8 nin0
    have F7_value := F7_value.keep Kq8 nin0
    have Kp := Kp.trans Kq8 all0
    have O0 := O0.keep Kq8 all0
    show Goes p e below _ T8 (mkF m 21 #[.val (.int c)] [(.ref tb8), (.ref b7), (.ref b7)])
    refine Goes.of (fun _ => XS.iconst X8.here hx rfl (hb hby d18_21)) ?_
    show Goes p e below _ T8 (mkF m 22 #[.val (.int c)] [(.int (0 : Int32)), (.ref tb8), (.ref b7), (.ref b7)])
    refine goSpecial 1 X8 hx hZ rfl hown (hw _ (List.mem_of_getElem? (i := 132) rfl)) (hw _ (List.mem_of_getElem? (i := 133) rfl)) (hw _ (List.mem_of_getElem? (i := 84) rfl)) (hw _ (List.mem_of_getElem? (i := 134) rfl)) (by decide) (rm_newbb0 l Z a0 hw b7 tb8 T8.heap n0 O0 g_b7 A7 F7_value F7_coder) (rfl : T8.heap = _) (g := (mkF m 22 #[.val (.int c)] [(.int (0 : Int32)), (.ref tb8), (.ref b7), (.ref b7)])) rfl (by rw [hml]; rfl) b7 [(.ref tb8), (.int (0 : Int32))] [(.ref b7)] (lenOf pd___BB_V rfl) rfl rfl (by show 2 * 0 + _ ≤ _; exact Nat.le_of_eq rfl) (hb hby d18_22) (by decide) (by decide) (by decide) (by decide) ?_
    intro v9 T9 L9 X9 q9
    obtain ⟨rfl, Nq9, Kq9⟩ := q9
    have N9 := Fr.app N8 Nq9
    have A7 := A7.keep Kq9
    have Vt8 := Vt8.keep Kq9 (ninS (Ne.symm ne_b7_tb8) nin0)
    have Kp := Kp.trans Kq9 (allS (Or.inr sz_b7) all0)
    have O0 := O0.keep Kq9 (allS g_b7 all0)
    show Goes p e below _ T9 (mkF m 25 #[.val (.int c)] [(.ref b7)])
    exact retRef X9 hx hret hlk rfl rfl (hb hby d18_25) (rfl : T9.heap = _) (by decide) (by decide) ⟨b7, rfl, N9, Kp, A7⟩
set_option maxRecDepth 65536 in
set_option maxHeartbeats 40000000 in
theorem rm_draw0 (l : Launch) (Z : State) (a0 : Array Value) (hw : ∀ d ∈ tables_1, d.before a0 Z = true) (p0 p1 p2 p3 : Int32) (h0 : Heap) (n0 : Nat) (O0 : Old Z n0 h0) (hz : (p0 &&& (7 : Int32)) = (0 : Int32)) :
    Rm l (⟨"com/example/postpone/postpone/ApiExceptionConflictPinLaw", "draw", "(IIII)Ljava/lang/String;"⟩ : MethodName) method_2_code 8 (some (.object "java/lang/String")) ({ frames := 0, cells := 0, slots := 0, locals := 0 } : Room) [] Z #[(.int p0), (.int p1), (.int p2), (.int p3)] h0 (fun v h L => v = some .null ∧ Fr n0 L ∧ h = h0) := by
  refine Rm.of (plainFor_of_name pn_com_example_postpone_postpone_ApiExceptionConflictPinLaw) ?_
  intro p e s m below meth cod T X hx hZ hby hml hown hnm hret hlk eT0
  have hown : s.vm.findClass "com/example/postpone/postpone/ApiExceptionConflictPinLaw" = some m.cls := hown
  have hnm : meth.name = "draw" := hnm
  have N0 := Fr.nil n0
  refine Goes.cast (ef_1 m p0 p1 p2 p3) ?_
  show Goes p e below _ T (mkF m 0 #[.val (.int p0), .val (.int p1), .val (.int p2), .val (.int p3), .unset, .unset, .unset, .unset] [])
  refine Goes.of (fun _ => XS.iloadN X.here hx rfl (hb hby d1_0) rfl) ?_
  show Goes p e below _ T (mkF m 1 #[.val (.int p0), .val (.int p1), .val (.int p2), .val (.int p3), .unset, .unset, .unset, .unset] [(.int p1)])
  refine Goes.of (fun _ => XS.i2c X.here hx rfl (hb hby d1_1) rfl) ?_
  show Goes p e below _ T (mkF m 2 #[.val (.int p0), .val (.int p1), .val (.int p2), .val (.int p3), .unset, .unset, .unset, .unset] [(.int (p1.toUInt32.toUInt16.toUInt32.toInt32))])
  refine Goes.of (fun _ => XS.istore X.here hx rfl (hb hby d1_2) rfl (l' := #[.val (.int p0), .val (.int p1), .val (.int p2), .val (.int p3), .val (.int (p1.toUInt32.toUInt16.toUInt32.toInt32)), .unset, .unset, .unset]) rfl) ?_
  show Goes p e below _ T (mkF m 4 #[.val (.int p0), .val (.int p1), .val (.int p2), .val (.int p3), .val (.int (p1.toUInt32.toUInt16.toUInt32.toInt32)), .unset, .unset, .unset] [])
  refine Goes.of (fun _ => XS.iloadN X.here hx rfl (hb hby d1_4) rfl) ?_
  show Goes p e below _ T (mkF m 5 #[.val (.int p0), .val (.int p1), .val (.int p2), .val (.int p3), .val (.int (p1.toUInt32.toUInt16.toUInt32.toInt32)), .unset, .unset, .unset] [(.int p2)])
  refine Goes.of (fun _ => XS.i2c X.here hx rfl (hb hby d1_5) rfl) ?_
  show Goes p e below _ T (mkF m 6 #[.val (.int p0), .val (.int p1), .val (.int p2), .val (.int p3), .val (.int (p1.toUInt32.toUInt16.toUInt32.toInt32)), .unset, .unset, .unset] [(.int (p2.toUInt32.toUInt16.toUInt32.toInt32))])
  refine Goes.of (fun _ => XS.istore X.here hx rfl (hb hby d1_6) rfl (l' := #[.val (.int p0), .val (.int p1), .val (.int p2), .val (.int p3), .val (.int (p1.toUInt32.toUInt16.toUInt32.toInt32)), .val (.int (p2.toUInt32.toUInt16.toUInt32.toInt32)), .unset, .unset]) rfl) ?_
  show Goes p e below _ T (mkF m 8 #[.val (.int p0), .val (.int p1), .val (.int p2), .val (.int p3), .val (.int (p1.toUInt32.toUInt16.toUInt32.toInt32)), .val (.int (p2.toUInt32.toUInt16.toUInt32.toInt32)), .unset, .unset] [])
  refine Goes.of (fun _ => XS.iloadN X.here hx rfl (hb hby d1_8) rfl) ?_
  show Goes p e below _ T (mkF m 9 #[.val (.int p0), .val (.int p1), .val (.int p2), .val (.int p3), .val (.int (p1.toUInt32.toUInt16.toUInt32.toInt32)), .val (.int (p2.toUInt32.toUInt16.toUInt32.toInt32)), .unset, .unset] [(.int p3)])
  refine Goes.of (fun _ => XS.i2c X.here hx rfl (hb hby d1_9) rfl) ?_
  show Goes p e below _ T (mkF m 10 #[.val (.int p0), .val (.int p1), .val (.int p2), .val (.int p3), .val (.int (p1.toUInt32.toUInt16.toUInt32.toInt32)), .val (.int (p2.toUInt32.toUInt16.toUInt32.toInt32)), .unset, .unset] [(.int (p3.toUInt32.toUInt16.toUInt32.toInt32))])
  refine Goes.of (fun _ => XS.istore X.here hx rfl (hb hby d1_10) rfl (l' := #[.val (.int p0), .val (.int p1), .val (.int p2), .val (.int p3), .val (.int (p1.toUInt32.toUInt16.toUInt32.toInt32)), .val (.int (p2.toUInt32.toUInt16.toUInt32.toInt32)), .val (.int (p3.toUInt32.toUInt16.toUInt32.toInt32)), .unset]) rfl) ?_
  show Goes p e below _ T (mkF m 12 #[.val (.int p0), .val (.int p1), .val (.int p2), .val (.int p3), .val (.int (p1.toUInt32.toUInt16.toUInt32.toInt32)), .val (.int (p2.toUInt32.toUInt16.toUInt32.toInt32)), .val (.int (p3.toUInt32.toUInt16.toUInt32.toInt32)), .unset] [])
  refine Goes.of (fun _ => XS.iloadN X.here hx rfl (hb hby d1_12) rfl) ?_
  show Goes p e below _ T (mkF m 13 #[.val (.int p0), .val (.int p1), .val (.int p2), .val (.int p3), .val (.int (p1.toUInt32.toUInt16.toUInt32.toInt32)), .val (.int (p2.toUInt32.toUInt16.toUInt32.toInt32)), .val (.int (p3.toUInt32.toUInt16.toUInt32.toInt32)), .unset] [(.int p0)])
  refine Goes.of (fun _ => XS.bipush X.here hx rfl (hb hby d1_13)) ?_
  show Goes p e below _ T (mkF m 15 #[.val (.int p0), .val (.int p1), .val (.int p2), .val (.int p3), .val (.int (p1.toUInt32.toUInt16.toUInt32.toInt32)), .val (.int (p2.toUInt32.toUInt16.toUInt32.toInt32)), .val (.int (p3.toUInt32.toUInt16.toUInt32.toInt32)), .unset] [(.int (7 : Int32)), (.int p0)])
  refine Goes.of (fun _ => XS.iand X.here hx rfl (hb hby d1_15) rfl) ?_
  show Goes p e below _ T (mkF m 16 #[.val (.int p0), .val (.int p1), .val (.int p2), .val (.int p3), .val (.int (p1.toUInt32.toUInt16.toUInt32.toInt32)), .val (.int (p2.toUInt32.toUInt16.toUInt32.toInt32)), .val (.int (p3.toUInt32.toUInt16.toUInt32.toInt32)), .unset] [(.int (p0 &&& (7 : Int32)))])
  refine Goes.of (fun _ => XS.istore X.here hx rfl (hb hby d1_16) rfl (l' := #[.val (.int p0), .val (.int p1), .val (.int p2), .val (.int p3), .val (.int (p1.toUInt32.toUInt16.toUInt32.toInt32)), .val (.int (p2.toUInt32.toUInt16.toUInt32.toInt32)), .val (.int (p3.toUInt32.toUInt16.toUInt32.toInt32)), .val (.int (p0 &&& (7 : Int32)))]) rfl) ?_
  show Goes p e below _ T (mkF m 18 #[.val (.int p0), .val (.int p1), .val (.int p2), .val (.int p3), .val (.int (p1.toUInt32.toUInt16.toUInt32.toInt32)), .val (.int (p2.toUInt32.toUInt16.toUInt32.toInt32)), .val (.int (p3.toUInt32.toUInt16.toUInt32.toInt32)), .val (.int (p0 &&& (7 : Int32)))] [])
  refine Goes.of (fun _ => XS.iload X.here hx rfl (hb hby d1_18) rfl) ?_
  show Goes p e below _ T (mkF m 20 #[.val (.int p0), .val (.int p1), .val (.int p2), .val (.int p3), .val (.int (p1.toUInt32.toUInt16.toUInt32.toInt32)), .val (.int (p2.toUInt32.toUInt16.toUInt32.toInt32)), .val (.int (p3.toUInt32.toUInt16.toUInt32.toInt32)), .val (.int (p0 &&& (7 : Int32)))] [(.int (p0 &&& (7 : Int32)))])
  refine Goes.of (fun _ => XS.ifNo X.here hx rfl (hb hby d1_20) rfl ((if0 _ _).trans (teq hz).2)) ?_
  show Goes p e below _ T (mkF m 23 #[.val (.int p0), .val (.int p1), .val (.int p2), .val (.int p3), .val (.int (p1.toUInt32.toUInt16.toUInt32.toInt32)), .val (.int (p2.toUInt32.toUInt16.toUInt32.toInt32)), .val (.int (p3.toUInt32.toUInt16.toUInt32.toInt32)), .val (.int (p0 &&& (7 : Int32)))] [])
  refine Goes.of (fun _ => XS.aconstNull X.here hx rfl (hb hby d1_23)) ?_
  show Goes p e below _ T (mkF m 24 #[.val (.int p0), .val (.int p1), .val (.int p2), .val (.int p3), .val (.int (p1.toUInt32.toUInt16.toUInt32.toInt32)), .val (.int (p2.toUInt32.toUInt16.toUInt32.toInt32)), .val (.int (p3.toUInt32.toUInt16.toUInt32.toInt32)), .val (.int (p0 &&& (7 : Int32)))] [.null])
  exact retRef X hx hret hlk rfl rfl (hb hby d1_24) eT0 (by decide) (by decide) ⟨rfl, N0, rfl⟩
set_option maxRecDepth 65536 in
set_option maxHeartbeats 40000000 in
theorem rm_draw1 (l : Launch) (Z : State) (a0 : Array Value) (hw : ∀ d ∈ tables_1, d.before a0 Z = true) (p0 p1 p2 p3 : Int32) (cz : Int32) (h0 : Heap) (n0 : Nat) (O0 : Old Z n0 h0) (Sa : Sta Z Z.heap "java/lang/StringUTF16" "$assertionsDisabled" "Z" (.int (1 : Int32))) (Sh : Sta Z Z.heap "java/lang/StringUTF16" "HI_BYTE_SHIFT" "I" (.int (0 : Int32))) (Sl : Sta Z Z.heap "java/lang/StringUTF16" "LO_BYTE_SHIFT" "I" (.int (8 : Int32))) (Sc : Sta Z Z.heap "java/lang/String" "COMPACT_STRINGS" "Z" (.int cz)) (hcz : ¬ cz = 0) (hz : ¬ (p0 &&& (7 : Int32)) = (0 : Int32)) :
    RmH l (⟨"com/example/postpone/postpone/ApiExceptionConflictPinLaw", "draw", "(IIII)Ljava/lang/String;"⟩ : MethodName) method_2_code 8 (some (.object "java/lang/String")) ({ frames := 6, cells := 6, slots := 16, locals := 88 } : Room) [] Z EL #[(.int p0), (.int p1), (.int p2), (.int p3)] h0 (fun v h L => ∃ b, v = some (.ref b) ∧ Fr n0 L ∧ Keep h0 h [] ∧ Exa Z h b "java/lang/String") := by
  refine RmH.of (plainFor_of_name pn_com_example_postpone_postpone_ApiExceptionConflictPinLaw) ?_
  intro p e s m below meth cod T X hx hZ hby hml hown hnm hret hlk eT0 hS hk HC
  have hEL := hELof hw
  have wS := wSof hw
  have hown : s.vm.findClass "com/example/postpone/postpone/ApiExceptionConflictPinLaw" = some m.cls := hown
  have hnm : meth.name = "draw" := hnm
  have N0 := Fr.nil n0
  have Kp := Keep.refl h0 []
  refine Goes.cast (ef_1 m p0 p1 p2 p3) ?_
  show Goes p e below _ T (mkF m 0 #[.val (.int p0), .val (.int p1), .val (.int p2), .val (.int p3), .unset, .unset, .unset, .unset] [])
  refine Goes.of (fun _ => XS.iloadN X.here hx rfl (hb hby d1_0) rfl) ?_
  show Goes p e below _ T (mkF m 1 #[.val (.int p0), .val (.int p1), .val (.int p2), .val (.int p3), .unset, .unset, .unset, .unset] [(.int p1)])
  refine Goes.of (fun _ => XS.i2c X.here hx rfl (hb hby d1_1) rfl) ?_
  show Goes p e below _ T (mkF m 2 #[.val (.int p0), .val (.int p1), .val (.int p2), .val (.int p3), .unset, .unset, .unset, .unset] [(.int (p1.toUInt32.toUInt16.toUInt32.toInt32))])
  refine Goes.of (fun _ => XS.istore X.here hx rfl (hb hby d1_2) rfl (l' := #[.val (.int p0), .val (.int p1), .val (.int p2), .val (.int p3), .val (.int (p1.toUInt32.toUInt16.toUInt32.toInt32)), .unset, .unset, .unset]) rfl) ?_
  show Goes p e below _ T (mkF m 4 #[.val (.int p0), .val (.int p1), .val (.int p2), .val (.int p3), .val (.int (p1.toUInt32.toUInt16.toUInt32.toInt32)), .unset, .unset, .unset] [])
  refine Goes.of (fun _ => XS.iloadN X.here hx rfl (hb hby d1_4) rfl) ?_
  show Goes p e below _ T (mkF m 5 #[.val (.int p0), .val (.int p1), .val (.int p2), .val (.int p3), .val (.int (p1.toUInt32.toUInt16.toUInt32.toInt32)), .unset, .unset, .unset] [(.int p2)])
  refine Goes.of (fun _ => XS.i2c X.here hx rfl (hb hby d1_5) rfl) ?_
  show Goes p e below _ T (mkF m 6 #[.val (.int p0), .val (.int p1), .val (.int p2), .val (.int p3), .val (.int (p1.toUInt32.toUInt16.toUInt32.toInt32)), .unset, .unset, .unset] [(.int (p2.toUInt32.toUInt16.toUInt32.toInt32))])
  refine Goes.of (fun _ => XS.istore X.here hx rfl (hb hby d1_6) rfl (l' := #[.val (.int p0), .val (.int p1), .val (.int p2), .val (.int p3), .val (.int (p1.toUInt32.toUInt16.toUInt32.toInt32)), .val (.int (p2.toUInt32.toUInt16.toUInt32.toInt32)), .unset, .unset]) rfl) ?_
  show Goes p e below _ T (mkF m 8 #[.val (.int p0), .val (.int p1), .val (.int p2), .val (.int p3), .val (.int (p1.toUInt32.toUInt16.toUInt32.toInt32)), .val (.int (p2.toUInt32.toUInt16.toUInt32.toInt32)), .unset, .unset] [])
  refine Goes.of (fun _ => XS.iloadN X.here hx rfl (hb hby d1_8) rfl) ?_
  show Goes p e below _ T (mkF m 9 #[.val (.int p0), .val (.int p1), .val (.int p2), .val (.int p3), .val (.int (p1.toUInt32.toUInt16.toUInt32.toInt32)), .val (.int (p2.toUInt32.toUInt16.toUInt32.toInt32)), .unset, .unset] [(.int p3)])
  refine Goes.of (fun _ => XS.i2c X.here hx rfl (hb hby d1_9) rfl) ?_
  show Goes p e below _ T (mkF m 10 #[.val (.int p0), .val (.int p1), .val (.int p2), .val (.int p3), .val (.int (p1.toUInt32.toUInt16.toUInt32.toInt32)), .val (.int (p2.toUInt32.toUInt16.toUInt32.toInt32)), .unset, .unset] [(.int (p3.toUInt32.toUInt16.toUInt32.toInt32))])
  refine Goes.of (fun _ => XS.istore X.here hx rfl (hb hby d1_10) rfl (l' := #[.val (.int p0), .val (.int p1), .val (.int p2), .val (.int p3), .val (.int (p1.toUInt32.toUInt16.toUInt32.toInt32)), .val (.int (p2.toUInt32.toUInt16.toUInt32.toInt32)), .val (.int (p3.toUInt32.toUInt16.toUInt32.toInt32)), .unset]) rfl) ?_
  show Goes p e below _ T (mkF m 12 #[.val (.int p0), .val (.int p1), .val (.int p2), .val (.int p3), .val (.int (p1.toUInt32.toUInt16.toUInt32.toInt32)), .val (.int (p2.toUInt32.toUInt16.toUInt32.toInt32)), .val (.int (p3.toUInt32.toUInt16.toUInt32.toInt32)), .unset] [])
  refine Goes.of (fun _ => XS.iloadN X.here hx rfl (hb hby d1_12) rfl) ?_
  show Goes p e below _ T (mkF m 13 #[.val (.int p0), .val (.int p1), .val (.int p2), .val (.int p3), .val (.int (p1.toUInt32.toUInt16.toUInt32.toInt32)), .val (.int (p2.toUInt32.toUInt16.toUInt32.toInt32)), .val (.int (p3.toUInt32.toUInt16.toUInt32.toInt32)), .unset] [(.int p0)])
  refine Goes.of (fun _ => XS.bipush X.here hx rfl (hb hby d1_13)) ?_
  show Goes p e below _ T (mkF m 15 #[.val (.int p0), .val (.int p1), .val (.int p2), .val (.int p3), .val (.int (p1.toUInt32.toUInt16.toUInt32.toInt32)), .val (.int (p2.toUInt32.toUInt16.toUInt32.toInt32)), .val (.int (p3.toUInt32.toUInt16.toUInt32.toInt32)), .unset] [(.int (7 : Int32)), (.int p0)])
  refine Goes.of (fun _ => XS.iand X.here hx rfl (hb hby d1_15) rfl) ?_
  show Goes p e below _ T (mkF m 16 #[.val (.int p0), .val (.int p1), .val (.int p2), .val (.int p3), .val (.int (p1.toUInt32.toUInt16.toUInt32.toInt32)), .val (.int (p2.toUInt32.toUInt16.toUInt32.toInt32)), .val (.int (p3.toUInt32.toUInt16.toUInt32.toInt32)), .unset] [(.int (p0 &&& (7 : Int32)))])
  refine Goes.of (fun _ => XS.istore X.here hx rfl (hb hby d1_16) rfl (l' := #[.val (.int p0), .val (.int p1), .val (.int p2), .val (.int p3), .val (.int (p1.toUInt32.toUInt16.toUInt32.toInt32)), .val (.int (p2.toUInt32.toUInt16.toUInt32.toInt32)), .val (.int (p3.toUInt32.toUInt16.toUInt32.toInt32)), .val (.int (p0 &&& (7 : Int32)))]) rfl) ?_
  show Goes p e below _ T (mkF m 18 #[.val (.int p0), .val (.int p1), .val (.int p2), .val (.int p3), .val (.int (p1.toUInt32.toUInt16.toUInt32.toInt32)), .val (.int (p2.toUInt32.toUInt16.toUInt32.toInt32)), .val (.int (p3.toUInt32.toUInt16.toUInt32.toInt32)), .val (.int (p0 &&& (7 : Int32)))] [])
  refine Goes.of (fun _ => XS.iload X.here hx rfl (hb hby d1_18) rfl) ?_
  show Goes p e below _ T (mkF m 20 #[.val (.int p0), .val (.int p1), .val (.int p2), .val (.int p3), .val (.int (p1.toUInt32.toUInt16.toUInt32.toInt32)), .val (.int (p2.toUInt32.toUInt16.toUInt32.toInt32)), .val (.int (p3.toUInt32.toUInt16.toUInt32.toInt32)), .val (.int (p0 &&& (7 : Int32)))] [(.int (p0 &&& (7 : Int32)))])
  refine Goes.of (fun _ => XS.ifYes X.here hx rfl (pc0 := 20) (pc' := 25) rfl (hb hby d1_20) rfl ((if0 _ _).trans (feq hz).2) (by decide) (by decide)) ?_
  show Goes p e below _ T (mkF m 25 #[.val (.int p0), .val (.int p1), .val (.int p2), .val (.int p3), .val (.int (p1.toUInt32.toUInt16.toUInt32.toInt32)), .val (.int (p2.toUInt32.toUInt16.toUInt32.toInt32)), .val (.int (p3.toUInt32.toUInt16.toUInt32.toInt32)), .val (.int (p0 &&& (7 : Int32)))] [])
  refine Goes.of (fun _ => XS.iload X.here hx rfl (hb hby d1_25) rfl) ?_
  show Goes p e below _ T (mkF m 27 #[.val (.int p0), .val (.int p1), .val (.int p2), .val (.int p3), .val (.int (p1.toUInt32.toUInt16.toUInt32.toInt32)), .val (.int (p2.toUInt32.toUInt16.toUInt32.toInt32)), .val (.int (p3.toUInt32.toUInt16.toUInt32.toInt32)), .val (.int (p0 &&& (7 : Int32)))] [(.int (p0 &&& (7 : Int32)))])
  refine Goes.of (fun _ => XS.iconst X.here hx rfl (hb hby d1_27)) ?_
  show Goes p e below _ T (mkF m 28 #[.val (.int p0), .val (.int p1), .val (.int p2), .val (.int p3), .val (.int (p1.toUInt32.toUInt16.toUInt32.toInt32)), .val (.int (p2.toUInt32.toUInt16.toUInt32.toInt32)), .val (.int (p3.toUInt32.toUInt16.toUInt32.toInt32)), .val (.int (p0 &&& (7 : Int32)))] [(.int (1 : Int32)), (.int (p0 &&& (7 : Int32)))])
  by_cases hpc28 : (p0 &&& (7 : Int32)) = (1 : Int32)
  · refine Goes.of (fun _ => XS.icmpNo X.here hx rfl (hb hby d1_28) rfl (teq hpc28).2) ?_
    show Goes p e below _ T (mkF m 31 #[.val (.int p0), .val (.int p1), .val (.int p2), .val (.int p3), .val (.int (p1.toUInt32.toUInt16.toUInt32.toInt32)), .val (.int (p2.toUInt32.toUInt16.toUInt32.toInt32)), .val (.int (p3.toUInt32.toUInt16.toUInt32.toInt32)), .val (.int (p0 &&& (7 : Int32)))] [])
    refine goNew X hx hZ hown (hw _ (List.mem_of_getElem? (i := 82) rfl)) (hw _ (List.mem_of_getElem? (i := 83) rfl)) (hw _ (List.mem_of_getElem? (i := 84) rfl)) eT0 (g := (mkF m 31 #[.val (.int p0), .val (.int p1), .val (.int p2), .val (.int p3), .val (.int (p1.toUInt32.toUInt16.toUInt32.toInt32)), .val (.int (p2.toUInt32.toUInt16.toUInt32.toInt32)), .val (.int (p3.toUInt32.toUInt16.toUInt32.toInt32)), .val (.int (p0 &&& (7 : Int32)))] [])) rfl (hb hby d1_31) (by decide) (by decide) ?_
    intro T1 h1 b1 X1 eT1 E1 hb1 A1 D1
    have g_b1 : n0 ≤ b1 := Nat.le_trans (oldLe O0) hb1
    have sz_b1 : h0.size ≤ b1 := Nat.le_trans Kp.1 hb1
    have Kp := Kp.ext E1
    have hk := Nat.le_trans hk E1.1
    have HC := HC.trans (CHr.ext E1 HC.1)
    have O0 := O0.ext E1
    have F1_coder : Fld Z h1 b1 "java/lang/String" "coder" "B" (.int (0 : Int32)) := D1 (Or.inr (hw _ (List.mem_of_getElem? (i := 107) rfl))) (ty := .byte) (by decide)
    have F1_value : Fld Z h1 b1 "java/lang/String" "value" "[B" .null := D1 (Or.inr (hw _ (List.mem_of_getElem? (i := 109) rfl))) (ty := (.array .byte)) (by decide)
    show Goes p e below _ T1 (mkF m 34 #[.val (.int p0), .val (.int p1), .val (.int p2), .val (.int p3), .val (.int (p1.toUInt32.toUInt16.toUInt32.toInt32)), .val (.int (p2.toUInt32.toUInt16.toUInt32.toInt32)), .val (.int (p3.toUInt32.toUInt16.toUInt32.toInt32)), .val (.int (p0 &&& (7 : Int32)))] [(.ref b1)])
    refine Goes.of (fun _ => XS.dup X1.here hx rfl (hb hby d1_34) rfl rfl) ?_
    show Goes p e below _ T1 (mkF m 35 #[.val (.int p0), .val (.int p1), .val (.int p2), .val (.int p3), .val (.int (p1.toUInt32.toUInt16.toUInt32.toInt32)), .val (.int (p2.toUInt32.toUInt16.toUInt32.toInt32)), .val (.int (p3.toUInt32.toUInt16.toUInt32.toInt32)), .val (.int (p0 &&& (7 : Int32)))] [(.ref b1), (.ref b1)])
    refine Goes.of (fun _ => XS.iconst X1.here hx rfl (hb hby d1_35)) ?_
    show Goes p e below _ T1 (mkF m 36 #[.val (.int p0), .val (.int p1), .val (.int p2), .val (.int p3), .val (.int (p1.toUInt32.toUInt16.toUInt32.toInt32)), .val (.int (p2.toUInt32.toUInt16.toUInt32.toInt32)), .val (.int (p3.toUInt32.toUInt16.toUInt32.toInt32)), .val (.int (p0 &&& (7 : Int32)))] [(.int (0 : Int32)), (.ref b1), (.ref b1)])
    refine goNewP 0 X1 hx hZ (hw _ (List.mem_of_getElem? (i := 85) rfl)) eT1 (g := (mkF m 36 #[.val (.int p0), .val (.int p1), .val (.int p2), .val (.int p3), .val (.int (p1.toUInt32.toUInt16.toUInt32.toInt32)), .val (.int (p2.toUInt32.toUInt16.toUInt32.toInt32)), .val (.int (p3.toUInt32.toUInt16.toUInt32.toInt32)), .val (.int (p0 &&& (7 : Int32)))] [(.int (0 : Int32)), (.ref b1), (.ref b1)])) rfl (hb hby d1_36) rfl (by decide) (by decide) (by decide) (by decide) (by decide) (ad := "[C") (by first | rfl | decide) ?_
    intro T2 h2 b2 kA2 X2 eT2 E2 hb2 V2 A2
    have g_b2 : n0 ≤ b2 := Nat.le_trans (oldLe O0) hb2
    have sz_b2 : h0.size ≤ b2 := Nat.le_trans Kp.1 hb2
    have ne_b1_b2 : b1 ≠ b2 := Nat.ne_of_lt (Nat.lt_of_lt_of_le A1.lt hb2)
    have A1 := A1.ext E2
    have F1_coder := F1_coder.ext E2
    have F1_value := F1_value.ext E2
    have Kp := Kp.ext E2
    have hk := Nat.le_trans hk E2.1
    have HC := HC.trans (CHr.ext E2 HC.1)
    have O0 := O0.ext E2
    have V2 : Arv Z h2 b2 kA2 .char (0 : Int32) [] (.int (0 : Int32)) := V2
    show Goes p e below _ T2 (mkF m 38 #[.val (.int p0), .val (.int p1), .val (.int p2), .val (.int p3), .val (.int (p1.toUInt32.toUInt16.toUInt32.toInt32)), .val (.int (p2.toUInt32.toUInt16.toUInt32.toInt32)), .val (.int (p3.toUInt32.toUInt16.toUInt32.toInt32)), .val (.int (p0 &&& (7 : Int32)))] [(.ref b2), (.ref b1), (.ref b1)])
    refine goSpecialW 1 X2 hS hk hEL HC hx hZ rfl hown (hw _ (List.mem_of_getElem? (i := 86) rfl)) (hw _ (List.mem_of_getElem? (i := 87) rfl)) (hw _ (List.mem_of_getElem? (i := 84) rfl)) (hw _ (List.mem_of_getElem? (i := 88) rfl)) (by decide) (rm_sinit0 l Z a0 hw b1 b2 _ _ _ h2 n0 O0 g_b1 A1 F1_value F1_coder ne_b1_b2 V2) eT2 (g := (mkF m 38 #[.val (.int p0), .val (.int p1), .val (.int p2), .val (.int p3), .val (.int (p1.toUInt32.toUInt16.toUInt32.toInt32)), .val (.int (p2.toUInt32.toUInt16.toUInt32.toInt32)), .val (.int (p3.toUInt32.toUInt16.toUInt32.toInt32)), .val (.int (p0 &&& (7 : Int32)))] [(.ref b2), (.ref b1), (.ref b1)])) rfl (by rw [hml]; rfl) b1 [(.ref b2)] [(.ref b1)] (lenOf pd___C_V rfl) rfl rfl (by show 2 * 0 + _ ≤ _; exact Nat.le_of_eq rfl) (hb hby d1_38) (by decide) (by decide) (by decide) (by decide) ?_
    intro v3 T3 L3 kk3 X3 hS hk hZ hown HC q3
    obtain ⟨rfl, Nq3, Kq3⟩ := q3
    have N3 := Fr.app N0 Nq3
    have A1 := A1.keep Kq3
    have V2 := V2.keep Kq3 (ninS (Ne.symm ne_b1_b2) nin0)
    have A2 := A2.keep Kq3
    have Kp := Kp.trans Kq3 (allS (Or.inr sz_b1) all0)
    have O0 := O0.keep Kq3 (allS g_b1 all0)
    show Goes p e below _ T3 (mkF m 41 #[.val (.int p0), .val (.int p1), .val (.int p2), .val (.int p3), .val (.int (p1.toUInt32.toUInt16.toUInt32.toInt32)), .val (.int (p2.toUInt32.toUInt16.toUInt32.toInt32)), .val (.int (p3.toUInt32.toUInt16.toUInt32.toInt32)), .val (.int (p0 &&& (7 : Int32)))] [(.ref b1)])
    exact retRefW X3 hS hk hZ hEL HC hx hret hlk rfl rfl (hb hby d1_41) (rfl : T3.heap = _) (by decide) (by decide) ⟨b1, rfl, N3, Kp, A1⟩
  · refine Goes.of (fun _ => XS.icmpYes X.here hx rfl (pc0 := 28) (pc' := 42) rfl (hb hby d1_28) rfl (feq hpc28).2 (by decide) (by decide)) ?_
    show Goes p e below _ T (mkF m 42 #[.val (.int p0), .val (.int p1), .val (.int p2), .val (.int p3), .val (.int (p1.toUInt32.toUInt16.toUInt32.toInt32)), .val (.int (p2.toUInt32.toUInt16.toUInt32.toInt32)), .val (.int (p3.toUInt32.toUInt16.toUInt32.toInt32)), .val (.int (p0 &&& (7 : Int32)))] [])
    refine Goes.of (fun _ => XS.iload X.here hx rfl (hb hby d1_42) rfl) ?_
    show Goes p e below _ T (mkF m 44 #[.val (.int p0), .val (.int p1), .val (.int p2), .val (.int p3), .val (.int (p1.toUInt32.toUInt16.toUInt32.toInt32)), .val (.int (p2.toUInt32.toUInt16.toUInt32.toInt32)), .val (.int (p3.toUInt32.toUInt16.toUInt32.toInt32)), .val (.int (p0 &&& (7 : Int32)))] [(.int (p0 &&& (7 : Int32)))])
    refine Goes.of (fun _ => XS.iconst X.here hx rfl (hb hby d1_44)) ?_
    show Goes p e below _ T (mkF m 45 #[.val (.int p0), .val (.int p1), .val (.int p2), .val (.int p3), .val (.int (p1.toUInt32.toUInt16.toUInt32.toInt32)), .val (.int (p2.toUInt32.toUInt16.toUInt32.toInt32)), .val (.int (p3.toUInt32.toUInt16.toUInt32.toInt32)), .val (.int (p0 &&& (7 : Int32)))] [(.int (2 : Int32)), (.int (p0 &&& (7 : Int32)))])
    by_cases hpc45 : (p0 &&& (7 : Int32)) = (2 : Int32)
    · refine Goes.of (fun _ => XS.icmpNo X.here hx rfl (hb hby d1_45) rfl (teq hpc45).2) ?_
      show Goes p e below _ T (mkF m 48 #[.val (.int p0), .val (.int p1), .val (.int p2), .val (.int p3), .val (.int (p1.toUInt32.toUInt16.toUInt32.toInt32)), .val (.int (p2.toUInt32.toUInt16.toUInt32.toInt32)), .val (.int (p3.toUInt32.toUInt16.toUInt32.toInt32)), .val (.int (p0 &&& (7 : Int32)))] [])
      refine Goes.of (fun _ => XS.iload X.here hx rfl (hb hby d1_48) rfl) ?_
      show Goes p e below _ T (mkF m 50 #[.val (.int p0), .val (.int p1), .val (.int p2), .val (.int p3), .val (.int (p1.toUInt32.toUInt16.toUInt32.toInt32)), .val (.int (p2.toUInt32.toUInt16.toUInt32.toInt32)), .val (.int (p3.toUInt32.toUInt16.toUInt32.toInt32)), .val (.int (p0 &&& (7 : Int32)))] [(.int (p1.toUInt32.toUInt16.toUInt32.toInt32))])
      refine goStatic 0 X hx hZ hown (hw _ (List.mem_of_getElem? (i := 115) rfl)) (hw _ (List.mem_of_getElem? (i := 116) rfl)) (hw _ (List.mem_of_getElem? (i := 84) rfl)) (hw _ (List.mem_of_getElem? (i := 117) rfl)) (by decide) (rm_valchar l Z a0 hw (p1.toUInt32.toUInt16.toUInt32.toInt32) cz h0 n0 O0 Sa Sh Sl Sc hcz) eT0 (g := (mkF m 50 #[.val (.int p0), .val (.int p1), .val (.int p2), .val (.int p3), .val (.int (p1.toUInt32.toUInt16.toUInt32.toInt32)), .val (.int (p2.toUInt32.toUInt16.toUInt32.toInt32)), .val (.int (p3.toUInt32.toUInt16.toUInt32.toInt32)), .val (.int (p0 &&& (7 : Int32)))] [(.int (p1.toUInt32.toUInt16.toUInt32.toInt32))])) rfl (by rw [hml]; rfl) [(.int (p1.toUInt32.toUInt16.toUInt32.toInt32))] [] (lenOf pd__C_Ljava_lang_String_ rfl) rfl rfl (by show 2 * 0 + _ ≤ _; exact Nat.le_of_eq rfl) (hb hby d1_50) (by decide) (by decide) (by decide) (by decide) ?_
      intro v4 T4 L4 X4 q4
      obtain ⟨vb4, rfl, Nq4, Kq4, Ev4⟩ := q4
      have N4 := Fr.app N0 Nq4
      have Kp := Kp.trans Kq4 all0
      have HC := HC.trans (CHr.keep Kq4 sf0 HC.1)
      have hk := Nat.le_trans hk Kq4.1
      have O0 := O0.keep Kq4 all0
      show Goes p e below _ T4 (mkF m 53 #[.val (.int p0), .val (.int p1), .val (.int p2), .val (.int p3), .val (.int (p1.toUInt32.toUInt16.toUInt32.toInt32)), .val (.int (p2.toUInt32.toUInt16.toUInt32.toInt32)), .val (.int (p3.toUInt32.toUInt16.toUInt32.toInt32)), .val (.int (p0 &&& (7 : Int32)))] [(.ref vb4)])
      exact retRefW X4 hS hk hZ hEL HC hx hret hlk rfl rfl (hb hby d1_53) (rfl : T4.heap = _) (by decide) (by decide) ⟨vb4, rfl, N4, Kp, Ev4⟩
    · refine Goes.of (fun _ => XS.icmpYes X.here hx rfl (pc0 := 45) (pc' := 54) rfl (hb hby d1_45) rfl (feq hpc45).2 (by decide) (by decide)) ?_
      show Goes p e below _ T (mkF m 54 #[.val (.int p0), .val (.int p1), .val (.int p2), .val (.int p3), .val (.int (p1.toUInt32.toUInt16.toUInt32.toInt32)), .val (.int (p2.toUInt32.toUInt16.toUInt32.toInt32)), .val (.int (p3.toUInt32.toUInt16.toUInt32.toInt32)), .val (.int (p0 &&& (7 : Int32)))] [])
      refine Goes.of (fun _ => XS.iload X.here hx rfl (hb hby d1_54) rfl) ?_
      show Goes p e below _ T (mkF m 56 #[.val (.int p0), .val (.int p1), .val (.int p2), .val (.int p3), .val (.int (p1.toUInt32.toUInt16.toUInt32.toInt32)), .val (.int (p2.toUInt32.toUInt16.toUInt32.toInt32)), .val (.int (p3.toUInt32.toUInt16.toUInt32.toInt32)), .val (.int (p0 &&& (7 : Int32)))] [(.int (p0 &&& (7 : Int32)))])
      refine Goes.of (fun _ => XS.iconst X.here hx rfl (hb hby d1_56)) ?_
      show Goes p e below _ T (mkF m 57 #[.val (.int p0), .val (.int p1), .val (.int p2), .val (.int p3), .val (.int (p1.toUInt32.toUInt16.toUInt32.toInt32)), .val (.int (p2.toUInt32.toUInt16.toUInt32.toInt32)), .val (.int (p3.toUInt32.toUInt16.toUInt32.toInt32)), .val (.int (p0 &&& (7 : Int32)))] [(.int (3 : Int32)), (.int (p0 &&& (7 : Int32)))])
      by_cases hpc57 : (p0 &&& (7 : Int32)) = (3 : Int32)
      · refine Goes.of (fun _ => XS.icmpNo X.here hx rfl (hb hby d1_57) rfl (teq hpc57).2) ?_
        show Goes p e below _ T (mkF m 60 #[.val (.int p0), .val (.int p1), .val (.int p2), .val (.int p3), .val (.int (p1.toUInt32.toUInt16.toUInt32.toInt32)), .val (.int (p2.toUInt32.toUInt16.toUInt32.toInt32)), .val (.int (p3.toUInt32.toUInt16.toUInt32.toInt32)), .val (.int (p0 &&& (7 : Int32)))] [])
        refine goNew X hx hZ hown (hw _ (List.mem_of_getElem? (i := 82) rfl)) (hw _ (List.mem_of_getElem? (i := 83) rfl)) (hw _ (List.mem_of_getElem? (i := 84) rfl)) eT0 (g := (mkF m 60 #[.val (.int p0), .val (.int p1), .val (.int p2), .val (.int p3), .val (.int (p1.toUInt32.toUInt16.toUInt32.toInt32)), .val (.int (p2.toUInt32.toUInt16.toUInt32.toInt32)), .val (.int (p3.toUInt32.toUInt16.toUInt32.toInt32)), .val (.int (p0 &&& (7 : Int32)))] [])) rfl (hb hby d1_60) (by decide) (by decide) ?_
        intro T5 h5 b5 X5 eT5 E5 hb5 A5 D5
        have g_b5 : n0 ≤ b5 := Nat.le_trans (oldLe O0) hb5
        have sz_b5 : h0.size ≤ b5 := Nat.le_trans Kp.1 hb5
        have Kp := Kp.ext E5
        have hk := Nat.le_trans hk E5.1
        have HC := HC.trans (CHr.ext E5 HC.1)
        have O0 := O0.ext E5
        have F5_coder : Fld Z h5 b5 "java/lang/String" "coder" "B" (.int (0 : Int32)) := D5 (Or.inr (hw _ (List.mem_of_getElem? (i := 107) rfl))) (ty := .byte) (by decide)
        have F5_value : Fld Z h5 b5 "java/lang/String" "value" "[B" .null := D5 (Or.inr (hw _ (List.mem_of_getElem? (i := 109) rfl))) (ty := (.array .byte)) (by decide)
        show Goes p e below _ T5 (mkF m 63 #[.val (.int p0), .val (.int p1), .val (.int p2), .val (.int p3), .val (.int (p1.toUInt32.toUInt16.toUInt32.toInt32)), .val (.int (p2.toUInt32.toUInt16.toUInt32.toInt32)), .val (.int (p3.toUInt32.toUInt16.toUInt32.toInt32)), .val (.int (p0 &&& (7 : Int32)))] [(.ref b5)])
        refine Goes.of (fun _ => XS.dup X5.here hx rfl (hb hby d1_63) rfl rfl) ?_
        show Goes p e below _ T5 (mkF m 64 #[.val (.int p0), .val (.int p1), .val (.int p2), .val (.int p3), .val (.int (p1.toUInt32.toUInt16.toUInt32.toInt32)), .val (.int (p2.toUInt32.toUInt16.toUInt32.toInt32)), .val (.int (p3.toUInt32.toUInt16.toUInt32.toInt32)), .val (.int (p0 &&& (7 : Int32)))] [(.ref b5), (.ref b5)])
        refine Goes.of (fun _ => XS.iconst X5.here hx rfl (hb hby d1_64)) ?_
        show Goes p e below _ T5 (mkF m 65 #[.val (.int p0), .val (.int p1), .val (.int p2), .val (.int p3), .val (.int (p1.toUInt32.toUInt16.toUInt32.toInt32)), .val (.int (p2.toUInt32.toUInt16.toUInt32.toInt32)), .val (.int (p3.toUInt32.toUInt16.toUInt32.toInt32)), .val (.int (p0 &&& (7 : Int32)))] [(.int (2 : Int32)), (.ref b5), (.ref b5)])
        refine goNewP 2 X5 hx hZ (hw _ (List.mem_of_getElem? (i := 85) rfl)) eT5 (g := (mkF m 65 #[.val (.int p0), .val (.int p1), .val (.int p2), .val (.int p3), .val (.int (p1.toUInt32.toUInt16.toUInt32.toInt32)), .val (.int (p2.toUInt32.toUInt16.toUInt32.toInt32)), .val (.int (p3.toUInt32.toUInt16.toUInt32.toInt32)), .val (.int (p0 &&& (7 : Int32)))] [(.int (2 : Int32)), (.ref b5), (.ref b5)])) rfl (hb hby d1_65) rfl (by decide) (by decide) (by decide) (by decide) (by decide) (ad := "[C") (by first | rfl | decide) ?_
        intro T6 h6 b6 kA6 X6 eT6 E6 hb6 V6 A6
        have g_b6 : n0 ≤ b6 := Nat.le_trans (oldLe O0) hb6
        have sz_b6 : h0.size ≤ b6 := Nat.le_trans Kp.1 hb6
        have ne_b5_b6 : b5 ≠ b6 := Nat.ne_of_lt (Nat.lt_of_lt_of_le A5.lt hb6)
        have A5 := A5.ext E6
        have F5_coder := F5_coder.ext E6
        have F5_value := F5_value.ext E6
        have Kp := Kp.ext E6
        have hk := Nat.le_trans hk E6.1
        have HC := HC.trans (CHr.ext E6 HC.1)
        have O0 := O0.ext E6
        have V6 : Arv Z h6 b6 kA6 .char (2 : Int32) [(.int (0 : Int32)), (.int (0 : Int32))] (.int (0 : Int32)) := V6
        show Goes p e below _ T6 (mkF m 67 #[.val (.int p0), .val (.int p1), .val (.int p2), .val (.int p3), .val (.int (p1.toUInt32.toUInt16.toUInt32.toInt32)), .val (.int (p2.toUInt32.toUInt16.toUInt32.toInt32)), .val (.int (p3.toUInt32.toUInt16.toUInt32.toInt32)), .val (.int (p0 &&& (7 : Int32)))] [(.ref b6), (.ref b5), (.ref b5)])
        refine Goes.of (fun _ => XS.dup X6.here hx rfl (hb hby d1_67) rfl rfl) ?_
        show Goes p e below _ T6 (mkF m 68 #[.val (.int p0), .val (.int p1), .val (.int p2), .val (.int p3), .val (.int (p1.toUInt32.toUInt16.toUInt32.toInt32)), .val (.int (p2.toUInt32.toUInt16.toUInt32.toInt32)), .val (.int (p3.toUInt32.toUInt16.toUInt32.toInt32)), .val (.int (p0 &&& (7 : Int32)))] [(.ref b6), (.ref b6), (.ref b5), (.ref b5)])
        refine Goes.of (fun _ => XS.iconst X6.here hx rfl (hb hby d1_68)) ?_
        show Goes p e below _ T6 (mkF m 69 #[.val (.int p0), .val (.int p1), .val (.int p2), .val (.int p3), .val (.int (p1.toUInt32.toUInt16.toUInt32.toInt32)), .val (.int (p2.toUInt32.toUInt16.toUInt32.toInt32)), .val (.int (p3.toUInt32.toUInt16.toUInt32.toInt32)), .val (.int (p0 &&& (7 : Int32)))] [(.int (0 : Int32)), (.ref b6), (.ref b6), (.ref b5), (.ref b5)])
        refine Goes.of (fun _ => XS.iload X6.here hx rfl (hb hby d1_69) rfl) ?_
        show Goes p e below _ T6 (mkF m 71 #[.val (.int p0), .val (.int p1), .val (.int p2), .val (.int p3), .val (.int (p1.toUInt32.toUInt16.toUInt32.toInt32)), .val (.int (p2.toUInt32.toUInt16.toUInt32.toInt32)), .val (.int (p3.toUInt32.toUInt16.toUInt32.toInt32)), .val (.int (p0 &&& (7 : Int32)))] [(.int (p1.toUInt32.toUInt16.toUInt32.toInt32)), (.int (0 : Int32)), (.ref b6), (.ref b6), (.ref b5), (.ref b5)])
        have Sf_b6 : Safe Z EL _ h6 b6 := Safe.arv hZ.alike V6 (by decide)
        refine goStC 0 X6 hx hZ eT6 V6 (by decide) (by decide) rfl (Nat.lt_of_lt_of_le (Nat.lt_succ_self _) (Nat.le_of_ble_eq_true rfl)) (g := (mkF m 71 #[.val (.int p0), .val (.int p1), .val (.int p2), .val (.int p3), .val (.int (p1.toUInt32.toUInt16.toUInt32.toInt32)), .val (.int (p2.toUInt32.toUInt16.toUInt32.toInt32)), .val (.int (p3.toUInt32.toUInt16.toUInt32.toInt32)), .val (.int (p0 &&& (7 : Int32)))] [(.int (p1.toUInt32.toUInt16.toUInt32.toInt32)), (.int (0 : Int32)), (.ref b6), (.ref b6), (.ref b5), (.ref b5)])) rfl rfl (hb hby d1_71) ?_
        intro T7 h7 X7 eT7 W7 V6
        have N7 := Fr.snoc X7 N0 g_b6
        have A5 := A5.wr W7
        have F5_coder := F5_coder.other W7 (Or.inl ne_b5_b6)
        have F5_value := F5_value.other W7 (Or.inl ne_b5_b6)
        have A6 := A6.wr W7
        have Kp := Kp.wr W7 (Or.inr sz_b6)
        have HC := HC.trans (CHr.wr W7 Sf_b6 HC.1)
        have hk := Nat.le_trans hk (Nat.le_of_eq (Wr.size W7).symm)
        have O0 := O0.wr W7 g_b6
        have V6 : Arv Z h7 b6 kA6 .char (2 : Int32) [(.int (nar .char (p1.toUInt32.toUInt16.toUInt32.toInt32))), (.int (0 : Int32))] (.int (0 : Int32)) := V6
        show Goes p e below _ T7 (mkF m 72 #[.val (.int p0), .val (.int p1), .val (.int p2), .val (.int p3), .val (.int (p1.toUInt32.toUInt16.toUInt32.toInt32)), .val (.int (p2.toUInt32.toUInt16.toUInt32.toInt32)), .val (.int (p3.toUInt32.toUInt16.toUInt32.toInt32)), .val (.int (p0 &&& (7 : Int32)))] [(.ref b6), (.ref b5), (.ref b5)])
        refine Goes.of (fun _ => XS.dup X7.here hx rfl (hb hby d1_72) rfl rfl) ?_
        show Goes p e below _ T7 (mkF m 73 #[.val (.int p0), .val (.int p1), .val (.int p2), .val (.int p3), .val (.int (p1.toUInt32.toUInt16.toUInt32.toInt32)), .val (.int (p2.toUInt32.toUInt16.toUInt32.toInt32)), .val (.int (p3.toUInt32.toUInt16.toUInt32.toInt32)), .val (.int (p0 &&& (7 : Int32)))] [(.ref b6), (.ref b6), (.ref b5), (.ref b5)])
        refine Goes.of (fun _ => XS.iconst X7.here hx rfl (hb hby d1_73)) ?_
        show Goes p e below _ T7 (mkF m 74 #[.val (.int p0), .val (.int p1), .val (.int p2), .val (.int p3), .val (.int (p1.toUInt32.toUInt16.toUInt32.toInt32)), .val (.int (p2.toUInt32.toUInt16.toUInt32.toInt32)), .val (.int (p3.toUInt32.toUInt16.toUInt32.toInt32)), .val (.int (p0 &&& (7 : Int32)))] [(.int (1 : Int32)), (.ref b6), (.ref b6), (.ref b5), (.ref b5)])
        refine Goes.of (fun _ => XS.iload X7.here hx rfl (hb hby d1_74) rfl) ?_
        show Goes p e below _ T7 (mkF m 76 #[.val (.int p0), .val (.int p1), .val (.int p2), .val (.int p3), .val (.int (p1.toUInt32.toUInt16.toUInt32.toInt32)), .val (.int (p2.toUInt32.toUInt16.toUInt32.toInt32)), .val (.int (p3.toUInt32.toUInt16.toUInt32.toInt32)), .val (.int (p0 &&& (7 : Int32)))] [(.int (p2.toUInt32.toUInt16.toUInt32.toInt32)), (.int (1 : Int32)), (.ref b6), (.ref b6), (.ref b5), (.ref b5)])
        have Sf_b6 : Safe Z EL _ h7 b6 := Safe.arv hZ.alike V6 (by decide)
        refine goStC 1 X7 hx hZ eT7 V6 (by decide) (by decide) rfl (Nat.lt_of_lt_of_le (Nat.lt_succ_self _) (Nat.le_of_ble_eq_true rfl)) (g := (mkF m 76 #[.val (.int p0), .val (.int p1), .val (.int p2), .val (.int p3), .val (.int (p1.toUInt32.toUInt16.toUInt32.toInt32)), .val (.int (p2.toUInt32.toUInt16.toUInt32.toInt32)), .val (.int (p3.toUInt32.toUInt16.toUInt32.toInt32)), .val (.int (p0 &&& (7 : Int32)))] [(.int (p2.toUInt32.toUInt16.toUInt32.toInt32)), (.int (1 : Int32)), (.ref b6), (.ref b6), (.ref b5), (.ref b5)])) rfl rfl (hb hby d1_76) ?_
        intro T8 h8 X8 eT8 W8 V6
        have N8 := Fr.snoc X8 N7 g_b6
        have A5 := A5.wr W8
        have F5_coder := F5_coder.other W8 (Or.inl ne_b5_b6)
        have F5_value := F5_value.other W8 (Or.inl ne_b5_b6)
        have A6 := A6.wr W8
        have Kp := Kp.wr W8 (Or.inr sz_b6)
        have HC := HC.trans (CHr.wr W8 Sf_b6 HC.1)
        have hk := Nat.le_trans hk (Nat.le_of_eq (Wr.size W8).symm)
        have O0 := O0.wr W8 g_b6
        have V6 : Arv Z h8 b6 kA6 .char (2 : Int32) [(.int (nar .char (p1.toUInt32.toUInt16.toUInt32.toInt32))), (.int (nar .char (p2.toUInt32.toUInt16.toUInt32.toInt32)))] (.int (0 : Int32)) := V6
        show Goes p e below _ T8 (mkF m 77 #[.val (.int p0), .val (.int p1), .val (.int p2), .val (.int p3), .val (.int (p1.toUInt32.toUInt16.toUInt32.toInt32)), .val (.int (p2.toUInt32.toUInt16.toUInt32.toInt32)), .val (.int (p3.toUInt32.toUInt16.toUInt32.toInt32)), .val (.int (p0 &&& (7 : Int32)))] [(.ref b6), (.ref b5), (.ref b5)])
        have Sf_b5 : Safe Z EL _ h8 b5 := safeNull hZ.alike A5 F5_value
        refine goSpecial 1 X8 hx hZ rfl hown (hw _ (List.mem_of_getElem? (i := 86) rfl)) (hw _ (List.mem_of_getElem? (i := 87) rfl)) (hw _ (List.mem_of_getElem? (i := 84) rfl)) (hw _ (List.mem_of_getElem? (i := 88) rfl)) (by decide) (rm_sin1_2 l Z a0 hw b5 b6 _ (nar .char (p1.toUInt32.toUInt16.toUInt32.toInt32)) (nar .char (p2.toUInt32.toUInt16.toUInt32.toInt32)) cz h8 n0 O0 Sa Sh Sl Sc hcz g_b5 A5 F5_value F5_coder ne_b5_b6 V6 (char16 _) (char16 _)) eT8 (g := (mkF m 77 #[.val (.int p0), .val (.int p1), .val (.int p2), .val (.int p3), .val (.int (p1.toUInt32.toUInt16.toUInt32.toInt32)), .val (.int (p2.toUInt32.toUInt16.toUInt32.toInt32)), .val (.int (p3.toUInt32.toUInt16.toUInt32.toInt32)), .val (.int (p0 &&& (7 : Int32)))] [(.ref b6), (.ref b5), (.ref b5)])) rfl (by rw [hml]; rfl) b5 [(.ref b6)] [(.ref b5)] (lenOf pd___C_V rfl) rfl rfl (by show 2 * 0 + _ ≤ _; exact Nat.le_of_eq rfl) (hb hby d1_77) (by decide) (by decide) (by decide) (by decide) ?_
        intro v9 T9 L9 X9 q9
        obtain ⟨rfl, Nq9, Kq9⟩ := q9
        have N9 := Fr.app N8 Nq9
        have A5 := A5.keep Kq9
        have V6 := V6.keep Kq9 (ninS (Ne.symm ne_b5_b6) nin0)
        have A6 := A6.keep Kq9
        have Kp := Kp.trans Kq9 (allS (Or.inr sz_b5) all0)
        have HC := HC.trans (CHr.keep Kq9 (sfS Sf_b5 sf0) HC.1)
        have hk := Nat.le_trans hk Kq9.1
        have O0 := O0.keep Kq9 (allS g_b5 all0)
        show Goes p e below _ T9 (mkF m 80 #[.val (.int p0), .val (.int p1), .val (.int p2), .val (.int p3), .val (.int (p1.toUInt32.toUInt16.toUInt32.toInt32)), .val (.int (p2.toUInt32.toUInt16.toUInt32.toInt32)), .val (.int (p3.toUInt32.toUInt16.toUInt32.toInt32)), .val (.int (p0 &&& (7 : Int32)))] [(.ref b5)])
        exact retRefW X9 hS hk hZ hEL HC hx hret hlk rfl rfl (hb hby d1_80) (rfl : T9.heap = _) (by decide) (by decide) ⟨b5, rfl, N9, Kp, A5⟩
      · refine Goes.of (fun _ => XS.icmpYes X.here hx rfl (pc0 := 57) (pc' := 81) rfl (hb hby d1_57) rfl (feq hpc57).2 (by decide) (by decide)) ?_
        show Goes p e below _ T (mkF m 81 #[.val (.int p0), .val (.int p1), .val (.int p2), .val (.int p3), .val (.int (p1.toUInt32.toUInt16.toUInt32.toInt32)), .val (.int (p2.toUInt32.toUInt16.toUInt32.toInt32)), .val (.int (p3.toUInt32.toUInt16.toUInt32.toInt32)), .val (.int (p0 &&& (7 : Int32)))] [])
        refine goNew X hx hZ hown (hw _ (List.mem_of_getElem? (i := 82) rfl)) (hw _ (List.mem_of_getElem? (i := 83) rfl)) (hw _ (List.mem_of_getElem? (i := 84) rfl)) eT0 (g := (mkF m 81 #[.val (.int p0), .val (.int p1), .val (.int p2), .val (.int p3), .val (.int (p1.toUInt32.toUInt16.toUInt32.toInt32)), .val (.int (p2.toUInt32.toUInt16.toUInt32.toInt32)), .val (.int (p3.toUInt32.toUInt16.toUInt32.toInt32)), .val (.int (p0 &&& (7 : Int32)))] [])) rfl (hb hby d1_81) (by decide) (by decide) ?_
        intro T10 h10 b10 X10 eT10 E10 hb10 A10 D10
        have g_b10 : n0 ≤ b10 := Nat.le_trans (oldLe O0) hb10
        have sz_b10 : h0.size ≤ b10 := Nat.le_trans Kp.1 hb10
        have Kp := Kp.ext E10
        have hk := Nat.le_trans hk E10.1
        have HC := HC.trans (CHr.ext E10 HC.1)
        have O0 := O0.ext E10
        have F10_coder : Fld Z h10 b10 "java/lang/String" "coder" "B" (.int (0 : Int32)) := D10 (Or.inr (hw _ (List.mem_of_getElem? (i := 107) rfl))) (ty := .byte) (by decide)
        have F10_value : Fld Z h10 b10 "java/lang/String" "value" "[B" .null := D10 (Or.inr (hw _ (List.mem_of_getElem? (i := 109) rfl))) (ty := (.array .byte)) (by decide)
        show Goes p e below _ T10 (mkF m 84 #[.val (.int p0), .val (.int p1), .val (.int p2), .val (.int p3), .val (.int (p1.toUInt32.toUInt16.toUInt32.toInt32)), .val (.int (p2.toUInt32.toUInt16.toUInt32.toInt32)), .val (.int (p3.toUInt32.toUInt16.toUInt32.toInt32)), .val (.int (p0 &&& (7 : Int32)))] [(.ref b10)])
        refine Goes.of (fun _ => XS.dup X10.here hx rfl (hb hby d1_84) rfl rfl) ?_
        show Goes p e below _ T10 (mkF m 85 #[.val (.int p0), .val (.int p1), .val (.int p2), .val (.int p3), .val (.int (p1.toUInt32.toUInt16.toUInt32.toInt32)), .val (.int (p2.toUInt32.toUInt16.toUInt32.toInt32)), .val (.int (p3.toUInt32.toUInt16.toUInt32.toInt32)), .val (.int (p0 &&& (7 : Int32)))] [(.ref b10), (.ref b10)])
        refine Goes.of (fun _ => XS.iconst X10.here hx rfl (hb hby d1_85)) ?_
        show Goes p e below _ T10 (mkF m 86 #[.val (.int p0), .val (.int p1), .val (.int p2), .val (.int p3), .val (.int (p1.toUInt32.toUInt16.toUInt32.toInt32)), .val (.int (p2.toUInt32.toUInt16.toUInt32.toInt32)), .val (.int (p3.toUInt32.toUInt16.toUInt32.toInt32)), .val (.int (p0 &&& (7 : Int32)))] [(.int (3 : Int32)), (.ref b10), (.ref b10)])
        refine goNewP 3 X10 hx hZ (hw _ (List.mem_of_getElem? (i := 85) rfl)) eT10 (g := (mkF m 86 #[.val (.int p0), .val (.int p1), .val (.int p2), .val (.int p3), .val (.int (p1.toUInt32.toUInt16.toUInt32.toInt32)), .val (.int (p2.toUInt32.toUInt16.toUInt32.toInt32)), .val (.int (p3.toUInt32.toUInt16.toUInt32.toInt32)), .val (.int (p0 &&& (7 : Int32)))] [(.int (3 : Int32)), (.ref b10), (.ref b10)])) rfl (hb hby d1_86) rfl (by decide) (by decide) (by decide) (by decide) (by decide) (ad := "[C") (by first | rfl | decide) ?_
        intro T11 h11 b11 kA11 X11 eT11 E11 hb11 V11 A11
        have g_b11 : n0 ≤ b11 := Nat.le_trans (oldLe O0) hb11
        have sz_b11 : h0.size ≤ b11 := Nat.le_trans Kp.1 hb11
        have ne_b10_b11 : b10 ≠ b11 := Nat.ne_of_lt (Nat.lt_of_lt_of_le A10.lt hb11)
        have A10 := A10.ext E11
        have F10_coder := F10_coder.ext E11
        have F10_value := F10_value.ext E11
        have Kp := Kp.ext E11
        have hk := Nat.le_trans hk E11.1
        have HC := HC.trans (CHr.ext E11 HC.1)
        have O0 := O0.ext E11
        have V11 : Arv Z h11 b11 kA11 .char (3 : Int32) [(.int (0 : Int32)), (.int (0 : Int32)), (.int (0 : Int32))] (.int (0 : Int32)) := V11
        show Goes p e below _ T11 (mkF m 88 #[.val (.int p0), .val (.int p1), .val (.int p2), .val (.int p3), .val (.int (p1.toUInt32.toUInt16.toUInt32.toInt32)), .val (.int (p2.toUInt32.toUInt16.toUInt32.toInt32)), .val (.int (p3.toUInt32.toUInt16.toUInt32.toInt32)), .val (.int (p0 &&& (7 : Int32)))] [(.ref b11), (.ref b10), (.ref b10)])
        refine Goes.of (fun _ => XS.dup X11.here hx rfl (hb hby d1_88) rfl rfl) ?_
        show Goes p e below _ T11 (mkF m 89 #[.val (.int p0), .val (.int p1), .val (.int p2), .val (.int p3), .val (.int (p1.toUInt32.toUInt16.toUInt32.toInt32)), .val (.int (p2.toUInt32.toUInt16.toUInt32.toInt32)), .val (.int (p3.toUInt32.toUInt16.toUInt32.toInt32)), .val (.int (p0 &&& (7 : Int32)))] [(.ref b11), (.ref b11), (.ref b10), (.ref b10)])
        refine Goes.of (fun _ => XS.iconst X11.here hx rfl (hb hby d1_89)) ?_
        show Goes p e below _ T11 (mkF m 90 #[.val (.int p0), .val (.int p1), .val (.int p2), .val (.int p3), .val (.int (p1.toUInt32.toUInt16.toUInt32.toInt32)), .val (.int (p2.toUInt32.toUInt16.toUInt32.toInt32)), .val (.int (p3.toUInt32.toUInt16.toUInt32.toInt32)), .val (.int (p0 &&& (7 : Int32)))] [(.int (0 : Int32)), (.ref b11), (.ref b11), (.ref b10), (.ref b10)])
        refine Goes.of (fun _ => XS.iload X11.here hx rfl (hb hby d1_90) rfl) ?_
        show Goes p e below _ T11 (mkF m 92 #[.val (.int p0), .val (.int p1), .val (.int p2), .val (.int p3), .val (.int (p1.toUInt32.toUInt16.toUInt32.toInt32)), .val (.int (p2.toUInt32.toUInt16.toUInt32.toInt32)), .val (.int (p3.toUInt32.toUInt16.toUInt32.toInt32)), .val (.int (p0 &&& (7 : Int32)))] [(.int (p1.toUInt32.toUInt16.toUInt32.toInt32)), (.int (0 : Int32)), (.ref b11), (.ref b11), (.ref b10), (.ref b10)])
        have Sf_b11 : Safe Z EL _ h11 b11 := Safe.arv hZ.alike V11 (by decide)
        refine goStC 0 X11 hx hZ eT11 V11 (by decide) (by decide) rfl (Nat.lt_of_lt_of_le (Nat.lt_succ_self _) (Nat.le_of_ble_eq_true rfl)) (g := (mkF m 92 #[.val (.int p0), .val (.int p1), .val (.int p2), .val (.int p3), .val (.int (p1.toUInt32.toUInt16.toUInt32.toInt32)), .val (.int (p2.toUInt32.toUInt16.toUInt32.toInt32)), .val (.int (p3.toUInt32.toUInt16.toUInt32.toInt32)), .val (.int (p0 &&& (7 : Int32)))] [(.int (p1.toUInt32.toUInt16.toUInt32.toInt32)), (.int (0 : Int32)), (.ref b11), (.ref b11), (.ref b10), (.ref b10)])) rfl rfl (hb hby d1_92) ?_
        intro T12 h12 X12 eT12 W12 V11
        have N12 := Fr.snoc X12 N0 g_b11
        have A10 := A10.wr W12
        have F10_coder := F10_coder.other W12 (Or.inl ne_b10_b11)
        have F10_value := F10_value.other W12 (Or.inl ne_b10_b11)
        have A11 := A11.wr W12
        have Kp := Kp.wr W12 (Or.inr sz_b11)
        have HC := HC.trans (CHr.wr W12 Sf_b11 HC.1)
        have hk := Nat.le_trans hk (Nat.le_of_eq (Wr.size W12).symm)
        have O0 := O0.wr W12 g_b11
        have V11 : Arv Z h12 b11 kA11 .char (3 : Int32) [(.int (nar .char (p1.toUInt32.toUInt16.toUInt32.toInt32))), (.int (0 : Int32)), (.int (0 : Int32))] (.int (0 : Int32)) := V11
        show Goes p e below _ T12 (mkF m 93 #[.val (.int p0), .val (.int p1), .val (.int p2), .val (.int p3), .val (.int (p1.toUInt32.toUInt16.toUInt32.toInt32)), .val (.int (p2.toUInt32.toUInt16.toUInt32.toInt32)), .val (.int (p3.toUInt32.toUInt16.toUInt32.toInt32)), .val (.int (p0 &&& (7 : Int32)))] [(.ref b11), (.ref b10), (.ref b10)])
        refine Goes.of (fun _ => XS.dup X12.here hx rfl (hb hby d1_93) rfl rfl) ?_
        show Goes p e below _ T12 (mkF m 94 #[.val (.int p0), .val (.int p1), .val (.int p2), .val (.int p3), .val (.int (p1.toUInt32.toUInt16.toUInt32.toInt32)), .val (.int (p2.toUInt32.toUInt16.toUInt32.toInt32)), .val (.int (p3.toUInt32.toUInt16.toUInt32.toInt32)), .val (.int (p0 &&& (7 : Int32)))] [(.ref b11), (.ref b11), (.ref b10), (.ref b10)])
        refine Goes.of (fun _ => XS.iconst X12.here hx rfl (hb hby d1_94)) ?_
        show Goes p e below _ T12 (mkF m 95 #[.val (.int p0), .val (.int p1), .val (.int p2), .val (.int p3), .val (.int (p1.toUInt32.toUInt16.toUInt32.toInt32)), .val (.int (p2.toUInt32.toUInt16.toUInt32.toInt32)), .val (.int (p3.toUInt32.toUInt16.toUInt32.toInt32)), .val (.int (p0 &&& (7 : Int32)))] [(.int (1 : Int32)), (.ref b11), (.ref b11), (.ref b10), (.ref b10)])
        refine Goes.of (fun _ => XS.iload X12.here hx rfl (hb hby d1_95) rfl) ?_
        show Goes p e below _ T12 (mkF m 97 #[.val (.int p0), .val (.int p1), .val (.int p2), .val (.int p3), .val (.int (p1.toUInt32.toUInt16.toUInt32.toInt32)), .val (.int (p2.toUInt32.toUInt16.toUInt32.toInt32)), .val (.int (p3.toUInt32.toUInt16.toUInt32.toInt32)), .val (.int (p0 &&& (7 : Int32)))] [(.int (p2.toUInt32.toUInt16.toUInt32.toInt32)), (.int (1 : Int32)), (.ref b11), (.ref b11), (.ref b10), (.ref b10)])
        have Sf_b11 : Safe Z EL _ h12 b11 := Safe.arv hZ.alike V11 (by decide)
        refine goStC 1 X12 hx hZ eT12 V11 (by decide) (by decide) rfl (Nat.lt_of_lt_of_le (Nat.lt_succ_self _) (Nat.le_of_ble_eq_true rfl)) (g := (mkF m 97 #[.val (.int p0), .val (.int p1), .val (.int p2), .val (.int p3), .val (.int (p1.toUInt32.toUInt16.toUInt32.toInt32)), .val (.int (p2.toUInt32.toUInt16.toUInt32.toInt32)), .val (.int (p3.toUInt32.toUInt16.toUInt32.toInt32)), .val (.int (p0 &&& (7 : Int32)))] [(.int (p2.toUInt32.toUInt16.toUInt32.toInt32)), (.int (1 : Int32)), (.ref b11), (.ref b11), (.ref b10), (.ref b10)])) rfl rfl (hb hby d1_97) ?_
        intro T13 h13 X13 eT13 W13 V11
        have N13 := Fr.snoc X13 N12 g_b11
        have A10 := A10.wr W13
        have F10_coder := F10_coder.other W13 (Or.inl ne_b10_b11)
        have F10_value := F10_value.other W13 (Or.inl ne_b10_b11)
        have A11 := A11.wr W13
        have Kp := Kp.wr W13 (Or.inr sz_b11)
        have HC := HC.trans (CHr.wr W13 Sf_b11 HC.1)
        have hk := Nat.le_trans hk (Nat.le_of_eq (Wr.size W13).symm)
        have O0 := O0.wr W13 g_b11
        have V11 : Arv Z h13 b11 kA11 .char (3 : Int32) [(.int (nar .char (p1.toUInt32.toUInt16.toUInt32.toInt32))), (.int (nar .char (p2.toUInt32.toUInt16.toUInt32.toInt32))), (.int (0 : Int32))] (.int (0 : Int32)) := V11
        show Goes p e below _ T13 (mkF m 98 #[.val (.int p0), .val (.int p1), .val (.int p2), .val (.int p3), .val (.int (p1.toUInt32.toUInt16.toUInt32.toInt32)), .val (.int (p2.toUInt32.toUInt16.toUInt32.toInt32)), .val (.int (p3.toUInt32.toUInt16.toUInt32.toInt32)), .val (.int (p0 &&& (7 : Int32)))] [(.ref b11), (.ref b10), (.ref b10)])
        refine Goes.of (fun _ => XS.dup X13.here hx rfl (hb hby d1_98) rfl rfl) ?_
        show Goes p e below _ T13 (mkF m 99 #[.val (.int p0), .val (.int p1), .val (.int p2), .val (.int p3), .val (.int (p1.toUInt32.toUInt16.toUInt32.toInt32)), .val (.int (p2.toUInt32.toUInt16.toUInt32.toInt32)), .val (.int (p3.toUInt32.toUInt16.toUInt32.toInt32)), .val (.int (p0 &&& (7 : Int32)))] [(.ref b11), (.ref b11), (.ref b10), (.ref b10)])
        refine Goes.of (fun _ => XS.iconst X13.here hx rfl (hb hby d1_99)) ?_
        show Goes p e below _ T13 (mkF m 100 #[.val (.int p0), .val (.int p1), .val (.int p2), .val (.int p3), .val (.int (p1.toUInt32.toUInt16.toUInt32.toInt32)), .val (.int (p2.toUInt32.toUInt16.toUInt32.toInt32)), .val (.int (p3.toUInt32.toUInt16.toUInt32.toInt32)), .val (.int (p0 &&& (7 : Int32)))] [(.int (2 : Int32)), (.ref b11), (.ref b11), (.ref b10), (.ref b10)])
        refine Goes.of (fun _ => XS.iload X13.here hx rfl (hb hby d1_100) rfl) ?_
        show Goes p e below _ T13 (mkF m 102 #[.val (.int p0), .val (.int p1), .val (.int p2), .val (.int p3), .val (.int (p1.toUInt32.toUInt16.toUInt32.toInt32)), .val (.int (p2.toUInt32.toUInt16.toUInt32.toInt32)), .val (.int (p3.toUInt32.toUInt16.toUInt32.toInt32)), .val (.int (p0 &&& (7 : Int32)))] [(.int (p3.toUInt32.toUInt16.toUInt32.toInt32)), (.int (2 : Int32)), (.ref b11), (.ref b11), (.ref b10), (.ref b10)])
        have Sf_b11 : Safe Z EL _ h13 b11 := Safe.arv hZ.alike V11 (by decide)
        refine goStC 2 X13 hx hZ eT13 V11 (by decide) (by decide) rfl (Nat.lt_of_lt_of_le (Nat.lt_succ_self _) (Nat.le_of_ble_eq_true rfl)) (g := (mkF m 102 #[.val (.int p0), .val (.int p1), .val (.int p2), .val (.int p3), .val (.int (p1.toUInt32.toUInt16.toUInt32.toInt32)), .val (.int (p2.toUInt32.toUInt16.toUInt32.toInt32)), .val (.int (p3.toUInt32.toUInt16.toUInt32.toInt32)), .val (.int (p0 &&& (7 : Int32)))] [(.int (p3.toUInt32.toUInt16.toUInt32.toInt32)), (.int (2 : Int32)), (.ref b11), (.ref b11), (.ref b10), (.ref b10)])) rfl rfl (hb hby d1_102) ?_
        intro T14 h14 X14 eT14 W14 V11
        have N14 := Fr.snoc X14 N13 g_b11
        have A10 := A10.wr W14
        have F10_coder := F10_coder.other W14 (Or.inl ne_b10_b11)
        have F10_value := F10_value.other W14 (Or.inl ne_b10_b11)
        have A11 := A11.wr W14
        have Kp := Kp.wr W14 (Or.inr sz_b11)
        have HC := HC.trans (CHr.wr W14 Sf_b11 HC.1)
        have hk := Nat.le_trans hk (Nat.le_of_eq (Wr.size W14).symm)
        have O0 := O0.wr W14 g_b11
        have V11 : Arv Z h14 b11 kA11 .char (3 : Int32) [(.int (nar .char (p1.toUInt32.toUInt16.toUInt32.toInt32))), (.int (nar .char (p2.toUInt32.toUInt16.toUInt32.toInt32))), (.int (nar .char (p3.toUInt32.toUInt16.toUInt32.toInt32)))] (.int (0 : Int32)) := V11
        show Goes p e below _ T14 (mkF m 103 #[.val (.int p0), .val (.int p1), .val (.int p2), .val (.int p3), .val (.int (p1.toUInt32.toUInt16.toUInt32.toInt32)), .val (.int (p2.toUInt32.toUInt16.toUInt32.toInt32)), .val (.int (p3.toUInt32.toUInt16.toUInt32.toInt32)), .val (.int (p0 &&& (7 : Int32)))] [(.ref b11), (.ref b10), (.ref b10)])
        have Sf_b10 : Safe Z EL _ h14 b10 := safeNull hZ.alike A10 F10_value
        refine goSpecial 1 X14 hx hZ rfl hown (hw _ (List.mem_of_getElem? (i := 86) rfl)) (hw _ (List.mem_of_getElem? (i := 87) rfl)) (hw _ (List.mem_of_getElem? (i := 84) rfl)) (hw _ (List.mem_of_getElem? (i := 88) rfl)) (by decide) (rm_sin1_3 l Z a0 hw b10 b11 _ (nar .char (p1.toUInt32.toUInt16.toUInt32.toInt32)) (nar .char (p2.toUInt32.toUInt16.toUInt32.toInt32)) (nar .char (p3.toUInt32.toUInt16.toUInt32.toInt32)) cz h14 n0 O0 Sa Sh Sl Sc hcz g_b10 A10 F10_value F10_coder ne_b10_b11 V11 (char16 _) (char16 _) (char16 _)) eT14 (g := (mkF m 103 #[.val (.int p0), .val (.int p1), .val (.int p2), .val (.int p3), .val (.int (p1.toUInt32.toUInt16.toUInt32.toInt32)), .val (.int (p2.toUInt32.toUInt16.toUInt32.toInt32)), .val (.int (p3.toUInt32.toUInt16.toUInt32.toInt32)), .val (.int (p0 &&& (7 : Int32)))] [(.ref b11), (.ref b10), (.ref b10)])) rfl (by rw [hml]; rfl) b10 [(.ref b11)] [(.ref b10)] (lenOf pd___C_V rfl) rfl rfl (by show 2 * 0 + _ ≤ _; exact Nat.le_of_eq rfl) (hb hby d1_103) (by decide) (by decide) (by decide) (by decide) ?_
        intro v15 T15 L15 X15 q15
        obtain ⟨rfl, Nq15, Kq15⟩ := q15
        have N15 := Fr.app N14 Nq15
        have A10 := A10.keep Kq15
        have V11 := V11.keep Kq15 (ninS (Ne.symm ne_b10_b11) nin0)
        have A11 := A11.keep Kq15
        have Kp := Kp.trans Kq15 (allS (Or.inr sz_b10) all0)
        have HC := HC.trans (CHr.keep Kq15 (sfS Sf_b10 sf0) HC.1)
        have hk := Nat.le_trans hk Kq15.1
        have O0 := O0.keep Kq15 (allS g_b10 all0)
        show Goes p e below _ T15 (mkF m 106 #[.val (.int p0), .val (.int p1), .val (.int p2), .val (.int p3), .val (.int (p1.toUInt32.toUInt16.toUInt32.toInt32)), .val (.int (p2.toUInt32.toUInt16.toUInt32.toInt32)), .val (.int (p3.toUInt32.toUInt16.toUInt32.toInt32)), .val (.int (p0 &&& (7 : Int32)))] [(.ref b10)])
        exact retRefW X15 hS hk hZ hEL HC hx hret hlk rfl rfl (hb hby d1_106) (rfl : T15.heap = _) (by decide) (by decide) ⟨b10, rfl, N15, Kp, A10⟩
set_option maxRecDepth 65536 in
set_option maxHeartbeats 40000000 in
theorem rm_th_n (l : Launch) (Z : State) (a0 : Array Value) (hw : ∀ d ∈ tables_1, d.before a0 Z = true) (a : Addr) (ua sa : Addr) (h0 : Heap) (n0 : Nat) (O0 : Old Z n0 h0) (hlt : l.stackTraces = true) (Su : Sta Z Z.heap "java/lang/Throwable" "UNASSIGNED_STACK" "[Ljava/lang/StackTraceElement;" (.ref ua)) (Sv : Sta Z Z.heap "java/lang/Throwable" "SUPPRESSED_SENTINEL" "Ljava/util/List;" (.ref sa)) (g_a : n0 ≤ a) (Ex : Exa Z h0 a "com/example/postpone/postpone/ApiException") (Fc : Fld Z h0 a "java/lang/Throwable" "cause" "Ljava/lang/Throwable;" .null) (Fk : Fld Z h0 a "java/lang/Throwable" "stackTrace" "[Ljava/lang/StackTraceElement;" .null) (Fp : Fld Z h0 a "java/lang/Throwable" "suppressedExceptions" "Ljava/util/List;" .null) (Fm : Fld Z h0 a "java/lang/Throwable" "detailMessage" "Ljava/lang/String;" .null) (Fb : Fld Z h0 a "java/lang/Throwable" "backtrace" "Ljava/lang/Object;" .null) (Fs : Fld Z h0 a "com/example/postpone/postpone/ApiException" "status" "I" (.int (0 : Int32))) (Ua : Unt h0 a) :
    RmK l (⟨"java/lang/Throwable", "<init>", "(Ljava/lang/String;)V"⟩ : MethodName) jdk_78_method_2_code 2 none ({ frames := 3, cells := 1, slots := 2752, locals := 42 } : Room) [] Z EL #[(.ref a), .null] h0 (fun v h L => v = none ∧ Fr n0 L ∧ Keep h0 h [a] ∧ Exa Z h a "com/example/postpone/postpone/ApiException" ∧ Fld Z h a "java/lang/Throwable" "detailMessage" "Ljava/lang/String;" .null ∧ Fld Z h a "com/example/postpone/postpone/ApiException" "status" "I" (.int (0 : Int32))) := by
  refine RmK.of (plainFor_of_name pn_java_lang_Throwable) ?_
  intro p e s m below meth cod T X hx hZ hby hml hown hnm hret hlk eT0 hS hk HC hsh hTK hBl
  have hEL := hELof hw
  have wS := wSof hw
  have hown : s.vm.findClass "java/lang/Throwable" = some m.cls := hown
  have hnm : meth.name = "<init>" := hnm
  have N0 := Fr.nil n0
  have Kp := Keep.refl h0 [a]
  have O0' := O0
  have Ex' := Ex
  have Fm' := Fm
  have Fs' := Fs
  have HC' := HC
  refine Goes.cast (ef_6n1 m a) ?_
  show Goes p e below _ T (mkF m 0 #[.val (.ref a), .val .null] [])
  refine Goes.of (fun _ => XS.aloadN X.here hx rfl (hb hby d6_0) rfl rfl) ?_
  show Goes p e below _ T (mkF m 1 #[.val (.ref a), .val .null] [(.ref a)])
  refine goInitO 0 X hx hZ hown (hw _ (List.mem_of_getElem? (i := 30) rfl)) (hw _ (List.mem_of_getElem? (i := 31) rfl)) (hw _ (List.mem_of_getElem? (i := 32) rfl)) eT0 (g := (mkF m 1 #[.val (.ref a), .val .null] [(.ref a)])) rfl (by rw [hml]; rfl) rfl (hb hby d6_1) (by decide) (by show 2 * 0 + _ ≤ _; exact Nat.le_of_eq rfl) (by decide) ?_
  intro T1 X1 eT1
  show Goes p e below _ T1 (mkF m 4 #[.val (.ref a), .val .null] [])
  refine Goes.of (fun _ => XS.aloadN X1.here hx rfl (hb hby d6_4) rfl rfl) ?_
  show Goes p e below _ T1 (mkF m 5 #[.val (.ref a), .val .null] [(.ref a)])
  refine Goes.of (fun _ => XS.aloadN X1.here hx rfl (hb hby d6_5) rfl rfl) ?_
  show Goes p e below _ T1 (mkF m 6 #[.val (.ref a), .val .null] [(.ref a), (.ref a)])
  have Sf_a : Safe Z EL _ h0 a := Safe.exa hZ.alike Ex (by decide) (by decide)
  refine goPut (ty := (.object "java/lang/Throwable")) X1 hx hZ hown (host := "") (Or.inl (hw _ (List.mem_of_getElem? (i := 33) rfl))) Via.refl eT1 Fc Ex (Or.inl (hw _ (List.mem_of_getElem? (i := 34) rfl))) (hw _ (List.mem_of_getElem? (i := 9) rfl)) (by decide) rfl rfl (g := (mkF m 6 #[.val (.ref a), .val .null] [(.ref a), (.ref a)])) rfl rfl (hb hby d6_6) ?_
  intro T2 h2 X2 eT2 W2
  have Fc := Fld.same W2 Fc
  have N2 := Fr.snoc X2 N0 g_a
  have Ex := Ex.wr W2
  have Fs := Fs.other W2 (Or.inr (slot_ne (Or.inr (hw _ (List.mem_of_getElem? (i := 70) rfl))) (Or.inl (hw _ (List.mem_of_getElem? (i := 34) rfl))) (by decide) (t := .int) (t' := (.object "java/lang/Throwable")) (by decide) (by decide)))
  have Fk := Fk.other W2 (Or.inr (slot_ne (Or.inl (hw _ (List.mem_of_getElem? (i := 37) rfl))) (Or.inl (hw _ (List.mem_of_getElem? (i := 34) rfl))) (by decide) (t := (.array (.object "java/lang/StackTraceElement"))) (t' := (.object "java/lang/Throwable")) (by decide) (by decide)))
  have Fp := Fp.other W2 (Or.inr (slot_ne (Or.inl (hw _ (List.mem_of_getElem? (i := 40) rfl))) (Or.inl (hw _ (List.mem_of_getElem? (i := 34) rfl))) (by decide) (t := (.object "java/util/List")) (t' := (.object "java/lang/Throwable")) (by decide) (by decide)))
  have Fm := Fm.other W2 (Or.inr (slot_ne (Or.inl (hw _ (List.mem_of_getElem? (i := 64) rfl))) (Or.inl (hw _ (List.mem_of_getElem? (i := 34) rfl))) (by decide) (t := (.object "java/lang/String")) (t' := (.object "java/lang/Throwable")) (by decide) (by decide)))
  have Fb := Fb.other W2 (Or.inr (slot_ne (Or.inl (hw _ (List.mem_of_getElem? (i := 65) rfl))) (Or.inl (hw _ (List.mem_of_getElem? (i := 34) rfl))) (by decide) (t := (.object "java/lang/Object")) (t' := (.object "java/lang/Throwable")) (by decide) (by decide)))
  have Kp := Kp.wr W2 (Or.inl (List.mem_of_getElem? (i := 0) rfl))
  have HC := HC.trans (CHr.wr W2 Sf_a HC.1)
  have hk := Nat.le_trans hk (Nat.le_of_eq (Wr.size W2).symm)
  have O0 := O0.wr W2 g_a
  show Goes p e below _ T2 (mkF m 9 #[.val (.ref a), .val .null] [])
  refine Goes.of (fun _ => XS.aloadN X2.here hx rfl (hb hby d6_9) rfl rfl) ?_
  show Goes p e below _ T2 (mkF m 10 #[.val (.ref a), .val .null] [(.ref a)])
  refine goGetS X2 hx hZ hown (host := "") (Or.inl (hw _ (List.mem_of_getElem? (i := 35) rfl))) Via.refl eT2 (Su.ext O0.2) (g := (mkF m 10 #[.val (.ref a), .val .null] [(.ref a)])) rfl (hb hby d6_10) ?_
  intro T3 X3 eT3
  show Goes p e below _ T3 (mkF m 13 #[.val (.ref a), .val .null] [(.ref ua), (.ref a)])
  have Sf_a : Safe Z EL _ h2 a := Safe.exa hZ.alike Ex (by decide) (by decide)
  refine goPut (ty := (.array (.object "java/lang/StackTraceElement"))) X3 hx hZ hown (host := "") (Or.inl (hw _ (List.mem_of_getElem? (i := 36) rfl))) Via.refl eT3 Fk Ex (Or.inl (hw _ (List.mem_of_getElem? (i := 37) rfl))) (hw _ (List.mem_of_getElem? (i := 9) rfl)) (by decide) rfl rfl (g := (mkF m 13 #[.val (.ref a), .val .null] [(.ref ua), (.ref a)])) rfl rfl (hb hby d6_13) ?_
  intro T4 h4 X4 eT4 W4
  have Fk := Fld.same W4 Fk
  have N4 := Fr.snoc X4 N2 g_a
  have Ex := Ex.wr W4
  have Fs := Fs.other W4 (Or.inr (slot_ne (Or.inr (hw _ (List.mem_of_getElem? (i := 70) rfl))) (Or.inl (hw _ (List.mem_of_getElem? (i := 37) rfl))) (by decide) (t := .int) (t' := (.array (.object "java/lang/StackTraceElement"))) (by decide) (by decide)))
  have Fc := Fc.other W4 (Or.inr (slot_ne (Or.inl (hw _ (List.mem_of_getElem? (i := 34) rfl))) (Or.inl (hw _ (List.mem_of_getElem? (i := 37) rfl))) (by decide) (t := (.object "java/lang/Throwable")) (t' := (.array (.object "java/lang/StackTraceElement"))) (by decide) (by decide)))
  have Fp := Fp.other W4 (Or.inr (slot_ne (Or.inl (hw _ (List.mem_of_getElem? (i := 40) rfl))) (Or.inl (hw _ (List.mem_of_getElem? (i := 37) rfl))) (by decide) (t := (.object "java/util/List")) (t' := (.array (.object "java/lang/StackTraceElement"))) (by decide) (by decide)))
  have Fm := Fm.other W4 (Or.inr (slot_ne (Or.inl (hw _ (List.mem_of_getElem? (i := 64) rfl))) (Or.inl (hw _ (List.mem_of_getElem? (i := 37) rfl))) (by decide) (t := (.object "java/lang/String")) (t' := (.array (.object "java/lang/StackTraceElement"))) (by decide) (by decide)))
  have Fb := Fb.other W4 (Or.inr (slot_ne (Or.inl (hw _ (List.mem_of_getElem? (i := 65) rfl))) (Or.inl (hw _ (List.mem_of_getElem? (i := 37) rfl))) (by decide) (t := (.object "java/lang/Object")) (t' := (.array (.object "java/lang/StackTraceElement"))) (by decide) (by decide)))
  have Kp := Kp.wr W4 (Or.inl (List.mem_of_getElem? (i := 0) rfl))
  have HC := HC.trans (CHr.wr W4 Sf_a HC.1)
  have hk := Nat.le_trans hk (Nat.le_of_eq (Wr.size W4).symm)
  have O0 := O0.wr W4 g_a
  show Goes p e below _ T4 (mkF m 16 #[.val (.ref a), .val .null] [])
  refine Goes.of (fun _ => XS.aloadN X4.here hx rfl (hb hby d6_16) rfl rfl) ?_
  show Goes p e below _ T4 (mkF m 17 #[.val (.ref a), .val .null] [(.ref a)])
  refine goGetS X4 hx hZ hown (host := "") (Or.inl (hw _ (List.mem_of_getElem? (i := 38) rfl))) Via.refl eT4 (Sv.ext O0.2) (g := (mkF m 17 #[.val (.ref a), .val .null] [(.ref a)])) rfl (hb hby d6_17) ?_
  intro T5 X5 eT5
  show Goes p e below _ T5 (mkF m 20 #[.val (.ref a), .val .null] [(.ref sa), (.ref a)])
  have Sf_a : Safe Z EL _ h4 a := Safe.exa hZ.alike Ex (by decide) (by decide)
  refine goPut (ty := (.object "java/util/List")) X5 hx hZ hown (host := "") (Or.inl (hw _ (List.mem_of_getElem? (i := 39) rfl))) Via.refl eT5 Fp Ex (Or.inl (hw _ (List.mem_of_getElem? (i := 40) rfl))) (hw _ (List.mem_of_getElem? (i := 9) rfl)) (by decide) rfl rfl (g := (mkF m 20 #[.val (.ref a), .val .null] [(.ref sa), (.ref a)])) rfl rfl (hb hby d6_20) ?_
  intro T6 h6 X6 eT6 W6
  have Fp := Fld.same W6 Fp
  have N6 := Fr.snoc X6 N4 g_a
  have Ex := Ex.wr W6
  have Fs := Fs.other W6 (Or.inr (slot_ne (Or.inr (hw _ (List.mem_of_getElem? (i := 70) rfl))) (Or.inl (hw _ (List.mem_of_getElem? (i := 40) rfl))) (by decide) (t := .int) (t' := (.object "java/util/List")) (by decide) (by decide)))
  have Fc := Fc.other W6 (Or.inr (slot_ne (Or.inl (hw _ (List.mem_of_getElem? (i := 34) rfl))) (Or.inl (hw _ (List.mem_of_getElem? (i := 40) rfl))) (by decide) (t := (.object "java/lang/Throwable")) (t' := (.object "java/util/List")) (by decide) (by decide)))
  have Fk := Fk.other W6 (Or.inr (slot_ne (Or.inl (hw _ (List.mem_of_getElem? (i := 37) rfl))) (Or.inl (hw _ (List.mem_of_getElem? (i := 40) rfl))) (by decide) (t := (.array (.object "java/lang/StackTraceElement"))) (t' := (.object "java/util/List")) (by decide) (by decide)))
  have Fm := Fm.other W6 (Or.inr (slot_ne (Or.inl (hw _ (List.mem_of_getElem? (i := 64) rfl))) (Or.inl (hw _ (List.mem_of_getElem? (i := 40) rfl))) (by decide) (t := (.object "java/lang/String")) (t' := (.object "java/util/List")) (by decide) (by decide)))
  have Fb := Fb.other W6 (Or.inr (slot_ne (Or.inl (hw _ (List.mem_of_getElem? (i := 65) rfl))) (Or.inl (hw _ (List.mem_of_getElem? (i := 40) rfl))) (by decide) (t := (.object "java/lang/Object")) (t' := (.object "java/util/List")) (by decide) (by decide)))
  have Kp := Kp.wr W6 (Or.inl (List.mem_of_getElem? (i := 0) rfl))
  have HC := HC.trans (CHr.wr W6 Sf_a HC.1)
  have hk := Nat.le_trans hk (Nat.le_of_eq (Wr.size W6).symm)
  have O0 := O0.wr W6 g_a
  show Goes p e below _ T6 (mkF m 23 #[.val (.ref a), .val .null] [])
  refine Goes.of (fun _ => XS.aloadN X6.here hx rfl (hb hby d6_23) rfl rfl) ?_
  show Goes p e below _ T6 (mkF m 24 #[.val (.ref a), .val .null] [(.ref a)])
  refine goFill (rc := "com/example/postpone/postpone/ApiException") 0 X6 hx hlt hZ hown (by decide) (wAof hw) (hw _ (List.mem_of_getElem? (i := 9) rfl)) (hsh ▸ (ThS.start.ext O0'.2)) hTK hBl eT6 Ex (by rw [← eT6]; exact unt_of_same X6 hsh Ua) Fb rfl Fk (Su.ext O0.2) (g := (mkF m 24 #[.val (.ref a), .val .null] [(.ref a)])) rfl (by rw [hml]; rfl) rfl (hb hby d6_24) (by decide) (by show 2 * 0 + _ ≤ _; exact Nat.le_of_eq rfl) (by decide) (by decide) (by decide) ?_
  intro T7 L7 X7 hL
  have hnd : ∀ x ∈ _, ∃ nd ∈ [("cause", "Ljava/lang/Throwable;"), ("stackTrace", "[Ljava/lang/StackTraceElement;"), ("suppressedExceptions", "Ljava/util/List;"), ("backtrace", "Ljava/lang/Object;"), ("depth", "I")], x = (⟨a, Jvm.RoadKit.slotOf Z "java/lang/Throwable" nd.1 nd.2⟩ : Loc) := fun x (hx : x ∈ ((([] ++ [_]) ++ [_]) ++ [_]) ++ L7) => by
    simp only [List.mem_append, List.mem_cons, List.not_mem_nil, or_false, false_or] at hx
    rcases hx with ((hx | hx) | hx) | hx
    · exact ⟨("cause", "Ljava/lang/Throwable;"), by simp, hx⟩
    · exact ⟨("stackTrace", "[Ljava/lang/StackTraceElement;"), by simp, hx⟩
    · exact ⟨("suppressedExceptions", "Ljava/util/List;"), by simp, hx⟩
    · obtain ⟨nd, hm, hx⟩ := hL x hx
      exact ⟨nd, by simp only [List.mem_cons, List.not_mem_nil, or_false] at hm ⊢; rcases hm with rfl | rfl | rfl <;> simp [Jvm.Free.Exc.obD, Bundle.steD], hx⟩
  have Kp := keep_of_same X7 hsh (a := a) (fun x hx => by obtain ⟨nd, -, rfl⟩ := hnd x hx; rfl)
  have Ex := Ex'.keep Kp
  have Fm := fld_of_same X7 hsh Fm' (fun x hx q => by obtain ⟨nd, hm, rfl⟩ := hnd x hx; exact dmNe hw nd hm (Loc.mk.inj q).2)
  have Fs := fld_of_same X7 hsh Fs' (fun x hx q => by obtain ⟨nd, hm, rfl⟩ := hnd x hx; exact stNe hw nd hm (Loc.mk.inj q).2)
  have N7 : Fr n0 _ := Fr.app N6 (fun y hy => by obtain ⟨nd, -, rfl⟩ := hL y hy; exact g_a)
  have O0 := O0'.keep Kp (allS g_a all0)
  have HC := HC'.trans (CHr.keep Kp (sfS (Safe.exa hZ.alike Ex' (by decide) (by decide)) sf0) HC'.1)
  have hk := Nat.zero_le T7.heap.size
  show Goes p e below _ T7 (mkF m 27 #[.val (.ref a), .val .null] [(.ref a)])
  refine Goes.of (fun _ => XS.pop X7.here hx rfl (hb hby d6_27) rfl rfl) ?_
  show Goes p e below _ T7 (mkF m 28 #[.val (.ref a), .val .null] [])
  refine Goes.of (fun _ => XS.aloadN X7.here hx rfl (hb hby d6_28) rfl rfl) ?_
  show Goes p e below _ T7 (mkF m 29 #[.val (.ref a), .val .null] [(.ref a)])
  refine Goes.of (fun _ => XS.aloadN X7.here hx rfl (hb hby d6_29) rfl rfl) ?_
  show Goes p e below _ T7 (mkF m 30 #[.val (.ref a), .val .null] [.null, (.ref a)])
  have Sf_a : Safe Z EL _ T7.heap a := Safe.exa hZ.alike Ex (by decide) (by decide)
  refine goPut (ty := (.object "java/lang/String")) X7 hx hZ hown (host := "") (Or.inl (hw _ (List.mem_of_getElem? (i := 68) rfl))) Via.refl (rfl : T7.heap = _) Fm Ex (Or.inl (hw _ (List.mem_of_getElem? (i := 64) rfl))) (hw _ (List.mem_of_getElem? (i := 9) rfl)) (by decide) rfl rfl (g := (mkF m 30 #[.val (.ref a), .val .null] [.null, (.ref a)])) rfl rfl (hb hby d6_30) ?_
  intro T8 h8 X8 eT8 W8
  have Fm := Fld.same W8 Fm
  have N8 := Fr.snoc X8 N7 g_a
  have Ex := Ex.wr W8
  have Fs := Fs.other W8 (Or.inr (slot_ne (Or.inr (hw _ (List.mem_of_getElem? (i := 70) rfl))) (Or.inl (hw _ (List.mem_of_getElem? (i := 64) rfl))) (by decide) (t := .int) (t' := (.object "java/lang/String")) (by decide) (by decide)))
  have Kp := Kp.wr W8 (Or.inl (List.mem_of_getElem? (i := 0) rfl))
  have HC := HC.trans (CHr.wr W8 Sf_a HC.1)
  have hk := Nat.le_trans hk (Nat.le_of_eq (Wr.size W8).symm)
  have O0 := O0.wr W8 g_a
  show Goes p e below _ T8 (mkF m 33 #[.val (.ref a), .val .null] [])
  exact retVoidW X8 hS hk hZ hEL HC hx hret hlk (hb hby d6_33) eT8 (by decide) (by decide) ⟨rfl, N8, Kp, Ex, Fm, Fs⟩
set_option maxRecDepth 65536 in
set_option maxHeartbeats 40000000 in
theorem rm_ex_n (l : Launch) (Z : State) (a0 : Array Value) (hw : ∀ d ∈ tables_1, d.before a0 Z = true) (a : Addr) (ua sa : Addr) (h0 : Heap) (n0 : Nat) (O0 : Old Z n0 h0) (hlt : l.stackTraces = true) (Su : Sta Z Z.heap "java/lang/Throwable" "UNASSIGNED_STACK" "[Ljava/lang/StackTraceElement;" (.ref ua)) (Sv : Sta Z Z.heap "java/lang/Throwable" "SUPPRESSED_SENTINEL" "Ljava/util/List;" (.ref sa)) (g_a : n0 ≤ a) (Ex : Exa Z h0 a "com/example/postpone/postpone/ApiException") (Fc : Fld Z h0 a "java/lang/Throwable" "cause" "Ljava/lang/Throwable;" .null) (Fk : Fld Z h0 a "java/lang/Throwable" "stackTrace" "[Ljava/lang/StackTraceElement;" .null) (Fp : Fld Z h0 a "java/lang/Throwable" "suppressedExceptions" "Ljava/util/List;" .null) (Fm : Fld Z h0 a "java/lang/Throwable" "detailMessage" "Ljava/lang/String;" .null) (Fb : Fld Z h0 a "java/lang/Throwable" "backtrace" "Ljava/lang/Object;" .null) (Fs : Fld Z h0 a "com/example/postpone/postpone/ApiException" "status" "I" (.int (0 : Int32))) (Ua : Unt h0 a) :
    RmK l (⟨"java/lang/Exception", "<init>", "(Ljava/lang/String;)V"⟩ : MethodName) jdk_59_method_2_code 2 none ({ frames := 4, cells := 1, slots := 2752, locals := 55 } : Room) [] Z EL #[(.ref a), .null] h0 (fun v h L => v = none ∧ Fr n0 L ∧ Keep h0 h [a] ∧ Exa Z h a "com/example/postpone/postpone/ApiException" ∧ Fld Z h a "java/lang/Throwable" "detailMessage" "Ljava/lang/String;" .null ∧ Fld Z h a "com/example/postpone/postpone/ApiException" "status" "I" (.int (0 : Int32))) := by
  refine RmK.of (plainFor_of_name pn_java_lang_Exception) ?_
  intro p e s m below meth cod T X hx hZ hby hml hown hnm hret hlk eT0 hS hk HC hsh hTK hBl
  have hEL := hELof hw
  have wS := wSof hw
  have hown : s.vm.findClass "java/lang/Exception" = some m.cls := hown
  have hnm : meth.name = "<init>" := hnm
  have N0 := Fr.nil n0
  have Kp := Keep.refl h0 [a]
  have O0' := O0
  have Ex' := Ex
  have Fm' := Fm
  have Fs' := Fs
  have HC' := HC
  refine Goes.cast (ef_5n1 m a) ?_
  show Goes p e below _ T (mkF m 0 #[.val (.ref a), .val .null] [])
  refine Goes.of (fun _ => XS.aloadN X.here hx rfl (hb hby d5_0) rfl rfl) ?_
  show Goes p e below _ T (mkF m 1 #[.val (.ref a), .val .null] [(.ref a)])
  refine Goes.of (fun _ => XS.aloadN X.here hx rfl (hb hby d5_1) rfl rfl) ?_
  show Goes p e below _ T (mkF m 2 #[.val (.ref a), .val .null] [.null, (.ref a)])
  refine goSpecialK 0 X hS hk hEL HC hx hZ rfl hown (hw _ (List.mem_of_getElem? (i := 24) rfl)) (hw _ (List.mem_of_getElem? (i := 25) rfl)) (hw _ (List.mem_of_getElem? (i := 28) rfl)) (hw _ (List.mem_of_getElem? (i := 29) rfl)) (by decide) hTK hBl (rm_th_n l Z a0 hw a ua sa h0 n0 O0 hlt Su Sv g_a Ex Fc Fk Fp Fm Fb Fs Ua) eT0 (g := (mkF m 2 #[.val (.ref a), .val .null] [.null, (.ref a)])) rfl (by rw [hml]; rfl) a [.null] [] (lenOf pd__Ljava_lang_String__V rfl) rfl rfl (by show 2 * 0 + _ ≤ _; exact Nat.le_of_eq rfl) (hb hby d5_2) (by decide) (by decide) (by decide) (by decide) ?_
  intro v1 T1 L1 kk1 X1 hS hk hZ hown HC q1
  obtain ⟨rfl, Nq1, Kq1, Ei1, Fm1, Fs1⟩ := q1
  have N1 := Fr.app N0 Nq1
  have Ex := Ex.keep Kq1
  have Kp := Kp.trans Kq1 (allS (Or.inl (List.mem_of_getElem? (i := 0) rfl)) all0)
  have O0 := O0.keep Kq1 (allS g_a all0)
  show Goes p e below _ T1 (mkF m 5 #[.val (.ref a), .val .null] [])
  exact retVoidW X1 hS hk hZ hEL HC hx hret hlk (hb hby d5_5) (rfl : T1.heap = _) (by decide) (by decide) ⟨rfl, N1, Kp, Ex, Fm1, Fs1⟩
set_option maxRecDepth 65536 in
set_option maxHeartbeats 40000000 in
theorem rm_rt_n (l : Launch) (Z : State) (a0 : Array Value) (hw : ∀ d ∈ tables_1, d.before a0 Z = true) (a : Addr) (ua sa : Addr) (h0 : Heap) (n0 : Nat) (O0 : Old Z n0 h0) (hlt : l.stackTraces = true) (Su : Sta Z Z.heap "java/lang/Throwable" "UNASSIGNED_STACK" "[Ljava/lang/StackTraceElement;" (.ref ua)) (Sv : Sta Z Z.heap "java/lang/Throwable" "SUPPRESSED_SENTINEL" "Ljava/util/List;" (.ref sa)) (g_a : n0 ≤ a) (Ex : Exa Z h0 a "com/example/postpone/postpone/ApiException") (Fc : Fld Z h0 a "java/lang/Throwable" "cause" "Ljava/lang/Throwable;" .null) (Fk : Fld Z h0 a "java/lang/Throwable" "stackTrace" "[Ljava/lang/StackTraceElement;" .null) (Fp : Fld Z h0 a "java/lang/Throwable" "suppressedExceptions" "Ljava/util/List;" .null) (Fm : Fld Z h0 a "java/lang/Throwable" "detailMessage" "Ljava/lang/String;" .null) (Fb : Fld Z h0 a "java/lang/Throwable" "backtrace" "Ljava/lang/Object;" .null) (Fs : Fld Z h0 a "com/example/postpone/postpone/ApiException" "status" "I" (.int (0 : Int32))) (Ua : Unt h0 a) :
    RmK l (⟨"java/lang/RuntimeException", "<init>", "(Ljava/lang/String;)V"⟩ : MethodName) jdk_58_method_2_code 2 none ({ frames := 5, cells := 1, slots := 2752, locals := 68 } : Room) [] Z EL #[(.ref a), .null] h0 (fun v h L => v = none ∧ Fr n0 L ∧ Keep h0 h [a] ∧ Exa Z h a "com/example/postpone/postpone/ApiException" ∧ Fld Z h a "java/lang/Throwable" "detailMessage" "Ljava/lang/String;" .null ∧ Fld Z h a "com/example/postpone/postpone/ApiException" "status" "I" (.int (0 : Int32))) := by
  refine RmK.of (plainFor_of_name pn_java_lang_RuntimeException) ?_
  intro p e s m below meth cod T X hx hZ hby hml hown hnm hret hlk eT0 hS hk HC hsh hTK hBl
  have hEL := hELof hw
  have wS := wSof hw
  have hown : s.vm.findClass "java/lang/RuntimeException" = some m.cls := hown
  have hnm : meth.name = "<init>" := hnm
  have N0 := Fr.nil n0
  have Kp := Keep.refl h0 [a]
  have O0' := O0
  have Ex' := Ex
  have Fm' := Fm
  have Fs' := Fs
  have HC' := HC
  refine Goes.cast (ef_4n1 m a) ?_
  show Goes p e below _ T (mkF m 0 #[.val (.ref a), .val .null] [])
  refine Goes.of (fun _ => XS.aloadN X.here hx rfl (hb hby d4_0) rfl rfl) ?_
  show Goes p e below _ T (mkF m 1 #[.val (.ref a), .val .null] [(.ref a)])
  refine Goes.of (fun _ => XS.aloadN X.here hx rfl (hb hby d4_1) rfl rfl) ?_
  show Goes p e below _ T (mkF m 2 #[.val (.ref a), .val .null] [.null, (.ref a)])
  refine goSpecialK 0 X hS hk hEL HC hx hZ rfl hown (hw _ (List.mem_of_getElem? (i := 18) rfl)) (hw _ (List.mem_of_getElem? (i := 19) rfl)) (hw _ (List.mem_of_getElem? (i := 22) rfl)) (hw _ (List.mem_of_getElem? (i := 23) rfl)) (by decide) hTK hBl (rm_ex_n l Z a0 hw a ua sa h0 n0 O0 hlt Su Sv g_a Ex Fc Fk Fp Fm Fb Fs Ua) eT0 (g := (mkF m 2 #[.val (.ref a), .val .null] [.null, (.ref a)])) rfl (by rw [hml]; rfl) a [.null] [] (lenOf pd__Ljava_lang_String__V rfl) rfl rfl (by show 2 * 0 + _ ≤ _; exact Nat.le_of_eq rfl) (hb hby d4_2) (by decide) (by decide) (by decide) (by decide) ?_
  intro v1 T1 L1 kk1 X1 hS hk hZ hown HC q1
  obtain ⟨rfl, Nq1, Kq1, Ei1, Fm1, Fs1⟩ := q1
  have N1 := Fr.app N0 Nq1
  have Ex := Ex.keep Kq1
  have Kp := Kp.trans Kq1 (allS (Or.inl (List.mem_of_getElem? (i := 0) rfl)) all0)
  have O0 := O0.keep Kq1 (allS g_a all0)
  show Goes p e below _ T1 (mkF m 5 #[.val (.ref a), .val .null] [])
  exact retVoidW X1 hS hk hZ hEL HC hx hret hlk (hb hby d4_5) (rfl : T1.heap = _) (by decide) (by decide) ⟨rfl, N1, Kp, Ex, Fm1, Fs1⟩
set_option maxRecDepth 65536 in
set_option maxHeartbeats 40000000 in
theorem rm_init_n (l : Launch) (Z : State) (a0 : Array Value) (hw : ∀ d ∈ tables_1, d.before a0 Z = true) (a : Addr) (ua sa : Addr) (h0 : Heap) (n0 : Nat) (O0 : Old Z n0 h0) (hlt : l.stackTraces = true) (Su : Sta Z Z.heap "java/lang/Throwable" "UNASSIGNED_STACK" "[Ljava/lang/StackTraceElement;" (.ref ua)) (Sv : Sta Z Z.heap "java/lang/Throwable" "SUPPRESSED_SENTINEL" "Ljava/util/List;" (.ref sa)) (g_a : n0 ≤ a) (Ex : Exa Z h0 a "com/example/postpone/postpone/ApiException") (Fc : Fld Z h0 a "java/lang/Throwable" "cause" "Ljava/lang/Throwable;" .null) (Fk : Fld Z h0 a "java/lang/Throwable" "stackTrace" "[Ljava/lang/StackTraceElement;" .null) (Fp : Fld Z h0 a "java/lang/Throwable" "suppressedExceptions" "Ljava/util/List;" .null) (Fm : Fld Z h0 a "java/lang/Throwable" "detailMessage" "Ljava/lang/String;" .null) (Fb : Fld Z h0 a "java/lang/Throwable" "backtrace" "Ljava/lang/Object;" .null) (Fs : Fld Z h0 a "com/example/postpone/postpone/ApiException" "status" "I" (.int (0 : Int32))) (Ua : Unt h0 a) :
    RmK l (⟨"com/example/postpone/postpone/ApiException", "<init>", "(ILjava/lang/String;)V"⟩ : MethodName) prog_1_method_1_code 3 none ({ frames := 6, cells := 1, slots := 2752, locals := 81 } : Room) [] Z EL #[(.ref a), (.int (409 : Int32)), .null] h0 (fun v h L => v = none ∧ Fr n0 L ∧ Keep h0 h [a] ∧ Exa Z h a "com/example/postpone/postpone/ApiException" ∧ Fld Z h a "java/lang/Throwable" "detailMessage" "Ljava/lang/String;" .null ∧ Fld Z h a "com/example/postpone/postpone/ApiException" "status" "I" (.int (409 : Int32))) := by
  refine RmK.of (plainFor_of_name pn_com_example_postpone_postpone_ApiException) ?_
  intro p e s m below meth cod T X hx hZ hby hml hown hnm hret hlk eT0 hS hk HC hsh hTK hBl
  have hEL := hELof hw
  have wS := wSof hw
  have hown : s.vm.findClass "com/example/postpone/postpone/ApiException" = some m.cls := hown
  have hnm : meth.name = "<init>" := hnm
  have N0 := Fr.nil n0
  have Kp := Keep.refl h0 [a]
  have O0' := O0
  have Ex' := Ex
  have Fm' := Fm
  have Fs' := Fs
  have HC' := HC
  refine Goes.cast (ef_3n2 m a (409 : Int32)) ?_
  show Goes p e below _ T (mkF m 0 #[.val (.ref a), .val (.int (409 : Int32)), .val .null] [])
  refine Goes.of (fun _ => XS.aloadN X.here hx rfl (hb hby d3_0) rfl rfl) ?_
  show Goes p e below _ T (mkF m 1 #[.val (.ref a), .val (.int (409 : Int32)), .val .null] [(.ref a)])
  refine Goes.of (fun _ => XS.aloadN X.here hx rfl (hb hby d3_1) rfl rfl) ?_
  show Goes p e below _ T (mkF m 2 #[.val (.ref a), .val (.int (409 : Int32)), .val .null] [.null, (.ref a)])
  refine goSpecialK 0 X hS hk hEL HC hx hZ rfl hown (hw _ (List.mem_of_getElem? (i := 13) rfl)) (hw _ (List.mem_of_getElem? (i := 14) rfl)) (hw _ (List.mem_of_getElem? (i := 16) rfl)) (hw _ (List.mem_of_getElem? (i := 17) rfl)) (by decide) hTK hBl (rm_rt_n l Z a0 hw a ua sa h0 n0 O0 hlt Su Sv g_a Ex Fc Fk Fp Fm Fb Fs Ua) eT0 (g := (mkF m 2 #[.val (.ref a), .val (.int (409 : Int32)), .val .null] [.null, (.ref a)])) rfl (by rw [hml]; rfl) a [.null] [] (lenOf pd__Ljava_lang_String__V rfl) rfl rfl (by show 2 * 0 + _ ≤ _; exact Nat.le_of_eq rfl) (hb hby d3_2) (by decide) (by decide) (by decide) (by decide) ?_
  intro v1 T1 L1 kk1 X1 hS hk hZ hown HC q1
  obtain ⟨rfl, Nq1, Kq1, Ei1, Fm1, Fs1⟩ := q1
  have N1 := Fr.app N0 Nq1
  have Ex := Ex.keep Kq1
  have Kp := Kp.trans Kq1 (allS (Or.inl (List.mem_of_getElem? (i := 0) rfl)) all0)
  have O0 := O0.keep Kq1 (allS g_a all0)
  show Goes p e below _ T1 (mkF m 5 #[.val (.ref a), .val (.int (409 : Int32)), .val .null] [])
  refine Goes.of (fun _ => XS.aloadN X1.here hx rfl (hb hby d3_5) rfl rfl) ?_
  show Goes p e below _ T1 (mkF m 6 #[.val (.ref a), .val (.int (409 : Int32)), .val .null] [(.ref a)])
  refine Goes.of (fun _ => XS.iloadN X1.here hx rfl (hb hby d3_6) rfl) ?_
  show Goes p e below _ T1 (mkF m 7 #[.val (.ref a), .val (.int (409 : Int32)), .val .null] [(.int (409 : Int32)), (.ref a)])
  have Sf_a : Safe Z EL _ T1.heap a := Safe.exa hZ.alike Ex (by decide) (by decide)
  refine goPut (ty := .int) X1 hx hZ hown (host := "") (Or.inl (hw _ (List.mem_of_getElem? (i := 69) rfl))) Via.refl (rfl : T1.heap = _) Fs1 Ex (Or.inr ⟨(hw _ (List.mem_of_getElem? (i := 70) rfl)), rfl, hnm⟩) (hw _ (List.mem_of_getElem? (i := 9) rfl)) (by decide) rfl rfl (g := (mkF m 7 #[.val (.ref a), .val (.int (409 : Int32)), .val .null] [(.int (409 : Int32)), (.ref a)])) rfl rfl (hb hby d3_7) ?_
  intro T2 h2 X2 eT2 W2
  have Fs1 := Fld.same W2 Fs1
  have N2 := Fr.snoc X2 N1 g_a
  have Ex := Ex.wr W2
  have Fm1 := Fm1.other W2 (Or.inr (slot_ne (Or.inl (hw _ (List.mem_of_getElem? (i := 64) rfl))) (Or.inr (hw _ (List.mem_of_getElem? (i := 70) rfl))) (by decide) (t := (.object "java/lang/String")) (t' := .int) (by decide) (by decide)))
  have Kp := Kp.wr W2 (Or.inl (List.mem_of_getElem? (i := 0) rfl))
  have HC := HC.trans (CHr.wr W2 Sf_a HC.1)
  have hk := Nat.le_trans hk (Nat.le_of_eq (Wr.size W2).symm)
  have O0 := O0.wr W2 g_a
  show Goes p e below _ T2 (mkF m 10 #[.val (.ref a), .val (.int (409 : Int32)), .val .null] [])
  exact retVoidW X2 hS hk hZ hEL HC hx hret hlk (hb hby d3_10) eT2 (by decide) (by decide) ⟨rfl, N2, Kp, Ex, Fm1, Fs1⟩
set_option maxRecDepth 65536 in
set_option maxHeartbeats 40000000 in
theorem rm_conf_n (l : Launch) (Z : State) (a0 : Array Value) (hw : ∀ d ∈ tables_1, d.before a0 Z = true)  (ua sa : Addr) (h0 : Heap) (n0 : Nat) (O0 : Old Z n0 h0) (hlt : l.stackTraces = true) (Su : Sta Z Z.heap "java/lang/Throwable" "UNASSIGNED_STACK" "[Ljava/lang/StackTraceElement;" (.ref ua)) (Sv : Sta Z Z.heap "java/lang/Throwable" "SUPPRESSED_SENTINEL" "Ljava/util/List;" (.ref sa)) :
    RmK l (⟨"com/example/postpone/postpone/ApiException", "conflict", "(Ljava/lang/String;)Lcom/example/postpone/postpone/ApiException;"⟩ : MethodName) prog_1_method_4_code 1 (some (.object "com/example/postpone/postpone/ApiException")) ({ frames := 7, cells := 2, slots := 2759, locals := 96 } : Room) [] Z EL #[.null] h0 (fun v h L => ∃ b, v = some (.ref b) ∧ Fr n0 L ∧ Keep h0 h [] ∧ Exa Z h b "com/example/postpone/postpone/ApiException" ∧ Fld Z h b "java/lang/Throwable" "detailMessage" "Ljava/lang/String;" .null ∧ Fld Z h b "com/example/postpone/postpone/ApiException" "status" "I" (.int (409 : Int32))) := by
  refine RmK.of (plainFor_of_name pn_com_example_postpone_postpone_ApiException) ?_
  intro p e s m below meth cod T X hx hZ hby hml hown hnm hret hlk eT0 hS hk HC hsh hTK hBl
  have hEL := hELof hw
  have wS := wSof hw
  have hown : s.vm.findClass "com/example/postpone/postpone/ApiException" = some m.cls := hown
  have hnm : meth.name = "conflict" := hnm
  have N0 := Fr.nil n0
  have Kp := Keep.refl h0 []
  refine Goes.cast (ef_2n0 m ) ?_
  show Goes p e below _ T (mkF m 0 #[.val .null] [])
  refine goNewU X hx hZ hown (hw _ (List.mem_of_getElem? (i := 8) rfl)) (hw _ (List.mem_of_getElem? (i := 9) rfl)) (hw _ (List.mem_of_getElem? (i := 6) rfl)) eT0 (g := (mkF m 0 #[.val .null] [])) rfl (hb hby d2_0) (by decide) (by decide) ?_
  intro T1 h1 b1 X1 eT1 E1 hb1 A1 D1 U1
  have g_b1 : n0 ≤ b1 := Nat.le_trans (oldLe O0) hb1
  have sz_b1 : h0.size ≤ b1 := Nat.le_trans Kp.1 hb1
  have Kp := Kp.ext E1
  have hk := Nat.le_trans hk E1.1
  have HC := HC.trans (CHr.ext E1 HC.1)
  have O0 := O0.ext E1
  have F1_cause : Fld Z h1 b1 "java/lang/Throwable" "cause" "Ljava/lang/Throwable;" .null := D1 (Or.inl (hw _ (List.mem_of_getElem? (i := 34) rfl))) (ty := (.object "java/lang/Throwable")) (by decide)
  have F1_stackTrace : Fld Z h1 b1 "java/lang/Throwable" "stackTrace" "[Ljava/lang/StackTraceElement;" .null := D1 (Or.inl (hw _ (List.mem_of_getElem? (i := 37) rfl))) (ty := (.array (.object "java/lang/StackTraceElement"))) (by decide)
  have F1_suppressedExceptions : Fld Z h1 b1 "java/lang/Throwable" "suppressedExceptions" "Ljava/util/List;" .null := D1 (Or.inl (hw _ (List.mem_of_getElem? (i := 40) rfl))) (ty := (.object "java/util/List")) (by decide)
  have F1_detailMessage : Fld Z h1 b1 "java/lang/Throwable" "detailMessage" "Ljava/lang/String;" .null := D1 (Or.inl (hw _ (List.mem_of_getElem? (i := 64) rfl))) (ty := (.object "java/lang/String")) (by decide)
  have F1_backtrace : Fld Z h1 b1 "java/lang/Throwable" "backtrace" "Ljava/lang/Object;" .null := D1 (Or.inl (hw _ (List.mem_of_getElem? (i := 65) rfl))) (ty := (.object "java/lang/Object")) (by decide)
  have F1_depth : Fld Z h1 b1 "java/lang/Throwable" "depth" "I" (.int (0 : Int32)) := D1 (Or.inl (hw _ (List.mem_of_getElem? (i := 66) rfl))) (ty := .int) (by decide)
  have F1_status : Fld Z h1 b1 "com/example/postpone/postpone/ApiException" "status" "I" (.int (0 : Int32)) := D1 (Or.inr (hw _ (List.mem_of_getElem? (i := 70) rfl))) (ty := .int) (by decide)
  show Goes p e below _ T1 (mkF m 3 #[.val .null] [(.ref b1)])
  refine Goes.of (fun _ => XS.dup X1.here hx rfl (hb hby d2_3) rfl rfl) ?_
  show Goes p e below _ T1 (mkF m 4 #[.val .null] [(.ref b1), (.ref b1)])
  refine Goes.of (fun _ => XS.sipush X1.here hx rfl (hb hby d2_4)) ?_
  show Goes p e below _ T1 (mkF m 7 #[.val .null] [(.int (409 : Int32)), (.ref b1), (.ref b1)])
  refine Goes.of (fun _ => XS.aloadN X1.here hx rfl (hb hby d2_7) rfl rfl) ?_
  show Goes p e below _ T1 (mkF m 8 #[.val .null] [.null, (.int (409 : Int32)), (.ref b1), (.ref b1)])
  refine goSpecialK 1 X1 hS hk hEL HC hx hZ rfl hown (hw _ (List.mem_of_getElem? (i := 10) rfl)) (hw _ (List.mem_of_getElem? (i := 11) rfl)) (hw _ (List.mem_of_getElem? (i := 6) rfl)) (hw _ (List.mem_of_getElem? (i := 12) rfl)) (by decide) hTK hBl (rm_init_n l Z a0 hw b1 ua sa h1 n0 O0 hlt Su Sv g_b1 A1 F1_cause F1_stackTrace F1_suppressedExceptions F1_detailMessage F1_backtrace F1_status U1) eT1 (g := (mkF m 8 #[.val .null] [.null, (.int (409 : Int32)), (.ref b1), (.ref b1)])) rfl (by rw [hml]; rfl) b1 [(.int (409 : Int32)), .null] [(.ref b1)] (lenOf pd__ILjava_lang_String__V rfl) rfl rfl (by show 2 * 0 + _ ≤ _; exact Nat.le_of_eq rfl) (hb hby d2_8) (by decide) (by decide) (by decide) (by decide) ?_
  intro v2 T2 L2 kk2 X2 hS hk hZ hown HC q2
  obtain ⟨rfl, Nq2, Kq2, Ei2, Fm2, Fs2⟩ := q2
  have N2 := Fr.app N0 Nq2
  have A1 := A1.keep Kq2
  have Kp := Kp.trans Kq2 (allS (Or.inr sz_b1) all0)
  have O0 := O0.keep Kq2 (allS g_b1 all0)
  show Goes p e below _ T2 (mkF m 11 #[.val .null] [(.ref b1)])
  exact retRefW X2 hS hk hZ hEL HC hx hret hlk rfl rfl (hb hby d2_11) (rfl : T2.heap = _) (by decide) (by decide) ⟨b1, rfl, N2, Kp, A1, Fm2, Fs2⟩
set_option maxRecDepth 65536 in
set_option maxHeartbeats 40000000 in
theorem rm_getm_n (l : Launch) (Z : State) (a0 : Array Value) (hw : ∀ d ∈ tables_1, d.before a0 Z = true) (a : Addr) (h0 : Heap) (n0 : Nat) (O0 : Old Z n0 h0) (Fm : Fld Z h0 a "java/lang/Throwable" "detailMessage" "Ljava/lang/String;" .null) :
    Rm l (⟨"java/lang/Throwable", "getMessage", "()Ljava/lang/String;"⟩ : MethodName) jdk_78_method_6_code 1 (some (.object "java/lang/String")) ({ frames := 0, cells := 0, slots := 0, locals := 0 } : Room) [] Z #[(.ref a)] h0 (fun v h L => v = some .null ∧ Fr n0 L ∧ h = h0) := by
  refine Rm.of (plainFor_of_name pn_java_lang_Throwable) ?_
  intro p e s m below meth cod T X hx hZ hby hml hown hnm hret hlk eT0
  have hown : s.vm.findClass "java/lang/Throwable" = some m.cls := hown
  have hnm : meth.name = "getMessage" := hnm
  have N0 := Fr.nil n0
  refine Goes.cast (ef_10 m a) ?_
  show Goes p e below _ T (mkF m 0 #[.val (.ref a)] [])
  refine Goes.of (fun _ => XS.aloadN X.here hx rfl (hb hby d10_0) rfl rfl) ?_
  show Goes p e below _ T (mkF m 1 #[.val (.ref a)] [(.ref a)])
  refine goGet X hx hZ hown (host := "") (Or.inl (hw _ (List.mem_of_getElem? (i := 68) rfl))) Via.refl eT0 Fm (g := (mkF m 1 #[.val (.ref a)] [(.ref a)])) rfl rfl (hb hby d10_1) ?_
  intro T1 X1 eT1
  show Goes p e below _ T1 (mkF m 4 #[.val (.ref a)] [.null])
  exact retRef X1 hx hret hlk rfl rfl (hb hby d10_4) eT1 (by decide) (by decide) ⟨rfl, N0, rfl⟩
set_option maxRecDepth 65536 in
set_option maxHeartbeats 40000000 in
theorem rm_th_r (l : Launch) (Z : State) (a0 : Array Value) (hw : ∀ d ∈ tables_1, d.before a0 Z = true) (a : Addr) (g : Addr) (ua sa : Addr) (h0 : Heap) (n0 : Nat) (O0 : Old Z n0 h0) (hlt : l.stackTraces = true) (Su : Sta Z Z.heap "java/lang/Throwable" "UNASSIGNED_STACK" "[Ljava/lang/StackTraceElement;" (.ref ua)) (Sv : Sta Z Z.heap "java/lang/Throwable" "SUPPRESSED_SENTINEL" "Ljava/util/List;" (.ref sa)) (g_a : n0 ≤ a) (Ex : Exa Z h0 a "com/example/postpone/postpone/ApiException") (Fc : Fld Z h0 a "java/lang/Throwable" "cause" "Ljava/lang/Throwable;" .null) (Fk : Fld Z h0 a "java/lang/Throwable" "stackTrace" "[Ljava/lang/StackTraceElement;" .null) (Fp : Fld Z h0 a "java/lang/Throwable" "suppressedExceptions" "Ljava/util/List;" .null) (Fm : Fld Z h0 a "java/lang/Throwable" "detailMessage" "Ljava/lang/String;" .null) (Fb : Fld Z h0 a "java/lang/Throwable" "backtrace" "Ljava/lang/Object;" .null) (Fs : Fld Z h0 a "com/example/postpone/postpone/ApiException" "status" "I" (.int (0 : Int32))) (Ua : Unt h0 a) :
    RmK l (⟨"java/lang/Throwable", "<init>", "(Ljava/lang/String;)V"⟩ : MethodName) jdk_78_method_2_code 2 none ({ frames := 3, cells := 1, slots := 2752, locals := 42 } : Room) [] Z EL #[(.ref a), (.ref g)] h0 (fun v h L => v = none ∧ Fr n0 L ∧ Keep h0 h [a] ∧ Exa Z h a "com/example/postpone/postpone/ApiException" ∧ Fld Z h a "java/lang/Throwable" "detailMessage" "Ljava/lang/String;" (.ref g) ∧ Fld Z h a "com/example/postpone/postpone/ApiException" "status" "I" (.int (0 : Int32))) := by
  refine RmK.of (plainFor_of_name pn_java_lang_Throwable) ?_
  intro p e s m below meth cod T X hx hZ hby hml hown hnm hret hlk eT0 hS hk HC hsh hTK hBl
  have hEL := hELof hw
  have wS := wSof hw
  have hown : s.vm.findClass "java/lang/Throwable" = some m.cls := hown
  have hnm : meth.name = "<init>" := hnm
  have N0 := Fr.nil n0
  have Kp := Keep.refl h0 [a]
  have O0' := O0
  have Ex' := Ex
  have Fm' := Fm
  have Fs' := Fs
  have HC' := HC
  refine Goes.cast (ef_6 m a g) ?_
  show Goes p e below _ T (mkF m 0 #[.val (.ref a), .val (.ref g)] [])
  refine Goes.of (fun _ => XS.aloadN X.here hx rfl (hb hby d6_0) rfl rfl) ?_
  show Goes p e below _ T (mkF m 1 #[.val (.ref a), .val (.ref g)] [(.ref a)])
  refine goInitO 0 X hx hZ hown (hw _ (List.mem_of_getElem? (i := 30) rfl)) (hw _ (List.mem_of_getElem? (i := 31) rfl)) (hw _ (List.mem_of_getElem? (i := 32) rfl)) eT0 (g := (mkF m 1 #[.val (.ref a), .val (.ref g)] [(.ref a)])) rfl (by rw [hml]; rfl) rfl (hb hby d6_1) (by decide) (by show 2 * 0 + _ ≤ _; exact Nat.le_of_eq rfl) (by decide) ?_
  intro T1 X1 eT1
  show Goes p e below _ T1 (mkF m 4 #[.val (.ref a), .val (.ref g)] [])
  refine Goes.of (fun _ => XS.aloadN X1.here hx rfl (hb hby d6_4) rfl rfl) ?_
  show Goes p e below _ T1 (mkF m 5 #[.val (.ref a), .val (.ref g)] [(.ref a)])
  refine Goes.of (fun _ => XS.aloadN X1.here hx rfl (hb hby d6_5) rfl rfl) ?_
  show Goes p e below _ T1 (mkF m 6 #[.val (.ref a), .val (.ref g)] [(.ref a), (.ref a)])
  have Sf_a : Safe Z EL _ h0 a := Safe.exa hZ.alike Ex (by decide) (by decide)
  refine goPut (ty := (.object "java/lang/Throwable")) X1 hx hZ hown (host := "") (Or.inl (hw _ (List.mem_of_getElem? (i := 33) rfl))) Via.refl eT1 Fc Ex (Or.inl (hw _ (List.mem_of_getElem? (i := 34) rfl))) (hw _ (List.mem_of_getElem? (i := 9) rfl)) (by decide) rfl rfl (g := (mkF m 6 #[.val (.ref a), .val (.ref g)] [(.ref a), (.ref a)])) rfl rfl (hb hby d6_6) ?_
  intro T2 h2 X2 eT2 W2
  have Fc := Fld.same W2 Fc
  have N2 := Fr.snoc X2 N0 g_a
  have Ex := Ex.wr W2
  have Fs := Fs.other W2 (Or.inr (slot_ne (Or.inr (hw _ (List.mem_of_getElem? (i := 70) rfl))) (Or.inl (hw _ (List.mem_of_getElem? (i := 34) rfl))) (by decide) (t := .int) (t' := (.object "java/lang/Throwable")) (by decide) (by decide)))
  have Fk := Fk.other W2 (Or.inr (slot_ne (Or.inl (hw _ (List.mem_of_getElem? (i := 37) rfl))) (Or.inl (hw _ (List.mem_of_getElem? (i := 34) rfl))) (by decide) (t := (.array (.object "java/lang/StackTraceElement"))) (t' := (.object "java/lang/Throwable")) (by decide) (by decide)))
  have Fp := Fp.other W2 (Or.inr (slot_ne (Or.inl (hw _ (List.mem_of_getElem? (i := 40) rfl))) (Or.inl (hw _ (List.mem_of_getElem? (i := 34) rfl))) (by decide) (t := (.object "java/util/List")) (t' := (.object "java/lang/Throwable")) (by decide) (by decide)))
  have Fm := Fm.other W2 (Or.inr (slot_ne (Or.inl (hw _ (List.mem_of_getElem? (i := 64) rfl))) (Or.inl (hw _ (List.mem_of_getElem? (i := 34) rfl))) (by decide) (t := (.object "java/lang/String")) (t' := (.object "java/lang/Throwable")) (by decide) (by decide)))
  have Fb := Fb.other W2 (Or.inr (slot_ne (Or.inl (hw _ (List.mem_of_getElem? (i := 65) rfl))) (Or.inl (hw _ (List.mem_of_getElem? (i := 34) rfl))) (by decide) (t := (.object "java/lang/Object")) (t' := (.object "java/lang/Throwable")) (by decide) (by decide)))
  have Kp := Kp.wr W2 (Or.inl (List.mem_of_getElem? (i := 0) rfl))
  have HC := HC.trans (CHr.wr W2 Sf_a HC.1)
  have hk := Nat.le_trans hk (Nat.le_of_eq (Wr.size W2).symm)
  have O0 := O0.wr W2 g_a
  show Goes p e below _ T2 (mkF m 9 #[.val (.ref a), .val (.ref g)] [])
  refine Goes.of (fun _ => XS.aloadN X2.here hx rfl (hb hby d6_9) rfl rfl) ?_
  show Goes p e below _ T2 (mkF m 10 #[.val (.ref a), .val (.ref g)] [(.ref a)])
  refine goGetS X2 hx hZ hown (host := "") (Or.inl (hw _ (List.mem_of_getElem? (i := 35) rfl))) Via.refl eT2 (Su.ext O0.2) (g := (mkF m 10 #[.val (.ref a), .val (.ref g)] [(.ref a)])) rfl (hb hby d6_10) ?_
  intro T3 X3 eT3
  show Goes p e below _ T3 (mkF m 13 #[.val (.ref a), .val (.ref g)] [(.ref ua), (.ref a)])
  have Sf_a : Safe Z EL _ h2 a := Safe.exa hZ.alike Ex (by decide) (by decide)
  refine goPut (ty := (.array (.object "java/lang/StackTraceElement"))) X3 hx hZ hown (host := "") (Or.inl (hw _ (List.mem_of_getElem? (i := 36) rfl))) Via.refl eT3 Fk Ex (Or.inl (hw _ (List.mem_of_getElem? (i := 37) rfl))) (hw _ (List.mem_of_getElem? (i := 9) rfl)) (by decide) rfl rfl (g := (mkF m 13 #[.val (.ref a), .val (.ref g)] [(.ref ua), (.ref a)])) rfl rfl (hb hby d6_13) ?_
  intro T4 h4 X4 eT4 W4
  have Fk := Fld.same W4 Fk
  have N4 := Fr.snoc X4 N2 g_a
  have Ex := Ex.wr W4
  have Fs := Fs.other W4 (Or.inr (slot_ne (Or.inr (hw _ (List.mem_of_getElem? (i := 70) rfl))) (Or.inl (hw _ (List.mem_of_getElem? (i := 37) rfl))) (by decide) (t := .int) (t' := (.array (.object "java/lang/StackTraceElement"))) (by decide) (by decide)))
  have Fc := Fc.other W4 (Or.inr (slot_ne (Or.inl (hw _ (List.mem_of_getElem? (i := 34) rfl))) (Or.inl (hw _ (List.mem_of_getElem? (i := 37) rfl))) (by decide) (t := (.object "java/lang/Throwable")) (t' := (.array (.object "java/lang/StackTraceElement"))) (by decide) (by decide)))
  have Fp := Fp.other W4 (Or.inr (slot_ne (Or.inl (hw _ (List.mem_of_getElem? (i := 40) rfl))) (Or.inl (hw _ (List.mem_of_getElem? (i := 37) rfl))) (by decide) (t := (.object "java/util/List")) (t' := (.array (.object "java/lang/StackTraceElement"))) (by decide) (by decide)))
  have Fm := Fm.other W4 (Or.inr (slot_ne (Or.inl (hw _ (List.mem_of_getElem? (i := 64) rfl))) (Or.inl (hw _ (List.mem_of_getElem? (i := 37) rfl))) (by decide) (t := (.object "java/lang/String")) (t' := (.array (.object "java/lang/StackTraceElement"))) (by decide) (by decide)))
  have Fb := Fb.other W4 (Or.inr (slot_ne (Or.inl (hw _ (List.mem_of_getElem? (i := 65) rfl))) (Or.inl (hw _ (List.mem_of_getElem? (i := 37) rfl))) (by decide) (t := (.object "java/lang/Object")) (t' := (.array (.object "java/lang/StackTraceElement"))) (by decide) (by decide)))
  have Kp := Kp.wr W4 (Or.inl (List.mem_of_getElem? (i := 0) rfl))
  have HC := HC.trans (CHr.wr W4 Sf_a HC.1)
  have hk := Nat.le_trans hk (Nat.le_of_eq (Wr.size W4).symm)
  have O0 := O0.wr W4 g_a
  show Goes p e below _ T4 (mkF m 16 #[.val (.ref a), .val (.ref g)] [])
  refine Goes.of (fun _ => XS.aloadN X4.here hx rfl (hb hby d6_16) rfl rfl) ?_
  show Goes p e below _ T4 (mkF m 17 #[.val (.ref a), .val (.ref g)] [(.ref a)])
  refine goGetS X4 hx hZ hown (host := "") (Or.inl (hw _ (List.mem_of_getElem? (i := 38) rfl))) Via.refl eT4 (Sv.ext O0.2) (g := (mkF m 17 #[.val (.ref a), .val (.ref g)] [(.ref a)])) rfl (hb hby d6_17) ?_
  intro T5 X5 eT5
  show Goes p e below _ T5 (mkF m 20 #[.val (.ref a), .val (.ref g)] [(.ref sa), (.ref a)])
  have Sf_a : Safe Z EL _ h4 a := Safe.exa hZ.alike Ex (by decide) (by decide)
  refine goPut (ty := (.object "java/util/List")) X5 hx hZ hown (host := "") (Or.inl (hw _ (List.mem_of_getElem? (i := 39) rfl))) Via.refl eT5 Fp Ex (Or.inl (hw _ (List.mem_of_getElem? (i := 40) rfl))) (hw _ (List.mem_of_getElem? (i := 9) rfl)) (by decide) rfl rfl (g := (mkF m 20 #[.val (.ref a), .val (.ref g)] [(.ref sa), (.ref a)])) rfl rfl (hb hby d6_20) ?_
  intro T6 h6 X6 eT6 W6
  have Fp := Fld.same W6 Fp
  have N6 := Fr.snoc X6 N4 g_a
  have Ex := Ex.wr W6
  have Fs := Fs.other W6 (Or.inr (slot_ne (Or.inr (hw _ (List.mem_of_getElem? (i := 70) rfl))) (Or.inl (hw _ (List.mem_of_getElem? (i := 40) rfl))) (by decide) (t := .int) (t' := (.object "java/util/List")) (by decide) (by decide)))
  have Fc := Fc.other W6 (Or.inr (slot_ne (Or.inl (hw _ (List.mem_of_getElem? (i := 34) rfl))) (Or.inl (hw _ (List.mem_of_getElem? (i := 40) rfl))) (by decide) (t := (.object "java/lang/Throwable")) (t' := (.object "java/util/List")) (by decide) (by decide)))
  have Fk := Fk.other W6 (Or.inr (slot_ne (Or.inl (hw _ (List.mem_of_getElem? (i := 37) rfl))) (Or.inl (hw _ (List.mem_of_getElem? (i := 40) rfl))) (by decide) (t := (.array (.object "java/lang/StackTraceElement"))) (t' := (.object "java/util/List")) (by decide) (by decide)))
  have Fm := Fm.other W6 (Or.inr (slot_ne (Or.inl (hw _ (List.mem_of_getElem? (i := 64) rfl))) (Or.inl (hw _ (List.mem_of_getElem? (i := 40) rfl))) (by decide) (t := (.object "java/lang/String")) (t' := (.object "java/util/List")) (by decide) (by decide)))
  have Fb := Fb.other W6 (Or.inr (slot_ne (Or.inl (hw _ (List.mem_of_getElem? (i := 65) rfl))) (Or.inl (hw _ (List.mem_of_getElem? (i := 40) rfl))) (by decide) (t := (.object "java/lang/Object")) (t' := (.object "java/util/List")) (by decide) (by decide)))
  have Kp := Kp.wr W6 (Or.inl (List.mem_of_getElem? (i := 0) rfl))
  have HC := HC.trans (CHr.wr W6 Sf_a HC.1)
  have hk := Nat.le_trans hk (Nat.le_of_eq (Wr.size W6).symm)
  have O0 := O0.wr W6 g_a
  show Goes p e below _ T6 (mkF m 23 #[.val (.ref a), .val (.ref g)] [])
  refine Goes.of (fun _ => XS.aloadN X6.here hx rfl (hb hby d6_23) rfl rfl) ?_
  show Goes p e below _ T6 (mkF m 24 #[.val (.ref a), .val (.ref g)] [(.ref a)])
  refine goFill (rc := "com/example/postpone/postpone/ApiException") 0 X6 hx hlt hZ hown (by decide) (wAof hw) (hw _ (List.mem_of_getElem? (i := 9) rfl)) (hsh ▸ (ThS.start.ext O0'.2)) hTK hBl eT6 Ex (by rw [← eT6]; exact unt_of_same X6 hsh Ua) Fb rfl Fk (Su.ext O0.2) (g := (mkF m 24 #[.val (.ref a), .val (.ref g)] [(.ref a)])) rfl (by rw [hml]; rfl) rfl (hb hby d6_24) (by decide) (by show 2 * 0 + _ ≤ _; exact Nat.le_of_eq rfl) (by decide) (by decide) (by decide) ?_
  intro T7 L7 X7 hL
  have hnd : ∀ x ∈ _, ∃ nd ∈ [("cause", "Ljava/lang/Throwable;"), ("stackTrace", "[Ljava/lang/StackTraceElement;"), ("suppressedExceptions", "Ljava/util/List;"), ("backtrace", "Ljava/lang/Object;"), ("depth", "I")], x = (⟨a, Jvm.RoadKit.slotOf Z "java/lang/Throwable" nd.1 nd.2⟩ : Loc) := fun x (hx : x ∈ ((([] ++ [_]) ++ [_]) ++ [_]) ++ L7) => by
    simp only [List.mem_append, List.mem_cons, List.not_mem_nil, or_false, false_or] at hx
    rcases hx with ((hx | hx) | hx) | hx
    · exact ⟨("cause", "Ljava/lang/Throwable;"), by simp, hx⟩
    · exact ⟨("stackTrace", "[Ljava/lang/StackTraceElement;"), by simp, hx⟩
    · exact ⟨("suppressedExceptions", "Ljava/util/List;"), by simp, hx⟩
    · obtain ⟨nd, hm, hx⟩ := hL x hx
      exact ⟨nd, by simp only [List.mem_cons, List.not_mem_nil, or_false] at hm ⊢; rcases hm with rfl | rfl | rfl <;> simp [Jvm.Free.Exc.obD, Bundle.steD], hx⟩
  have Kp := keep_of_same X7 hsh (a := a) (fun x hx => by obtain ⟨nd, -, rfl⟩ := hnd x hx; rfl)
  have Ex := Ex'.keep Kp
  have Fm := fld_of_same X7 hsh Fm' (fun x hx q => by obtain ⟨nd, hm, rfl⟩ := hnd x hx; exact dmNe hw nd hm (Loc.mk.inj q).2)
  have Fs := fld_of_same X7 hsh Fs' (fun x hx q => by obtain ⟨nd, hm, rfl⟩ := hnd x hx; exact stNe hw nd hm (Loc.mk.inj q).2)
  have N7 : Fr n0 _ := Fr.app N6 (fun y hy => by obtain ⟨nd, -, rfl⟩ := hL y hy; exact g_a)
  have O0 := O0'.keep Kp (allS g_a all0)
  have HC := HC'.trans (CHr.keep Kp (sfS (Safe.exa hZ.alike Ex' (by decide) (by decide)) sf0) HC'.1)
  have hk := Nat.zero_le T7.heap.size
  show Goes p e below _ T7 (mkF m 27 #[.val (.ref a), .val (.ref g)] [(.ref a)])
  refine Goes.of (fun _ => XS.pop X7.here hx rfl (hb hby d6_27) rfl rfl) ?_
  show Goes p e below _ T7 (mkF m 28 #[.val (.ref a), .val (.ref g)] [])
  refine Goes.of (fun _ => XS.aloadN X7.here hx rfl (hb hby d6_28) rfl rfl) ?_
  show Goes p e below _ T7 (mkF m 29 #[.val (.ref a), .val (.ref g)] [(.ref a)])
  refine Goes.of (fun _ => XS.aloadN X7.here hx rfl (hb hby d6_29) rfl rfl) ?_
  show Goes p e below _ T7 (mkF m 30 #[.val (.ref a), .val (.ref g)] [(.ref g), (.ref a)])
  have Sf_a : Safe Z EL _ T7.heap a := Safe.exa hZ.alike Ex (by decide) (by decide)
  refine goPut (ty := (.object "java/lang/String")) X7 hx hZ hown (host := "") (Or.inl (hw _ (List.mem_of_getElem? (i := 68) rfl))) Via.refl (rfl : T7.heap = _) Fm Ex (Or.inl (hw _ (List.mem_of_getElem? (i := 64) rfl))) (hw _ (List.mem_of_getElem? (i := 9) rfl)) (by decide) rfl rfl (g := (mkF m 30 #[.val (.ref a), .val (.ref g)] [(.ref g), (.ref a)])) rfl rfl (hb hby d6_30) ?_
  intro T8 h8 X8 eT8 W8
  have Fm := Fld.same W8 Fm
  have N8 := Fr.snoc X8 N7 g_a
  have Ex := Ex.wr W8
  have Fs := Fs.other W8 (Or.inr (slot_ne (Or.inr (hw _ (List.mem_of_getElem? (i := 70) rfl))) (Or.inl (hw _ (List.mem_of_getElem? (i := 64) rfl))) (by decide) (t := .int) (t' := (.object "java/lang/String")) (by decide) (by decide)))
  have Kp := Kp.wr W8 (Or.inl (List.mem_of_getElem? (i := 0) rfl))
  have HC := HC.trans (CHr.wr W8 Sf_a HC.1)
  have hk := Nat.le_trans hk (Nat.le_of_eq (Wr.size W8).symm)
  have O0 := O0.wr W8 g_a
  show Goes p e below _ T8 (mkF m 33 #[.val (.ref a), .val (.ref g)] [])
  exact retVoidW X8 hS hk hZ hEL HC hx hret hlk (hb hby d6_33) eT8 (by decide) (by decide) ⟨rfl, N8, Kp, Ex, Fm, Fs⟩
set_option maxRecDepth 65536 in
set_option maxHeartbeats 40000000 in
theorem rm_ex_r (l : Launch) (Z : State) (a0 : Array Value) (hw : ∀ d ∈ tables_1, d.before a0 Z = true) (a : Addr) (g : Addr) (ua sa : Addr) (h0 : Heap) (n0 : Nat) (O0 : Old Z n0 h0) (hlt : l.stackTraces = true) (Su : Sta Z Z.heap "java/lang/Throwable" "UNASSIGNED_STACK" "[Ljava/lang/StackTraceElement;" (.ref ua)) (Sv : Sta Z Z.heap "java/lang/Throwable" "SUPPRESSED_SENTINEL" "Ljava/util/List;" (.ref sa)) (g_a : n0 ≤ a) (Ex : Exa Z h0 a "com/example/postpone/postpone/ApiException") (Fc : Fld Z h0 a "java/lang/Throwable" "cause" "Ljava/lang/Throwable;" .null) (Fk : Fld Z h0 a "java/lang/Throwable" "stackTrace" "[Ljava/lang/StackTraceElement;" .null) (Fp : Fld Z h0 a "java/lang/Throwable" "suppressedExceptions" "Ljava/util/List;" .null) (Fm : Fld Z h0 a "java/lang/Throwable" "detailMessage" "Ljava/lang/String;" .null) (Fb : Fld Z h0 a "java/lang/Throwable" "backtrace" "Ljava/lang/Object;" .null) (Fs : Fld Z h0 a "com/example/postpone/postpone/ApiException" "status" "I" (.int (0 : Int32))) (Ua : Unt h0 a) :
    RmK l (⟨"java/lang/Exception", "<init>", "(Ljava/lang/String;)V"⟩ : MethodName) jdk_59_method_2_code 2 none ({ frames := 4, cells := 1, slots := 2752, locals := 55 } : Room) [] Z EL #[(.ref a), (.ref g)] h0 (fun v h L => v = none ∧ Fr n0 L ∧ Keep h0 h [a] ∧ Exa Z h a "com/example/postpone/postpone/ApiException" ∧ Fld Z h a "java/lang/Throwable" "detailMessage" "Ljava/lang/String;" (.ref g) ∧ Fld Z h a "com/example/postpone/postpone/ApiException" "status" "I" (.int (0 : Int32))) := by
  refine RmK.of (plainFor_of_name pn_java_lang_Exception) ?_
  intro p e s m below meth cod T X hx hZ hby hml hown hnm hret hlk eT0 hS hk HC hsh hTK hBl
  have hEL := hELof hw
  have wS := wSof hw
  have hown : s.vm.findClass "java/lang/Exception" = some m.cls := hown
  have hnm : meth.name = "<init>" := hnm
  have N0 := Fr.nil n0
  have Kp := Keep.refl h0 [a]
  have O0' := O0
  have Ex' := Ex
  have Fm' := Fm
  have Fs' := Fs
  have HC' := HC
  refine Goes.cast (ef_5 m a g) ?_
  show Goes p e below _ T (mkF m 0 #[.val (.ref a), .val (.ref g)] [])
  refine Goes.of (fun _ => XS.aloadN X.here hx rfl (hb hby d5_0) rfl rfl) ?_
  show Goes p e below _ T (mkF m 1 #[.val (.ref a), .val (.ref g)] [(.ref a)])
  refine Goes.of (fun _ => XS.aloadN X.here hx rfl (hb hby d5_1) rfl rfl) ?_
  show Goes p e below _ T (mkF m 2 #[.val (.ref a), .val (.ref g)] [(.ref g), (.ref a)])
  refine goSpecialK 0 X hS hk hEL HC hx hZ rfl hown (hw _ (List.mem_of_getElem? (i := 24) rfl)) (hw _ (List.mem_of_getElem? (i := 25) rfl)) (hw _ (List.mem_of_getElem? (i := 28) rfl)) (hw _ (List.mem_of_getElem? (i := 29) rfl)) (by decide) hTK hBl (rm_th_r l Z a0 hw a g ua sa h0 n0 O0 hlt Su Sv g_a Ex Fc Fk Fp Fm Fb Fs Ua) eT0 (g := (mkF m 2 #[.val (.ref a), .val (.ref g)] [(.ref g), (.ref a)])) rfl (by rw [hml]; rfl) a [(.ref g)] [] (lenOf pd__Ljava_lang_String__V rfl) rfl rfl (by show 2 * 0 + _ ≤ _; exact Nat.le_of_eq rfl) (hb hby d5_2) (by decide) (by decide) (by decide) (by decide) ?_
  intro v1 T1 L1 kk1 X1 hS hk hZ hown HC q1
  obtain ⟨rfl, Nq1, Kq1, Ei1, Fm1, Fs1⟩ := q1
  have N1 := Fr.app N0 Nq1
  have Ex := Ex.keep Kq1
  have Kp := Kp.trans Kq1 (allS (Or.inl (List.mem_of_getElem? (i := 0) rfl)) all0)
  have O0 := O0.keep Kq1 (allS g_a all0)
  show Goes p e below _ T1 (mkF m 5 #[.val (.ref a), .val (.ref g)] [])
  exact retVoidW X1 hS hk hZ hEL HC hx hret hlk (hb hby d5_5) (rfl : T1.heap = _) (by decide) (by decide) ⟨rfl, N1, Kp, Ex, Fm1, Fs1⟩
set_option maxRecDepth 65536 in
set_option maxHeartbeats 40000000 in
theorem rm_rt_r (l : Launch) (Z : State) (a0 : Array Value) (hw : ∀ d ∈ tables_1, d.before a0 Z = true) (a : Addr) (g : Addr) (ua sa : Addr) (h0 : Heap) (n0 : Nat) (O0 : Old Z n0 h0) (hlt : l.stackTraces = true) (Su : Sta Z Z.heap "java/lang/Throwable" "UNASSIGNED_STACK" "[Ljava/lang/StackTraceElement;" (.ref ua)) (Sv : Sta Z Z.heap "java/lang/Throwable" "SUPPRESSED_SENTINEL" "Ljava/util/List;" (.ref sa)) (g_a : n0 ≤ a) (Ex : Exa Z h0 a "com/example/postpone/postpone/ApiException") (Fc : Fld Z h0 a "java/lang/Throwable" "cause" "Ljava/lang/Throwable;" .null) (Fk : Fld Z h0 a "java/lang/Throwable" "stackTrace" "[Ljava/lang/StackTraceElement;" .null) (Fp : Fld Z h0 a "java/lang/Throwable" "suppressedExceptions" "Ljava/util/List;" .null) (Fm : Fld Z h0 a "java/lang/Throwable" "detailMessage" "Ljava/lang/String;" .null) (Fb : Fld Z h0 a "java/lang/Throwable" "backtrace" "Ljava/lang/Object;" .null) (Fs : Fld Z h0 a "com/example/postpone/postpone/ApiException" "status" "I" (.int (0 : Int32))) (Ua : Unt h0 a) :
    RmK l (⟨"java/lang/RuntimeException", "<init>", "(Ljava/lang/String;)V"⟩ : MethodName) jdk_58_method_2_code 2 none ({ frames := 5, cells := 1, slots := 2752, locals := 68 } : Room) [] Z EL #[(.ref a), (.ref g)] h0 (fun v h L => v = none ∧ Fr n0 L ∧ Keep h0 h [a] ∧ Exa Z h a "com/example/postpone/postpone/ApiException" ∧ Fld Z h a "java/lang/Throwable" "detailMessage" "Ljava/lang/String;" (.ref g) ∧ Fld Z h a "com/example/postpone/postpone/ApiException" "status" "I" (.int (0 : Int32))) := by
  refine RmK.of (plainFor_of_name pn_java_lang_RuntimeException) ?_
  intro p e s m below meth cod T X hx hZ hby hml hown hnm hret hlk eT0 hS hk HC hsh hTK hBl
  have hEL := hELof hw
  have wS := wSof hw
  have hown : s.vm.findClass "java/lang/RuntimeException" = some m.cls := hown
  have hnm : meth.name = "<init>" := hnm
  have N0 := Fr.nil n0
  have Kp := Keep.refl h0 [a]
  have O0' := O0
  have Ex' := Ex
  have Fm' := Fm
  have Fs' := Fs
  have HC' := HC
  refine Goes.cast (ef_4 m a g) ?_
  show Goes p e below _ T (mkF m 0 #[.val (.ref a), .val (.ref g)] [])
  refine Goes.of (fun _ => XS.aloadN X.here hx rfl (hb hby d4_0) rfl rfl) ?_
  show Goes p e below _ T (mkF m 1 #[.val (.ref a), .val (.ref g)] [(.ref a)])
  refine Goes.of (fun _ => XS.aloadN X.here hx rfl (hb hby d4_1) rfl rfl) ?_
  show Goes p e below _ T (mkF m 2 #[.val (.ref a), .val (.ref g)] [(.ref g), (.ref a)])
  refine goSpecialK 0 X hS hk hEL HC hx hZ rfl hown (hw _ (List.mem_of_getElem? (i := 18) rfl)) (hw _ (List.mem_of_getElem? (i := 19) rfl)) (hw _ (List.mem_of_getElem? (i := 22) rfl)) (hw _ (List.mem_of_getElem? (i := 23) rfl)) (by decide) hTK hBl (rm_ex_r l Z a0 hw a g ua sa h0 n0 O0 hlt Su Sv g_a Ex Fc Fk Fp Fm Fb Fs Ua) eT0 (g := (mkF m 2 #[.val (.ref a), .val (.ref g)] [(.ref g), (.ref a)])) rfl (by rw [hml]; rfl) a [(.ref g)] [] (lenOf pd__Ljava_lang_String__V rfl) rfl rfl (by show 2 * 0 + _ ≤ _; exact Nat.le_of_eq rfl) (hb hby d4_2) (by decide) (by decide) (by decide) (by decide) ?_
  intro v1 T1 L1 kk1 X1 hS hk hZ hown HC q1
  obtain ⟨rfl, Nq1, Kq1, Ei1, Fm1, Fs1⟩ := q1
  have N1 := Fr.app N0 Nq1
  have Ex := Ex.keep Kq1
  have Kp := Kp.trans Kq1 (allS (Or.inl (List.mem_of_getElem? (i := 0) rfl)) all0)
  have O0 := O0.keep Kq1 (allS g_a all0)
  show Goes p e below _ T1 (mkF m 5 #[.val (.ref a), .val (.ref g)] [])
  exact retVoidW X1 hS hk hZ hEL HC hx hret hlk (hb hby d4_5) (rfl : T1.heap = _) (by decide) (by decide) ⟨rfl, N1, Kp, Ex, Fm1, Fs1⟩
set_option maxRecDepth 65536 in
set_option maxHeartbeats 40000000 in
theorem rm_init_r (l : Launch) (Z : State) (a0 : Array Value) (hw : ∀ d ∈ tables_1, d.before a0 Z = true) (a : Addr) (g : Addr) (ua sa : Addr) (h0 : Heap) (n0 : Nat) (O0 : Old Z n0 h0) (hlt : l.stackTraces = true) (Su : Sta Z Z.heap "java/lang/Throwable" "UNASSIGNED_STACK" "[Ljava/lang/StackTraceElement;" (.ref ua)) (Sv : Sta Z Z.heap "java/lang/Throwable" "SUPPRESSED_SENTINEL" "Ljava/util/List;" (.ref sa)) (g_a : n0 ≤ a) (Ex : Exa Z h0 a "com/example/postpone/postpone/ApiException") (Fc : Fld Z h0 a "java/lang/Throwable" "cause" "Ljava/lang/Throwable;" .null) (Fk : Fld Z h0 a "java/lang/Throwable" "stackTrace" "[Ljava/lang/StackTraceElement;" .null) (Fp : Fld Z h0 a "java/lang/Throwable" "suppressedExceptions" "Ljava/util/List;" .null) (Fm : Fld Z h0 a "java/lang/Throwable" "detailMessage" "Ljava/lang/String;" .null) (Fb : Fld Z h0 a "java/lang/Throwable" "backtrace" "Ljava/lang/Object;" .null) (Fs : Fld Z h0 a "com/example/postpone/postpone/ApiException" "status" "I" (.int (0 : Int32))) (Ua : Unt h0 a) :
    RmK l (⟨"com/example/postpone/postpone/ApiException", "<init>", "(ILjava/lang/String;)V"⟩ : MethodName) prog_1_method_1_code 3 none ({ frames := 6, cells := 1, slots := 2752, locals := 81 } : Room) [] Z EL #[(.ref a), (.int (409 : Int32)), (.ref g)] h0 (fun v h L => v = none ∧ Fr n0 L ∧ Keep h0 h [a] ∧ Exa Z h a "com/example/postpone/postpone/ApiException" ∧ Fld Z h a "java/lang/Throwable" "detailMessage" "Ljava/lang/String;" (.ref g) ∧ Fld Z h a "com/example/postpone/postpone/ApiException" "status" "I" (.int (409 : Int32))) := by
  refine RmK.of (plainFor_of_name pn_com_example_postpone_postpone_ApiException) ?_
  intro p e s m below meth cod T X hx hZ hby hml hown hnm hret hlk eT0 hS hk HC hsh hTK hBl
  have hEL := hELof hw
  have wS := wSof hw
  have hown : s.vm.findClass "com/example/postpone/postpone/ApiException" = some m.cls := hown
  have hnm : meth.name = "<init>" := hnm
  have N0 := Fr.nil n0
  have Kp := Keep.refl h0 [a]
  have O0' := O0
  have Ex' := Ex
  have Fm' := Fm
  have Fs' := Fs
  have HC' := HC
  refine Goes.cast (ef_3 m a (409 : Int32) g) ?_
  show Goes p e below _ T (mkF m 0 #[.val (.ref a), .val (.int (409 : Int32)), .val (.ref g)] [])
  refine Goes.of (fun _ => XS.aloadN X.here hx rfl (hb hby d3_0) rfl rfl) ?_
  show Goes p e below _ T (mkF m 1 #[.val (.ref a), .val (.int (409 : Int32)), .val (.ref g)] [(.ref a)])
  refine Goes.of (fun _ => XS.aloadN X.here hx rfl (hb hby d3_1) rfl rfl) ?_
  show Goes p e below _ T (mkF m 2 #[.val (.ref a), .val (.int (409 : Int32)), .val (.ref g)] [(.ref g), (.ref a)])
  refine goSpecialK 0 X hS hk hEL HC hx hZ rfl hown (hw _ (List.mem_of_getElem? (i := 13) rfl)) (hw _ (List.mem_of_getElem? (i := 14) rfl)) (hw _ (List.mem_of_getElem? (i := 16) rfl)) (hw _ (List.mem_of_getElem? (i := 17) rfl)) (by decide) hTK hBl (rm_rt_r l Z a0 hw a g ua sa h0 n0 O0 hlt Su Sv g_a Ex Fc Fk Fp Fm Fb Fs Ua) eT0 (g := (mkF m 2 #[.val (.ref a), .val (.int (409 : Int32)), .val (.ref g)] [(.ref g), (.ref a)])) rfl (by rw [hml]; rfl) a [(.ref g)] [] (lenOf pd__Ljava_lang_String__V rfl) rfl rfl (by show 2 * 0 + _ ≤ _; exact Nat.le_of_eq rfl) (hb hby d3_2) (by decide) (by decide) (by decide) (by decide) ?_
  intro v1 T1 L1 kk1 X1 hS hk hZ hown HC q1
  obtain ⟨rfl, Nq1, Kq1, Ei1, Fm1, Fs1⟩ := q1
  have N1 := Fr.app N0 Nq1
  have Ex := Ex.keep Kq1
  have Kp := Kp.trans Kq1 (allS (Or.inl (List.mem_of_getElem? (i := 0) rfl)) all0)
  have O0 := O0.keep Kq1 (allS g_a all0)
  show Goes p e below _ T1 (mkF m 5 #[.val (.ref a), .val (.int (409 : Int32)), .val (.ref g)] [])
  refine Goes.of (fun _ => XS.aloadN X1.here hx rfl (hb hby d3_5) rfl rfl) ?_
  show Goes p e below _ T1 (mkF m 6 #[.val (.ref a), .val (.int (409 : Int32)), .val (.ref g)] [(.ref a)])
  refine Goes.of (fun _ => XS.iloadN X1.here hx rfl (hb hby d3_6) rfl) ?_
  show Goes p e below _ T1 (mkF m 7 #[.val (.ref a), .val (.int (409 : Int32)), .val (.ref g)] [(.int (409 : Int32)), (.ref a)])
  have Sf_a : Safe Z EL _ T1.heap a := Safe.exa hZ.alike Ex (by decide) (by decide)
  refine goPut (ty := .int) X1 hx hZ hown (host := "") (Or.inl (hw _ (List.mem_of_getElem? (i := 69) rfl))) Via.refl (rfl : T1.heap = _) Fs1 Ex (Or.inr ⟨(hw _ (List.mem_of_getElem? (i := 70) rfl)), rfl, hnm⟩) (hw _ (List.mem_of_getElem? (i := 9) rfl)) (by decide) rfl rfl (g := (mkF m 7 #[.val (.ref a), .val (.int (409 : Int32)), .val (.ref g)] [(.int (409 : Int32)), (.ref a)])) rfl rfl (hb hby d3_7) ?_
  intro T2 h2 X2 eT2 W2
  have Fs1 := Fld.same W2 Fs1
  have N2 := Fr.snoc X2 N1 g_a
  have Ex := Ex.wr W2
  have Fm1 := Fm1.other W2 (Or.inr (slot_ne (Or.inl (hw _ (List.mem_of_getElem? (i := 64) rfl))) (Or.inr (hw _ (List.mem_of_getElem? (i := 70) rfl))) (by decide) (t := (.object "java/lang/String")) (t' := .int) (by decide) (by decide)))
  have Kp := Kp.wr W2 (Or.inl (List.mem_of_getElem? (i := 0) rfl))
  have HC := HC.trans (CHr.wr W2 Sf_a HC.1)
  have hk := Nat.le_trans hk (Nat.le_of_eq (Wr.size W2).symm)
  have O0 := O0.wr W2 g_a
  show Goes p e below _ T2 (mkF m 10 #[.val (.ref a), .val (.int (409 : Int32)), .val (.ref g)] [])
  exact retVoidW X2 hS hk hZ hEL HC hx hret hlk (hb hby d3_10) eT2 (by decide) (by decide) ⟨rfl, N2, Kp, Ex, Fm1, Fs1⟩
set_option maxRecDepth 65536 in
set_option maxHeartbeats 40000000 in
theorem rm_conf_r (l : Launch) (Z : State) (a0 : Array Value) (hw : ∀ d ∈ tables_1, d.before a0 Z = true)  (g : Addr) (ua sa : Addr) (h0 : Heap) (n0 : Nat) (O0 : Old Z n0 h0) (hlt : l.stackTraces = true) (Su : Sta Z Z.heap "java/lang/Throwable" "UNASSIGNED_STACK" "[Ljava/lang/StackTraceElement;" (.ref ua)) (Sv : Sta Z Z.heap "java/lang/Throwable" "SUPPRESSED_SENTINEL" "Ljava/util/List;" (.ref sa)) :
    RmK l (⟨"com/example/postpone/postpone/ApiException", "conflict", "(Ljava/lang/String;)Lcom/example/postpone/postpone/ApiException;"⟩ : MethodName) prog_1_method_4_code 1 (some (.object "com/example/postpone/postpone/ApiException")) ({ frames := 7, cells := 2, slots := 2759, locals := 96 } : Room) [] Z EL #[(.ref g)] h0 (fun v h L => ∃ b, v = some (.ref b) ∧ Fr n0 L ∧ Keep h0 h [] ∧ Exa Z h b "com/example/postpone/postpone/ApiException" ∧ Fld Z h b "java/lang/Throwable" "detailMessage" "Ljava/lang/String;" (.ref g) ∧ Fld Z h b "com/example/postpone/postpone/ApiException" "status" "I" (.int (409 : Int32))) := by
  refine RmK.of (plainFor_of_name pn_com_example_postpone_postpone_ApiException) ?_
  intro p e s m below meth cod T X hx hZ hby hml hown hnm hret hlk eT0 hS hk HC hsh hTK hBl
  have hEL := hELof hw
  have wS := wSof hw
  have hown : s.vm.findClass "com/example/postpone/postpone/ApiException" = some m.cls := hown
  have hnm : meth.name = "conflict" := hnm
  have N0 := Fr.nil n0
  have Kp := Keep.refl h0 []
  refine Goes.cast (ef_2 m g) ?_
  show Goes p e below _ T (mkF m 0 #[.val (.ref g)] [])
  refine goNewU X hx hZ hown (hw _ (List.mem_of_getElem? (i := 8) rfl)) (hw _ (List.mem_of_getElem? (i := 9) rfl)) (hw _ (List.mem_of_getElem? (i := 6) rfl)) eT0 (g := (mkF m 0 #[.val (.ref g)] [])) rfl (hb hby d2_0) (by decide) (by decide) ?_
  intro T1 h1 b1 X1 eT1 E1 hb1 A1 D1 U1
  have g_b1 : n0 ≤ b1 := Nat.le_trans (oldLe O0) hb1
  have sz_b1 : h0.size ≤ b1 := Nat.le_trans Kp.1 hb1
  have Kp := Kp.ext E1
  have hk := Nat.le_trans hk E1.1
  have HC := HC.trans (CHr.ext E1 HC.1)
  have O0 := O0.ext E1
  have F1_cause : Fld Z h1 b1 "java/lang/Throwable" "cause" "Ljava/lang/Throwable;" .null := D1 (Or.inl (hw _ (List.mem_of_getElem? (i := 34) rfl))) (ty := (.object "java/lang/Throwable")) (by decide)
  have F1_stackTrace : Fld Z h1 b1 "java/lang/Throwable" "stackTrace" "[Ljava/lang/StackTraceElement;" .null := D1 (Or.inl (hw _ (List.mem_of_getElem? (i := 37) rfl))) (ty := (.array (.object "java/lang/StackTraceElement"))) (by decide)
  have F1_suppressedExceptions : Fld Z h1 b1 "java/lang/Throwable" "suppressedExceptions" "Ljava/util/List;" .null := D1 (Or.inl (hw _ (List.mem_of_getElem? (i := 40) rfl))) (ty := (.object "java/util/List")) (by decide)
  have F1_detailMessage : Fld Z h1 b1 "java/lang/Throwable" "detailMessage" "Ljava/lang/String;" .null := D1 (Or.inl (hw _ (List.mem_of_getElem? (i := 64) rfl))) (ty := (.object "java/lang/String")) (by decide)
  have F1_backtrace : Fld Z h1 b1 "java/lang/Throwable" "backtrace" "Ljava/lang/Object;" .null := D1 (Or.inl (hw _ (List.mem_of_getElem? (i := 65) rfl))) (ty := (.object "java/lang/Object")) (by decide)
  have F1_depth : Fld Z h1 b1 "java/lang/Throwable" "depth" "I" (.int (0 : Int32)) := D1 (Or.inl (hw _ (List.mem_of_getElem? (i := 66) rfl))) (ty := .int) (by decide)
  have F1_status : Fld Z h1 b1 "com/example/postpone/postpone/ApiException" "status" "I" (.int (0 : Int32)) := D1 (Or.inr (hw _ (List.mem_of_getElem? (i := 70) rfl))) (ty := .int) (by decide)
  show Goes p e below _ T1 (mkF m 3 #[.val (.ref g)] [(.ref b1)])
  refine Goes.of (fun _ => XS.dup X1.here hx rfl (hb hby d2_3) rfl rfl) ?_
  show Goes p e below _ T1 (mkF m 4 #[.val (.ref g)] [(.ref b1), (.ref b1)])
  refine Goes.of (fun _ => XS.sipush X1.here hx rfl (hb hby d2_4)) ?_
  show Goes p e below _ T1 (mkF m 7 #[.val (.ref g)] [(.int (409 : Int32)), (.ref b1), (.ref b1)])
  refine Goes.of (fun _ => XS.aloadN X1.here hx rfl (hb hby d2_7) rfl rfl) ?_
  show Goes p e below _ T1 (mkF m 8 #[.val (.ref g)] [(.ref g), (.int (409 : Int32)), (.ref b1), (.ref b1)])
  refine goSpecialK 1 X1 hS hk hEL HC hx hZ rfl hown (hw _ (List.mem_of_getElem? (i := 10) rfl)) (hw _ (List.mem_of_getElem? (i := 11) rfl)) (hw _ (List.mem_of_getElem? (i := 6) rfl)) (hw _ (List.mem_of_getElem? (i := 12) rfl)) (by decide) hTK hBl (rm_init_r l Z a0 hw b1 g ua sa h1 n0 O0 hlt Su Sv g_b1 A1 F1_cause F1_stackTrace F1_suppressedExceptions F1_detailMessage F1_backtrace F1_status U1) eT1 (g := (mkF m 8 #[.val (.ref g)] [(.ref g), (.int (409 : Int32)), (.ref b1), (.ref b1)])) rfl (by rw [hml]; rfl) b1 [(.int (409 : Int32)), (.ref g)] [(.ref b1)] (lenOf pd__ILjava_lang_String__V rfl) rfl rfl (by show 2 * 0 + _ ≤ _; exact Nat.le_of_eq rfl) (hb hby d2_8) (by decide) (by decide) (by decide) (by decide) ?_
  intro v2 T2 L2 kk2 X2 hS hk hZ hown HC q2
  obtain ⟨rfl, Nq2, Kq2, Ei2, Fm2, Fs2⟩ := q2
  have N2 := Fr.app N0 Nq2
  have A1 := A1.keep Kq2
  have Kp := Kp.trans Kq2 (allS (Or.inr sz_b1) all0)
  have O0 := O0.keep Kq2 (allS g_b1 all0)
  show Goes p e below _ T2 (mkF m 11 #[.val (.ref g)] [(.ref b1)])
  exact retRefW X2 hS hk hZ hEL HC hx hret hlk rfl rfl (hb hby d2_11) (rfl : T2.heap = _) (by decide) (by decide) ⟨b1, rfl, N2, Kp, A1, Fm2, Fs2⟩
set_option maxRecDepth 65536 in
set_option maxHeartbeats 40000000 in
theorem rm_getm_r (l : Launch) (Z : State) (a0 : Array Value) (hw : ∀ d ∈ tables_1, d.before a0 Z = true) (a : Addr) (g : Addr) (h0 : Heap) (n0 : Nat) (O0 : Old Z n0 h0) (Fm : Fld Z h0 a "java/lang/Throwable" "detailMessage" "Ljava/lang/String;" (.ref g)) :
    Rm l (⟨"java/lang/Throwable", "getMessage", "()Ljava/lang/String;"⟩ : MethodName) jdk_78_method_6_code 1 (some (.object "java/lang/String")) ({ frames := 0, cells := 0, slots := 0, locals := 0 } : Room) [] Z #[(.ref a)] h0 (fun v h L => v = some (.ref g) ∧ Fr n0 L ∧ h = h0) := by
  refine Rm.of (plainFor_of_name pn_java_lang_Throwable) ?_
  intro p e s m below meth cod T X hx hZ hby hml hown hnm hret hlk eT0
  have hown : s.vm.findClass "java/lang/Throwable" = some m.cls := hown
  have hnm : meth.name = "getMessage" := hnm
  have N0 := Fr.nil n0
  refine Goes.cast (ef_10 m a) ?_
  show Goes p e below _ T (mkF m 0 #[.val (.ref a)] [])
  refine Goes.of (fun _ => XS.aloadN X.here hx rfl (hb hby d10_0) rfl rfl) ?_
  show Goes p e below _ T (mkF m 1 #[.val (.ref a)] [(.ref a)])
  refine goGet X hx hZ hown (host := "") (Or.inl (hw _ (List.mem_of_getElem? (i := 68) rfl))) Via.refl eT0 Fm (g := (mkF m 1 #[.val (.ref a)] [(.ref a)])) rfl rfl (hb hby d10_1) ?_
  intro T1 X1 eT1
  show Goes p e below _ T1 (mkF m 4 #[.val (.ref a)] [(.ref g)])
  exact retRef X1 hx hret hlk rfl rfl (hb hby d10_4) eT1 (by decide) (by decide) ⟨rfl, N0, rfl⟩
set_option maxRecDepth 65536 in
set_option maxHeartbeats 40000000 in
theorem rm_stat (l : Launch) (Z : State) (a0 : Array Value) (hw : ∀ d ∈ tables_1, d.before a0 Z = true) (a : Addr) (h0 : Heap) (n0 : Nat) (O0 : Old Z n0 h0) (Fs : Fld Z h0 a "com/example/postpone/postpone/ApiException" "status" "I" (.int (409 : Int32))) :
    Rm l (⟨"com/example/postpone/postpone/ApiException", "status", "()I"⟩ : MethodName) prog_1_method_5_code 1 (some .int) ({ frames := 0, cells := 0, slots := 0, locals := 0 } : Room) [] Z #[(.ref a)] h0 (fun v h L => v = some (.int (409 : Int32)) ∧ Fr n0 L ∧ h = h0) := by
  refine Rm.of (plainFor_of_name pn_com_example_postpone_postpone_ApiException) ?_
  intro p e s m below meth cod T X hx hZ hby hml hown hnm hret hlk eT0
  have hown : s.vm.findClass "com/example/postpone/postpone/ApiException" = some m.cls := hown
  have hnm : meth.name = "status" := hnm
  have N0 := Fr.nil n0
  refine Goes.cast (ef_11 m a) ?_
  show Goes p e below _ T (mkF m 0 #[.val (.ref a)] [])
  refine Goes.of (fun _ => XS.aloadN X.here hx rfl (hb hby d11_0) rfl rfl) ?_
  show Goes p e below _ T (mkF m 1 #[.val (.ref a)] [(.ref a)])
  refine goGet X hx hZ hown (host := "") (Or.inl (hw _ (List.mem_of_getElem? (i := 69) rfl))) Via.refl eT0 Fs (g := (mkF m 1 #[.val (.ref a)] [(.ref a)])) rfl rfl (hb hby d11_1) ?_
  intro T1 X1 eT1
  show Goes p e below _ T1 (mkF m 4 #[.val (.ref a)] [(.int (409 : Int32))])
  exact retInt X1 hx hret hlk (hb hby d11_4) eT1 (by decide) (by decide) ⟨rfl, N0, rfl⟩
set_option maxRecDepth 65536 in
set_option maxHeartbeats 40000000 in
theorem rm_eqs (l : Launch) (Z : State) (a0 : Array Value) (hw : ∀ d ∈ tables_1, d.before a0 Z = true) (a : Addr) (h0 : Heap) (n0 : Nat) (O0 : Old Z n0 h0)  :
    Rm l (⟨"java/lang/String", "equals", "(Ljava/lang/Object;)Z"⟩ : MethodName) jdk_42_method_66_code 3 (some .boolean) ({ frames := 0, cells := 0, slots := 0, locals := 0 } : Room) [] Z #[(.ref a), (.ref a)] h0 (fun v h L => v = some (.int 1) ∧ Fr n0 L ∧ h = h0) := by
  refine Rm.of (plainFor_of_name pn_java_lang_String) ?_
  intro p e s m below meth cod T X hx hZ hby hml hown hnm hret hlk eT0
  have hown : s.vm.findClass "java/lang/String" = some m.cls := hown
  have hnm : meth.name = "equals" := hnm
  have N0 := Fr.nil n0
  refine Goes.cast (ef_17 m a a) ?_
  show Goes p e below _ T (mkF m 0 #[.val (.ref a), .val (.ref a), .unset] [])
  refine Goes.of (fun _ => XS.aloadN X.here hx rfl (hb hby d17_0) rfl rfl) ?_
  show Goes p e below _ T (mkF m 1 #[.val (.ref a), .val (.ref a), .unset] [(.ref a)])
  refine Goes.of (fun _ => XS.aloadN X.here hx rfl (hb hby d17_1) rfl rfl) ?_
  show Goes p e below _ T (mkF m 2 #[.val (.ref a), .val (.ref a), .unset] [(.ref a), (.ref a)])
  refine Goes.of (fun _ => Jvm.RoadKit.acmp (g := (mkF m 2 #[.val (.ref a), .val (.ref a), .unset] [(.ref a), (.ref a)])) X hx rfl rfl rfl (pc0 := 2) (pc' := 5) (same := true) rfl (hb hby d17_2) rfl (decide_eq_true rfl) (by decide) (by decide)) ?_
  show Goes p e below _ T (mkF m 5 #[.val (.ref a), .val (.ref a), .unset] [])
  refine Goes.of (fun _ => XS.iconst X.here hx rfl (hb hby d17_5)) ?_
  show Goes p e below _ T (mkF m 6 #[.val (.ref a), .val (.ref a), .unset] [(.int (1 : Int32))])
  exact retZ (t := .boolean) X hx hret hlk (by simp) (hb hby d17_6) eT0 (by decide) (by decide) ⟨rfl, N0, rfl⟩
set_option maxRecDepth 65536 in
set_option maxHeartbeats 40000000 in
theorem rm_law (l : Launch) (Z : State) (a0 : Array Value) (hw : ∀ d ∈ tables_1, d.before a0 Z = true) (ws : List Jvm.Cond) (p0 p1 p2 p3 : Int32) (cz : Int32) (ua sa : Addr) (h0 : Heap) (n0 : Nat) (O0 : Old Z n0 h0) (Sa : Sta Z Z.heap "java/lang/StringUTF16" "$assertionsDisabled" "Z" (.int (1 : Int32))) (Sh : Sta Z Z.heap "java/lang/StringUTF16" "HI_BYTE_SHIFT" "I" (.int (0 : Int32))) (Sl : Sta Z Z.heap "java/lang/StringUTF16" "LO_BYTE_SHIFT" "I" (.int (8 : Int32))) (Sc : Sta Z Z.heap "java/lang/String" "COMPACT_STRINGS" "Z" (.int cz)) (hcz : ¬ cz = 0) (hlt : l.stackTraces = true) (Su : Sta Z Z.heap "java/lang/Throwable" "UNASSIGNED_STACK" "[Ljava/lang/StackTraceElement;" (.ref ua)) (Sv : Sta Z Z.heap "java/lang/Throwable" "SUPPRESSED_SENTINEL" "Ljava/util/List;" (.ref sa)) :
    RmK l x code maxLocals ret room_1 ws Z EL #[(.int p0), (.int p1), (.int p2), (.int p3)] h0 (fun v h L => v = some (.int 1) ∧ Fr n0 L) := by
  refine RmK.of (plainFor_of_name pn_com_example_postpone_postpone_ApiExceptionConflictPinLaw) ?_
  intro p e s m below meth cod T X hx hZ hby hml hown hnm hret hlk eT0 hS hk HC hsh hTK hBl
  have hEL := hELof hw
  have wS := wSof hw
  have hown : s.vm.findClass "com/example/postpone/postpone/ApiExceptionConflictPinLaw" = some m.cls := hown
  have hnm : meth.name = "law" := hnm
  have N0 := Fr.nil n0
  refine Goes.cast (ef_0 m p0 p1 p2 p3) ?_
  show Goes p e below _ T (mkF m 0 #[.val (.int p0), .val (.int p1), .val (.int p2), .val (.int p3), .unset, .unset, .unset, .unset] [])
  by_cases hz : (p0 &&& (7 : Int32)) = (0 : Int32)
  · show Goes p e below _ T (mkF m 0 #[.val (.int p0), .val (.int p1), .val (.int p2), .val (.int p3), .unset, .unset, .unset, .unset] [])
    refine Goes.of (fun _ => XS.iloadN X.here hx rfl (hb hby at_0) rfl) ?_
    show Goes p e below _ T (mkF m 1 #[.val (.int p0), .val (.int p1), .val (.int p2), .val (.int p3), .unset, .unset, .unset, .unset] [(.int p0)])
    refine Goes.of (fun _ => XS.iloadN X.here hx rfl (hb hby at_1) rfl) ?_
    show Goes p e below _ T (mkF m 2 #[.val (.int p0), .val (.int p1), .val (.int p2), .val (.int p3), .unset, .unset, .unset, .unset] [(.int p1), (.int p0)])
    refine Goes.of (fun _ => XS.iloadN X.here hx rfl (hb hby at_2) rfl) ?_
    show Goes p e below _ T (mkF m 3 #[.val (.int p0), .val (.int p1), .val (.int p2), .val (.int p3), .unset, .unset, .unset, .unset] [(.int p2), (.int p1), (.int p0)])
    refine Goes.of (fun _ => XS.iloadN X.here hx rfl (hb hby at_3) rfl) ?_
    show Goes p e below _ T (mkF m 4 #[.val (.int p0), .val (.int p1), .val (.int p2), .val (.int p3), .unset, .unset, .unset, .unset] [(.int p3), (.int p2), (.int p1), (.int p0)])
    refine goStatic 0 X hx hZ hown (hw _ (List.mem_of_getElem? (i := 0) rfl)) (hw _ (List.mem_of_getElem? (i := 1) rfl)) (hw _ (List.mem_of_getElem? (i := 2) rfl)) (hw _ (List.mem_of_getElem? (i := 3) rfl)) (by decide) (rm_draw0 l Z a0 hw p0 p1 p2 p3 h0 n0 O0 hz) eT0 (g := (mkF m 4 #[.val (.int p0), .val (.int p1), .val (.int p2), .val (.int p3), .unset, .unset, .unset, .unset] [(.int p3), (.int p2), (.int p1), (.int p0)])) rfl (by rw [hml]; rfl) [(.int p0), (.int p1), (.int p2), (.int p3)] [] (lenOf pd__IIII_Ljava_lang_String_ rfl) rfl rfl (by show 2 * 0 + _ ≤ _; exact Nat.le_of_eq rfl) (hb hby at_4) (by decide) (by decide) (by decide) (by decide) ?_
    intro v1 T1 L1 X1 q1
    obtain ⟨rfl, Nq1, eT1⟩ := q1
    have N1 := Fr.app N0 Nq1
    show Goes p e below _ T1 (mkF m 7 #[.val (.int p0), .val (.int p1), .val (.int p2), .val (.int p3), .unset, .unset, .unset, .unset] [.null])
    refine Goes.of (fun _ => XS.astore X1.here hx rfl (hb hby at_7) rfl rfl (l' := #[.val (.int p0), .val (.int p1), .val (.int p2), .val (.int p3), .val .null, .unset, .unset, .unset]) rfl) ?_
    show Goes p e below _ T1 (mkF m 9 #[.val (.int p0), .val (.int p1), .val (.int p2), .val (.int p3), .val .null, .unset, .unset, .unset] [])
    refine Goes.of (fun _ => XS.aload X1.here hx rfl (hb hby at_9) rfl rfl) ?_
    show Goes p e below _ T1 (mkF m 11 #[.val (.int p0), .val (.int p1), .val (.int p2), .val (.int p3), .val .null, .unset, .unset, .unset] [.null])
    refine goStaticK 0 X1 hS hk hEL HC hx hZ hown (hw _ (List.mem_of_getElem? (i := 4) rfl)) (hw _ (List.mem_of_getElem? (i := 5) rfl)) (hw _ (List.mem_of_getElem? (i := 6) rfl)) (hw _ (List.mem_of_getElem? (i := 7) rfl)) (by decide) hTK hBl (rm_conf_n l Z a0 hw ua sa h0 n0 O0 hlt Su Sv) eT1 (g := (mkF m 11 #[.val (.int p0), .val (.int p1), .val (.int p2), .val (.int p3), .val .null, .unset, .unset, .unset] [.null])) rfl (by rw [hml]; rfl) [.null] [] (lenOf pd__Ljava_lang_String__Lcom_example_postpone_postpone_ApiException_ rfl) rfl rfl (by show 2 * 0 + _ ≤ _; exact Nat.le_of_eq rfl) (hb hby at_11) (by decide) (by decide) (by decide) (by decide) ?_
    intro v2 T2 L2 kk2 X2 hS hk hZ hown HC q2
    obtain ⟨xb2, rfl, Nq2, Kq2, Ea2, Fm2, Fs2⟩ := q2
    have N2 := Fr.app N1 Nq2
    have O0 := O0.keep Kq2 all0
    show Goes p e below _ T2 (mkF m 14 #[.val (.int p0), .val (.int p1), .val (.int p2), .val (.int p3), .val .null, .unset, .unset, .unset] [(.ref xb2)])
    refine Goes.of (fun _ => XS.astore X2.here hx rfl (hb hby at_14) rfl rfl (l' := #[.val (.int p0), .val (.int p1), .val (.int p2), .val (.int p3), .val .null, .val (.ref xb2), .unset, .unset]) rfl) ?_
    show Goes p e below _ T2 (mkF m 16 #[.val (.int p0), .val (.int p1), .val (.int p2), .val (.int p3), .val .null, .val (.ref xb2), .unset, .unset] [])
    refine Goes.of (fun _ => XS.aload X2.here hx rfl (hb hby at_16) rfl rfl) ?_
    show Goes p e below _ T2 (mkF m 18 #[.val (.int p0), .val (.int p1), .val (.int p2), .val (.int p3), .val .null, .val (.ref xb2), .unset, .unset] [(.ref xb2)])
    refine goVirtualUp 0 X2 hx hZ hown (hw _ (List.mem_of_getElem? (i := 71) rfl)) (hw _ (List.mem_of_getElem? (i := 72) rfl)) (hw _ (List.mem_of_getElem? (i := 73) rfl)) (hw _ (List.mem_of_getElem? (i := 75) rfl)) (hw _ (List.mem_of_getElem? (i := 74) rfl)) (hw _ (List.mem_of_getElem? (i := 28) rfl)) (hw _ (List.mem_of_getElem? (i := 76) rfl)) (by decide) (rm_getm_n l Z a0 hw xb2 T2.heap n0 O0 Fm2) (rfl : T2.heap = _) Ea2 (g := (mkF m 18 #[.val (.int p0), .val (.int p1), .val (.int p2), .val (.int p3), .val .null, .val (.ref xb2), .unset, .unset] [(.ref xb2)])) rfl (by rw [hml]; rfl) [] [] (lenOf pd___Ljava_lang_String_ rfl) rfl rfl (by show 2 * 0 + _ ≤ _; exact Nat.le_of_eq rfl) (hb hby at_18) (by decide) (by decide) (by decide) (by decide) ?_
    intro v3 T3 L3 X3 q3
    obtain ⟨rfl, Nq3, eT3⟩ := q3
    have N3 := Fr.app N2 Nq3
    show Goes p e below _ T3 (mkF m 21 #[.val (.int p0), .val (.int p1), .val (.int p2), .val (.int p3), .val .null, .val (.ref xb2), .unset, .unset] [.null])
    refine Goes.of (fun _ => XS.astore X3.here hx rfl (hb hby at_21) rfl rfl (l' := #[.val (.int p0), .val (.int p1), .val (.int p2), .val (.int p3), .val .null, .val (.ref xb2), .val .null, .unset]) rfl) ?_
    show Goes p e below _ T3 (mkF m 23 #[.val (.int p0), .val (.int p1), .val (.int p2), .val (.int p3), .val .null, .val (.ref xb2), .val .null, .unset] [])
    refine Goes.of (fun _ => XS.aload X3.here hx rfl (hb hby at_23) rfl rfl) ?_
    show Goes p e below _ T3 (mkF m 25 #[.val (.int p0), .val (.int p1), .val (.int p2), .val (.int p3), .val .null, .val (.ref xb2), .val .null, .unset] [.null])
    refine Goes.of (fun _ => XS.ifnonnullNo X3.here hx rfl (hb hby at_25) rfl) ?_
    show Goes p e below _ T3 (mkF m 28 #[.val (.int p0), .val (.int p1), .val (.int p2), .val (.int p3), .val .null, .val (.ref xb2), .val .null, .unset] [])
    refine Goes.of (fun _ => XS.aload X3.here hx rfl (hb hby at_28) rfl rfl) ?_
    show Goes p e below _ T3 (mkF m 30 #[.val (.int p0), .val (.int p1), .val (.int p2), .val (.int p3), .val .null, .val (.ref xb2), .val .null, .unset] [.null])
    refine Goes.of (fun _ => XS.ifnonnullNo X3.here hx rfl (hb hby at_30) rfl) ?_
    show Goes p e below _ T3 (mkF m 33 #[.val (.int p0), .val (.int p1), .val (.int p2), .val (.int p3), .val .null, .val (.ref xb2), .val .null, .unset] [])
    refine Goes.of (fun _ => XS.iconst X3.here hx rfl (hb hby at_33)) ?_
    show Goes p e below _ T3 (mkF m 34 #[.val (.int p0), .val (.int p1), .val (.int p2), .val (.int p3), .val .null, .val (.ref xb2), .val .null, .unset] [(.int (1 : Int32))])
    refine Goes.of (fun _ => XS.goto X3.here hx rfl (pc0 := 34) (pc' := 48) rfl (hb hby at_34) (by decide) (by decide)) ?_
    show Goes p e below _ T3 (mkF m 48 #[.val (.int p0), .val (.int p1), .val (.int p2), .val (.int p3), .val .null, .val (.ref xb2), .val .null, .unset] [(.int (1 : Int32))])
    refine Goes.of (fun _ => XS.istore X3.here hx rfl (hb hby at_48) rfl (l' := #[.val (.int p0), .val (.int p1), .val (.int p2), .val (.int p3), .val .null, .val (.ref xb2), .val .null, .val (.int (1 : Int32))]) rfl) ?_
    show Goes p e below _ T3 (mkF m 50 #[.val (.int p0), .val (.int p1), .val (.int p2), .val (.int p3), .val .null, .val (.ref xb2), .val .null, .val (.int (1 : Int32))] [])
    refine Goes.of (fun _ => XS.aload X3.here hx rfl (hb hby at_50) rfl rfl) ?_
    show Goes p e below _ T3 (mkF m 52 #[.val (.int p0), .val (.int p1), .val (.int p2), .val (.int p3), .val .null, .val (.ref xb2), .val .null, .val (.int (1 : Int32))] [(.ref xb2)])
    refine goVirtual 0 X3 hx hZ hown (hw _ (List.mem_of_getElem? (i := 77) rfl)) (hw _ (List.mem_of_getElem? (i := 78) rfl)) (notFace_of_selects (args := #[]) (mvT hZ (hw _ (List.mem_of_getElem? (i := 80) rfl)))) (hw _ (List.mem_of_getElem? (i := 80) rfl)) (hw _ (List.mem_of_getElem? (i := 79) rfl)) (hw _ (List.mem_of_getElem? (i := 6) rfl)) (hw _ (List.mem_of_getElem? (i := 81) rfl)) (by decide) (rm_stat l Z a0 hw xb2 T2.heap n0 O0 Fs2) eT3 Ea2 (g := (mkF m 52 #[.val (.int p0), .val (.int p1), .val (.int p2), .val (.int p3), .val .null, .val (.ref xb2), .val .null, .val (.int (1 : Int32))] [(.ref xb2)])) rfl (by rw [hml]; rfl) [] [] (lenOf pd___I rfl) rfl rfl (by show 2 * 0 + _ ≤ _; exact Nat.le_of_eq rfl) (hb hby at_52) (by decide) (by decide) (by decide) (by decide) ?_
    intro v4 T4 L4 X4 q4
    obtain ⟨rfl, Nq4, eT4⟩ := q4
    have N4 := Fr.app N3 Nq4
    show Goes p e below _ T4 (mkF m 55 #[.val (.int p0), .val (.int p1), .val (.int p2), .val (.int p3), .val .null, .val (.ref xb2), .val .null, .val (.int (1 : Int32))] [(.int (409 : Int32))])
    refine Goes.of (fun _ => XS.sipush X4.here hx rfl (hb hby at_55)) ?_
    show Goes p e below _ T4 (mkF m 58 #[.val (.int p0), .val (.int p1), .val (.int p2), .val (.int p3), .val .null, .val (.ref xb2), .val .null, .val (.int (1 : Int32))] [(.int (409 : Int32)), (.int (409 : Int32))])
    refine Goes.of (fun _ => XS.icmpNo X4.here hx rfl (hb hby at_58) rfl (teq (by decide)).2) ?_
    show Goes p e below _ T4 (mkF m 61 #[.val (.int p0), .val (.int p1), .val (.int p2), .val (.int p3), .val .null, .val (.ref xb2), .val .null, .val (.int (1 : Int32))] [])
    refine Goes.of (fun _ => XS.iload X4.here hx rfl (hb hby at_61) rfl) ?_
    show Goes p e below _ T4 (mkF m 63 #[.val (.int p0), .val (.int p1), .val (.int p2), .val (.int p3), .val .null, .val (.ref xb2), .val .null, .val (.int (1 : Int32))] [(.int (1 : Int32))])
    refine Goes.of (fun _ => XS.ifNo X4.here hx rfl (hb hby at_63) rfl ((if0 _ _).trans (feq (by decide)).1)) ?_
    show Goes p e below _ T4 (mkF m 66 #[.val (.int p0), .val (.int p1), .val (.int p2), .val (.int p3), .val .null, .val (.ref xb2), .val .null, .val (.int (1 : Int32))] [])
    refine Goes.of (fun _ => XS.iconst X4.here hx rfl (hb hby at_66)) ?_
    show Goes p e below _ T4 (mkF m 67 #[.val (.int p0), .val (.int p1), .val (.int p2), .val (.int p3), .val .null, .val (.ref xb2), .val .null, .val (.int (1 : Int32))] [(.int (1 : Int32))])
    refine Goes.of (fun _ => XS.goto X4.here hx rfl (pc0 := 67) (pc' := 71) rfl (hb hby at_67) (by decide) (by decide)) ?_
    show Goes p e below _ T4 (mkF m 71 #[.val (.int p0), .val (.int p1), .val (.int p2), .val (.int p3), .val .null, .val (.ref xb2), .val .null, .val (.int (1 : Int32))] [(.int (1 : Int32))])
    exact retZW (t := .boolean) X4 hS hk hZ hEL HC hx hret hlk (by simp) (hb hby at_71) eT4 (by decide) (by decide) ⟨rfl, N4⟩
  · show Goes p e below _ T (mkF m 0 #[.val (.int p0), .val (.int p1), .val (.int p2), .val (.int p3), .unset, .unset, .unset, .unset] [])
    refine Goes.of (fun _ => XS.iloadN X.here hx rfl (hb hby at_0) rfl) ?_
    show Goes p e below _ T (mkF m 1 #[.val (.int p0), .val (.int p1), .val (.int p2), .val (.int p3), .unset, .unset, .unset, .unset] [(.int p0)])
    refine Goes.of (fun _ => XS.iloadN X.here hx rfl (hb hby at_1) rfl) ?_
    show Goes p e below _ T (mkF m 2 #[.val (.int p0), .val (.int p1), .val (.int p2), .val (.int p3), .unset, .unset, .unset, .unset] [(.int p1), (.int p0)])
    refine Goes.of (fun _ => XS.iloadN X.here hx rfl (hb hby at_2) rfl) ?_
    show Goes p e below _ T (mkF m 3 #[.val (.int p0), .val (.int p1), .val (.int p2), .val (.int p3), .unset, .unset, .unset, .unset] [(.int p2), (.int p1), (.int p0)])
    refine Goes.of (fun _ => XS.iloadN X.here hx rfl (hb hby at_3) rfl) ?_
    show Goes p e below _ T (mkF m 4 #[.val (.int p0), .val (.int p1), .val (.int p2), .val (.int p3), .unset, .unset, .unset, .unset] [(.int p3), (.int p2), (.int p1), (.int p0)])
    refine goStaticW 0 X hS hk hEL HC hx hZ hown (hw _ (List.mem_of_getElem? (i := 0) rfl)) (hw _ (List.mem_of_getElem? (i := 1) rfl)) (hw _ (List.mem_of_getElem? (i := 2) rfl)) (hw _ (List.mem_of_getElem? (i := 3) rfl)) (by decide) (rm_draw1 l Z a0 hw p0 p1 p2 p3 cz h0 n0 O0 Sa Sh Sl Sc hcz hz) eT0 (g := (mkF m 4 #[.val (.int p0), .val (.int p1), .val (.int p2), .val (.int p3), .unset, .unset, .unset, .unset] [(.int p3), (.int p2), (.int p1), (.int p0)])) rfl (by rw [hml]; rfl) [(.int p0), (.int p1), (.int p2), (.int p3)] [] (lenOf pd__IIII_Ljava_lang_String_ rfl) rfl rfl (by show 2 * 0 + _ ≤ _; exact Nat.le_of_eq rfl) (hb hby at_4) (by decide) (by decide) (by decide) (by decide) ?_
    intro v5 T5 L5 kk5 X5 hS hk hZ hown HC q5
    obtain ⟨db5, rfl, Nq5, Kq5, Ed5⟩ := q5
    have N5 := Fr.app N0 Nq5
    have O0 := O0.keep Kq5 all0
    show Goes p e below _ T5 (mkF m 7 #[.val (.int p0), .val (.int p1), .val (.int p2), .val (.int p3), .unset, .unset, .unset, .unset] [(.ref db5)])
    refine Goes.of (fun _ => XS.astore X5.here hx rfl (hb hby at_7) rfl rfl (l' := #[.val (.int p0), .val (.int p1), .val (.int p2), .val (.int p3), .val (.ref db5), .unset, .unset, .unset]) rfl) ?_
    show Goes p e below _ T5 (mkF m 9 #[.val (.int p0), .val (.int p1), .val (.int p2), .val (.int p3), .val (.ref db5), .unset, .unset, .unset] [])
    refine Goes.of (fun _ => XS.aload X5.here hx rfl (hb hby at_9) rfl rfl) ?_
    show Goes p e below _ T5 (mkF m 11 #[.val (.int p0), .val (.int p1), .val (.int p2), .val (.int p3), .val (.ref db5), .unset, .unset, .unset] [(.ref db5)])
    refine goStaticK 0 X5 hS hk hEL HC hx hZ hown (hw _ (List.mem_of_getElem? (i := 4) rfl)) (hw _ (List.mem_of_getElem? (i := 5) rfl)) (hw _ (List.mem_of_getElem? (i := 6) rfl)) (hw _ (List.mem_of_getElem? (i := 7) rfl)) (by decide) hTK hBl (rm_conf_r l Z a0 hw db5 ua sa T5.heap n0 O0 hlt Su Sv) (rfl : T5.heap = _) (g := (mkF m 11 #[.val (.int p0), .val (.int p1), .val (.int p2), .val (.int p3), .val (.ref db5), .unset, .unset, .unset] [(.ref db5)])) rfl (by rw [hml]; rfl) [(.ref db5)] [] (lenOf pd__Ljava_lang_String__Lcom_example_postpone_postpone_ApiException_ rfl) rfl rfl (by show 2 * 0 + _ ≤ _; exact Nat.le_of_eq rfl) (hb hby at_11) (by decide) (by decide) (by decide) (by decide) ?_
    intro v6 T6 L6 kk6 X6 hS hk hZ hown HC q6
    obtain ⟨xb6, rfl, Nq6, Kq6, Ea6, Fm6, Fs6⟩ := q6
    have N6 := Fr.app N5 Nq6
    have Ed5 := Ed5.keep Kq6
    have O0 := O0.keep Kq6 all0
    show Goes p e below _ T6 (mkF m 14 #[.val (.int p0), .val (.int p1), .val (.int p2), .val (.int p3), .val (.ref db5), .unset, .unset, .unset] [(.ref xb6)])
    refine Goes.of (fun _ => XS.astore X6.here hx rfl (hb hby at_14) rfl rfl (l' := #[.val (.int p0), .val (.int p1), .val (.int p2), .val (.int p3), .val (.ref db5), .val (.ref xb6), .unset, .unset]) rfl) ?_
    show Goes p e below _ T6 (mkF m 16 #[.val (.int p0), .val (.int p1), .val (.int p2), .val (.int p3), .val (.ref db5), .val (.ref xb6), .unset, .unset] [])
    refine Goes.of (fun _ => XS.aload X6.here hx rfl (hb hby at_16) rfl rfl) ?_
    show Goes p e below _ T6 (mkF m 18 #[.val (.int p0), .val (.int p1), .val (.int p2), .val (.int p3), .val (.ref db5), .val (.ref xb6), .unset, .unset] [(.ref xb6)])
    refine goVirtualUp 0 X6 hx hZ hown (hw _ (List.mem_of_getElem? (i := 71) rfl)) (hw _ (List.mem_of_getElem? (i := 72) rfl)) (hw _ (List.mem_of_getElem? (i := 73) rfl)) (hw _ (List.mem_of_getElem? (i := 75) rfl)) (hw _ (List.mem_of_getElem? (i := 74) rfl)) (hw _ (List.mem_of_getElem? (i := 28) rfl)) (hw _ (List.mem_of_getElem? (i := 76) rfl)) (by decide) (rm_getm_r l Z a0 hw xb6 db5 T6.heap n0 O0 Fm6) (rfl : T6.heap = _) Ea6 (g := (mkF m 18 #[.val (.int p0), .val (.int p1), .val (.int p2), .val (.int p3), .val (.ref db5), .val (.ref xb6), .unset, .unset] [(.ref xb6)])) rfl (by rw [hml]; rfl) [] [] (lenOf pd___Ljava_lang_String_ rfl) rfl rfl (by show 2 * 0 + _ ≤ _; exact Nat.le_of_eq rfl) (hb hby at_18) (by decide) (by decide) (by decide) (by decide) ?_
    intro v7 T7 L7 X7 q7
    obtain ⟨rfl, Nq7, eT7⟩ := q7
    have N7 := Fr.app N6 Nq7
    show Goes p e below _ T7 (mkF m 21 #[.val (.int p0), .val (.int p1), .val (.int p2), .val (.int p3), .val (.ref db5), .val (.ref xb6), .unset, .unset] [(.ref db5)])
    refine Goes.of (fun _ => XS.astore X7.here hx rfl (hb hby at_21) rfl rfl (l' := #[.val (.int p0), .val (.int p1), .val (.int p2), .val (.int p3), .val (.ref db5), .val (.ref xb6), .val (.ref db5), .unset]) rfl) ?_
    show Goes p e below _ T7 (mkF m 23 #[.val (.int p0), .val (.int p1), .val (.int p2), .val (.int p3), .val (.ref db5), .val (.ref xb6), .val (.ref db5), .unset] [])
    refine Goes.of (fun _ => XS.aload X7.here hx rfl (hb hby at_23) rfl rfl) ?_
    show Goes p e below _ T7 (mkF m 25 #[.val (.int p0), .val (.int p1), .val (.int p2), .val (.int p3), .val (.ref db5), .val (.ref xb6), .val (.ref db5), .unset] [(.ref db5)])
    refine Goes.of (fun _ => XS.ifnonnullYes X7.here hx rfl (pc0 := 25) (pc' := 41) rfl (hb hby at_25) rfl (by decide) (by decide)) ?_
    show Goes p e below _ T7 (mkF m 41 #[.val (.int p0), .val (.int p1), .val (.int p2), .val (.int p3), .val (.ref db5), .val (.ref xb6), .val (.ref db5), .unset] [])
    refine Goes.of (fun _ => XS.aload X7.here hx rfl (hb hby at_41) rfl rfl) ?_
    show Goes p e below _ T7 (mkF m 43 #[.val (.int p0), .val (.int p1), .val (.int p2), .val (.int p3), .val (.ref db5), .val (.ref xb6), .val (.ref db5), .unset] [(.ref db5)])
    refine Goes.of (fun _ => XS.aload X7.here hx rfl (hb hby at_43) rfl rfl) ?_
    show Goes p e below _ T7 (mkF m 45 #[.val (.int p0), .val (.int p1), .val (.int p2), .val (.int p3), .val (.ref db5), .val (.ref xb6), .val (.ref db5), .unset] [(.ref db5), (.ref db5)])
    refine goVirtual 0 X7 hx hZ hown (hw _ (List.mem_of_getElem? (i := 110) rfl)) (hw _ (List.mem_of_getElem? (i := 111) rfl)) (notFace_of_selects (args := #[]) (mvT hZ (hw _ (List.mem_of_getElem? (i := 113) rfl)))) (hw _ (List.mem_of_getElem? (i := 113) rfl)) (hw _ (List.mem_of_getElem? (i := 112) rfl)) (hw _ (List.mem_of_getElem? (i := 84) rfl)) (hw _ (List.mem_of_getElem? (i := 114) rfl)) (by decide) (rm_eqs l Z a0 hw db5 T6.heap n0 O0) eT7 Ed5 (g := (mkF m 45 #[.val (.int p0), .val (.int p1), .val (.int p2), .val (.int p3), .val (.ref db5), .val (.ref xb6), .val (.ref db5), .unset] [(.ref db5), (.ref db5)])) rfl (by rw [hml]; rfl) [(.ref db5)] [] (lenOf pd__Ljava_lang_Object__Z rfl) rfl rfl (by show 2 * 0 + _ ≤ _; exact Nat.le_of_eq rfl) (hb hby at_45) (by decide) (by decide) (by decide) (by decide) ?_
    intro v8 T8 L8 X8 q8
    obtain ⟨rfl, Nq8, eT8⟩ := q8
    have N8 := Fr.app N7 Nq8
    show Goes p e below _ T8 (mkF m 48 #[.val (.int p0), .val (.int p1), .val (.int p2), .val (.int p3), .val (.ref db5), .val (.ref xb6), .val (.ref db5), .unset] [(.int (1 : Int32))])
    refine Goes.of (fun _ => XS.istore X8.here hx rfl (hb hby at_48) rfl (l' := #[.val (.int p0), .val (.int p1), .val (.int p2), .val (.int p3), .val (.ref db5), .val (.ref xb6), .val (.ref db5), .val (.int (1 : Int32))]) rfl) ?_
    show Goes p e below _ T8 (mkF m 50 #[.val (.int p0), .val (.int p1), .val (.int p2), .val (.int p3), .val (.ref db5), .val (.ref xb6), .val (.ref db5), .val (.int (1 : Int32))] [])
    refine Goes.of (fun _ => XS.aload X8.here hx rfl (hb hby at_50) rfl rfl) ?_
    show Goes p e below _ T8 (mkF m 52 #[.val (.int p0), .val (.int p1), .val (.int p2), .val (.int p3), .val (.ref db5), .val (.ref xb6), .val (.ref db5), .val (.int (1 : Int32))] [(.ref xb6)])
    refine goVirtual 0 X8 hx hZ hown (hw _ (List.mem_of_getElem? (i := 77) rfl)) (hw _ (List.mem_of_getElem? (i := 78) rfl)) (notFace_of_selects (args := #[]) (mvT hZ (hw _ (List.mem_of_getElem? (i := 80) rfl)))) (hw _ (List.mem_of_getElem? (i := 80) rfl)) (hw _ (List.mem_of_getElem? (i := 79) rfl)) (hw _ (List.mem_of_getElem? (i := 6) rfl)) (hw _ (List.mem_of_getElem? (i := 81) rfl)) (by decide) (rm_stat l Z a0 hw xb6 T6.heap n0 O0 Fs6) eT8 Ea6 (g := (mkF m 52 #[.val (.int p0), .val (.int p1), .val (.int p2), .val (.int p3), .val (.ref db5), .val (.ref xb6), .val (.ref db5), .val (.int (1 : Int32))] [(.ref xb6)])) rfl (by rw [hml]; rfl) [] [] (lenOf pd___I rfl) rfl rfl (by show 2 * 0 + _ ≤ _; exact Nat.le_of_eq rfl) (hb hby at_52) (by decide) (by decide) (by decide) (by decide) ?_
    intro v9 T9 L9 X9 q9
    obtain ⟨rfl, Nq9, eT9⟩ := q9
    have N9 := Fr.app N8 Nq9
    show Goes p e below _ T9 (mkF m 55 #[.val (.int p0), .val (.int p1), .val (.int p2), .val (.int p3), .val (.ref db5), .val (.ref xb6), .val (.ref db5), .val (.int (1 : Int32))] [(.int (409 : Int32))])
    refine Goes.of (fun _ => XS.sipush X9.here hx rfl (hb hby at_55)) ?_
    show Goes p e below _ T9 (mkF m 58 #[.val (.int p0), .val (.int p1), .val (.int p2), .val (.int p3), .val (.ref db5), .val (.ref xb6), .val (.ref db5), .val (.int (1 : Int32))] [(.int (409 : Int32)), (.int (409 : Int32))])
    refine Goes.of (fun _ => XS.icmpNo X9.here hx rfl (hb hby at_58) rfl (teq (by decide)).2) ?_
    show Goes p e below _ T9 (mkF m 61 #[.val (.int p0), .val (.int p1), .val (.int p2), .val (.int p3), .val (.ref db5), .val (.ref xb6), .val (.ref db5), .val (.int (1 : Int32))] [])
    refine Goes.of (fun _ => XS.iload X9.here hx rfl (hb hby at_61) rfl) ?_
    show Goes p e below _ T9 (mkF m 63 #[.val (.int p0), .val (.int p1), .val (.int p2), .val (.int p3), .val (.ref db5), .val (.ref xb6), .val (.ref db5), .val (.int (1 : Int32))] [(.int (1 : Int32))])
    refine Goes.of (fun _ => XS.ifNo X9.here hx rfl (hb hby at_63) rfl ((if0 _ _).trans (feq (by decide)).1)) ?_
    show Goes p e below _ T9 (mkF m 66 #[.val (.int p0), .val (.int p1), .val (.int p2), .val (.int p3), .val (.ref db5), .val (.ref xb6), .val (.ref db5), .val (.int (1 : Int32))] [])
    refine Goes.of (fun _ => XS.iconst X9.here hx rfl (hb hby at_66)) ?_
    show Goes p e below _ T9 (mkF m 67 #[.val (.int p0), .val (.int p1), .val (.int p2), .val (.int p3), .val (.ref db5), .val (.ref xb6), .val (.ref db5), .val (.int (1 : Int32))] [(.int (1 : Int32))])
    refine Goes.of (fun _ => XS.goto X9.here hx rfl (pc0 := 67) (pc' := 71) rfl (hb hby at_67) (by decide) (by decide)) ?_
    show Goes p e below _ T9 (mkF m 71 #[.val (.int p0), .val (.int p1), .val (.int p2), .val (.int p3), .val (.ref db5), .val (.ref xb6), .val (.ref db5), .val (.int (1 : Int32))] [(.int (1 : Int32))])
    exact retZW (t := .boolean) X9 hS hk hZ hEL HC hx hret hlk (by simp) (hb hby at_71) eT9 (by decide) (by decide) ⟨rfl, N9⟩
set_option maxRecDepth 65536 in
set_option maxHeartbeats 40000000 in
theorem comes_1 {Post : Tables → Env → Array Value → State → Outcome → State → Prop} (hpost : ∀ tb e args s v u, (limb_1_1.after args s (.returned v) u = true ∧ limb_1_2.after args s (.returned v) u = true ∧ True) → ReturnedEndW s (.returned v) u (Jvm.fieldLocs frame_1_writes args s ++ Jvm.arrayLocs frame_1_arrays args s ++ Jvm.staticLocs frame_1_statics s) 24 6656 → Post tb e args s (.returned v) u) :
    ArmFor flags0 classFile x code maxLocals ret World_1 tables_1 room_1 Calls_1 rest_1 Pre_1 Post := by
  intro l hfl _ _ p e ha hc hk s m args below hf hA hF happ hP
  obtain ⟨hcalls, hrest, hpre⟩ := hP
  obtain ⟨-, -, -, hnamed, -, -, -, hat⟩ := (Spec.applies_iff hf).mp happ
  obtain ⟨hg, hn⟩ := and_e (Cond.before_iff.mp (show (Jvm.Cond.and given_1 narrow_1).before args s = true from hpre))
  obtain ⟨hcount, hg0⟩ := and_e hg
  obtain ⟨hv0, hg1⟩ := and_e hg0
  obtain ⟨hv1, hg2⟩ := and_e hg1
  obtain ⟨hv2, hg3⟩ := and_e hg2
  have hv3 := hg3
  obtain ⟨w0, w1, w2, w3, rfl⟩ : ∃ w0 w1 w2 w3 : Value, args = #[w0, w1, w2, w3] := by
    have hs : args.size = 4 := by simpa [Cond.value, given_1] using hcount
    obtain ⟨L⟩ := args
    match L, hs with
    | [w0, w1, w2, w3], _ => exact ⟨w0, w1, w2, w3, rfl⟩
  have hw := fun d (hd : d ∈ tables_1) => atoms_spec (ws := Jvm.Cond.code x code maxLocals ret :: tables_1) hat d (List.mem_cons_of_mem _ hd)
  have hfit : Fit s := fun {y c} hc i hi => by
    obtain ⟨ha, rfl⟩ := Array.getElem?_eq_some_iff.mp hc
    have q := List.all_eq_true.mp ((Array.all_eq_true_iff_forall_mem.mp hF) _ (Array.getElem_mem ha)) i (List.mem_range.mpr hi)
    simpa [Array.getElem?_eq_getElem hi] using q
  obtain ⟨hsets, hown0⟩ := atoms_of _ (rest_1_c_eq ▸ (show rest_1_c.before _ s = true from hrest))
  obtain ⟨i0, ei0⟩ := is_v hv0
  obtain rfl : w0 = (.int i0) := Option.some.inj ei0
  obtain ⟨i1, ei1⟩ := is_v hv1
  obtain rfl : w1 = (.int i1) := Option.some.inj ei1
  obtain ⟨i2, ei2⟩ := is_v hv2
  obtain rfl : w2 = (.int i2) := Option.some.inj ei2
  obtain ⟨i3, ei3⟩ := is_v hv3
  obtain rfl : w3 = (.int i3) := Option.some.inj ei3
  obtain ⟨cz, evcz⟩ := is_v (Cond.before_iff.mp (hsets _ (List.mem_of_getElem? (i := 21) rfl)))
  have Sc := Sta.start evcz (Or.inl (hsets _ (List.mem_of_getElem? (i := 20) rfl)))
  have hcz := ne_of_not evcz (hsets _ (List.mem_of_getElem? (i := 22) rfl))
  have Sa := Sta.start (Cond.eq_int (n := 1) (hsets _ (List.mem_of_getElem? (i := 32) rfl)) (Term.int_eval _)) (Or.inl (hsets _ (List.mem_of_getElem? (i := 31) rfl)))
  have Sh := Sta.start (Cond.eq_int (n := 0) (hsets _ (List.mem_of_getElem? (i := 35) rfl)) (Term.int_eval _)) (Or.inl (hsets _ (List.mem_of_getElem? (i := 34) rfl)))
  have Sl := Sta.start (Cond.eq_int (n := 8) (hsets _ (List.mem_of_getElem? (i := 38) rfl)) (Term.int_eval _)) (Or.inl (hsets _ (List.mem_of_getElem? (i := 37) rfl)))
  have hlt : l.stackTraces = true := by
    show (!l.flags.contains noTraceFlag) = true
    rw [hfl]
    decide +kernel
  obtain ⟨ua, evu⟩ := arr_v (Cond.before_iff.mp (hsets _ (List.mem_of_getElem? (i := 8) rfl)))
  have Su := Sta.start evu (Or.inl (hsets _ (List.mem_of_getElem? (i := 6) rfl)))
  obtain ⟨sa, evs⟩ := exa_v (Cond.before_iff.mp (hsets _ (List.mem_of_getElem? (i := 13) rfl)))
  have Sv := Sta.start evs (Or.inl (hsets _ (List.mem_of_getElem? (i := 11) rfl)))
  have hCH : CHv s EL s.vm s.heap := CHv.start (hELof hw) (fun p hp => hcalls.2.2.1 p hp) (hsets _ (List.mem_of_getElem? (i := 22) rfl)) (hw _ (List.mem_of_getElem? (i := 99) rfl)) (hw _ (List.mem_of_getElem? (i := 83) rfl))
  obtain ⟨n, o, h1, h2, h3, _, L, rfl, ⟨rfl, N⟩, -, hq⟩ := rm_law l s _ hw tables_1 i0 i1 i2 i3 cz ua sa s.heap s.heap.size (Old.start s) Sa Sh Sl Sc hcz hlt Su Sv p e ha hc hk s m _ below hf ((Spec.applies_iff_loose hf).mp happ).1 ⟨rfl, State.Warmed39.refl s, rfl, hCH⟩ ⟨MethodsKnown_of_tablesKnown hcalls.2.1, FramesKnown_of_framesKnown hcalls.1 hf⟩
  refine ⟨n, _, h1, h2, h3, hpost _ _ _ _ _ _ ⟨Cond.after_iff.mpr rfl, Cond.after_iff.mpr (eq_i res_at (Term.int_eval (1)) rfl), trivial⟩ ⟨hq.1, hq.2.1, hq.2.2.1, (hq.2.2.2.sift fun y hy => Or.inr (N y hy)).mono (by decide) (by decide)⟩⟩
theorem main_1_1 : Claimed_1_1 := comes_1 fun _ _ _ _ _ _ h hF => ⟨h.1, hF⟩
theorem main_1_2 : Claimed_1_2 := comes_1 fun _ _ _ _ _ _ h hF => ⟨h.2.1, hF⟩
end Jvm.Pilot.@@N@@
namespace Jvm.Pilot.@@N@@
open Jvm Jvm.ClassFile Sem Op Lib Jvm.Free Jvm.Stand Jvm.Pilot.@@N@@.Jvm.D
/-! MADE BY PROGRAM (witnessworld.py) out of the Statement's table words and the real class files: 36 classes; the members and pool entries that the words name. The judged class is class 1, her method 2. -/
namespace start1
open Jvm.ClassFile
def u (s : String) : CpInfo := .utf8 (stringToUtf16 s)
/-- a pool by its gaps: so many unusable entries, then the entry; so many at the end -/
def gap : Nat → List CpInfo → List CpInfo
  | 0, r => r
  | n + 1, r => .unusable :: gap n r
def poolList (es : List (Nat × CpInfo)) (last : Nat) : List CpInfo := es.foldr (fun e r => gap e.1 (e.2 :: r)) (gap last [])
def pool (es : List (Nat × CpInfo)) (last : Nat) : Array CpInfo := ⟨poolList es last⟩
def fileOf (pool : Array CpInfo) (this : Nat) (attrs : Array Attribute := #[]) (ms : Array MethodInfo := #[]) (fl : Nat := 33) (sup : Nat := 0) (ifs : Array Nat := #[]) (fds : Array FieldInfo := #[]) : ClassFile where
  minorVersion := 0
  majorVersion := 65
  constantPool := pool
  accessFlags := fl
  thisClass := this
  superClass := sup
  interfaces := ifs
  fields := fds
  methods := ms
  attributes := attrs
def plain (name : String) (sup : Option ClassId) : Class where
  name := name
  kind := .ordinary
  loader := none
  accessFlags := 33
  super := sup
  interfaces := #[]
  cf := none
  fields := #[]
  methods := #[]
  instanceTypes := #[]
  staticTypes := #[]
  resolved := #[]
  callSites := []
  init := .initialized
  statics := none
  mirror := none

def pool0 : Array CpInfo := pool [(5, u "<init>"), (0, u "()V"), (1, .class_ 10), (1, u "java/lang/Object")] 113

def k0c0 : Code := { maxStack := 0, maxLocals := 1, code := object_method_1_code, exceptionTable := #[], attributes := #[] }
def k0m0 : Method := { name := "<init>", desc := "()V", sig := { parameters := [], returnType := none }, accessFlags := 1, code := some k0c0 }
/-- java/lang/Object -/
def k0 : Class := { plain "java/lang/Object" none with
  accessFlags := 33
  interfaces := #[]
  cf := some (fileOf pool0 8 #[] #[{ accessFlags := 1, nameIndex := 5, descriptorIndex := 6, attributes := #[] }] 33 0 #[] #[])
  fields := #[]
  methods := #[k0m0]
  instanceTypes := #[]
  staticTypes := #[]
  resolved := Array.replicate 124 none
  statics := none }

def pool1 : Array CpInfo := pool [(2, .class_ 4), (1, u "java/lang/Object"), (0, u "<init>"), (0, u "()V"), (0, .class_ 8), (0, u "java/lang/String"), (0, .methodref 7 10), (0, .nameAndType 5 11), (0, u "([C)V"), (0, .methodref 7 13), (0, .nameAndType 14 15), (0, u "valueOf"), (0, u "(C)Ljava/lang/String;"), (0, .methodref 17 18), (0, .class_ 19), (0, .nameAndType 20 21), (0, u "com/example/postpone/postpone/ApiExceptionConflictPinLaw"), (0, u "draw"), (0, u "(IIII)Ljava/lang/String;"), (0, .methodref 23 24), (0, .class_ 25), (0, .nameAndType 26 27), (0, u "com/example/postpone/postpone/ApiException"), (0, u "conflict"), (0, u "(Ljava/lang/String;)Lcom/example/postpone/postpone/ApiException;"), (0, .methodref 23 29), (0, .nameAndType 30 31), (0, u "getMessage"), (0, u "()Ljava/lang/String;"), (0, .methodref 7 33), (0, .nameAndType 34 35), (0, u "equals"), (0, u "(Ljava/lang/Object;)Z"), (0, .methodref 23 37), (0, .nameAndType 38 39), (0, u "status"), (0, u "()I"), (3, u "law"), (0, u "(IIII)Z")] 2

def k1m0 : Method := { name := "<init>", desc := "()V", sig := { parameters := [], returnType := none }, accessFlags := 2, code := none }
def k1c1 : Code := { maxStack := 6, maxLocals := 8, code := method_2_code, exceptionTable := #[], attributes := #[] }
def k1m1 : Method := { name := "draw", desc := "(IIII)Ljava/lang/String;", sig := { parameters := [.int, .int, .int, .int], returnType := some (.object "java/lang/String") }, accessFlags := 10, code := some k1c1 }
def k1c2 : Code := { maxStack := 4, maxLocals := 8, code := code, exceptionTable := #[], attributes := #[] }
def k1m2 : Method := { name := "law", desc := "(IIII)Z", sig := { parameters := [.int, .int, .int, .int], returnType := some .boolean }, accessFlags := 9, code := some k1c2 }
/-- com/example/postpone/postpone/ApiExceptionConflictPinLaw -/
def k1 : Class := { plain "com/example/postpone/postpone/ApiExceptionConflictPinLaw" (some 0) with
  accessFlags := 49
  interfaces := #[]
  cf := some (fileOf pool1 17 #[] #[{ accessFlags := 2, nameIndex := 5, descriptorIndex := 6, attributes := #[] }, { accessFlags := 10, nameIndex := 20, descriptorIndex := 21, attributes := #[] }, { accessFlags := 9, nameIndex := 43, descriptorIndex := 44, attributes := #[] }] 49 2 #[] #[])
  fields := #[]
  methods := #[k1m0, k1m1, k1m2]
  instanceTypes := #[]
  staticTypes := #[]
  resolved := Array.replicate 47 none
  statics := none }

def pool2 : Array CpInfo := pool [(1, .class_ 2), (0, u "java/io/Serializable"), (0, .class_ 4), (0, u "java/lang/Object")] 2

/-- java/io/Serializable -/
def k2 : Class := { plain "java/io/Serializable" (some 0) with
  accessFlags := 1537
  interfaces := #[]
  cf := some (fileOf pool2 1 #[] #[] 1537 3 #[] #[])
  fields := #[]
  methods := #[]
  instanceTypes := #[]
  staticTypes := #[]
  resolved := Array.replicate 7 none
  statics := none }

def pool3 : Array CpInfo := pool [(1, .methodref 2 3), (0, .class_ 4), (0, .nameAndType 5 6), (0, u "java/lang/Object"), (0, u "<init>"), (0, u "()V"), (0, .fieldref 8 9), (0, .class_ 10), (0, .nameAndType 11 12), (0, u "java/lang/Throwable"), (0, u "cause"), (0, u "Ljava/lang/Throwable;"), (0, .fieldref 8 14), (0, .nameAndType 15 16), (0, u "UNASSIGNED_STACK"), (0, u "[Ljava/lang/StackTraceElement;"), (0, .fieldref 8 18), (0, .nameAndType 19 16), (0, u "stackTrace"), (0, .fieldref 8 21), (0, .nameAndType 22 23), (0, u "SUPPRESSED_SENTINEL"), (0, u "Ljava/util/List;"), (0, .fieldref 8 25), (0, .nameAndType 26 23), (0, u "suppressedExceptions"), (0, .methodref 8 28), (0, .nameAndType 29 30), (0, u "fillInStackTrace"), (0, u "()Ljava/lang/Throwable;"), (0, .fieldref 8 32), (0, .nameAndType 33 34), (0, u "detailMessage"), (0, u "Ljava/lang/String;"), (3, u "()Ljava/lang/String;"), (2, u "getMessage"), (51, .class_ 94), (0, u "java/lang/Throwable$WrappedPrintStream"), (6, .class_ 103), (1, u "java/lang/Throwable$PrintStreamOrWriter"), (61, u "$assertionsDisabled"), (0, u "Z"), (26, .class_ 194), (0, u "java/lang/Throwable$WrappedPrintWriter"), (3, .fieldref 8 199), (0, .nameAndType 200 201), (0, u "backtrace"), (0, u "Ljava/lang/Object;"), (0, .methodref 8 203), (0, .nameAndType 29 204), (0, u "(I)Ljava/lang/Throwable;"), (6, u "depth"), (0, u "I"), (10, u "(Ljava/lang/String;)V"), (45, .class_ 271), (1, u "java/lang/Throwable$SentinelHolder"), (32, u "EMPTY_THROWABLE_ARRAY"), (0, u "[Ljava/lang/Throwable;"), (12, .class_ 319), (0, u "java/io/Serializable"), (0, u "serialVersionUID"), (0, u "J"), (5, u "NULL_CAUSE_MESSAGE"), (0, u "SELF_SUPPRESSION_MESSAGE"), (0, u "CAUSE_CAPTION"), (0, u "SUPPRESSED_CAPTION")] 73

def k3c0 : Code := { maxStack := 2, maxLocals := 1, code := jdk_78_method_1_code, exceptionTable := #[], attributes := #[] }
def k3m0 : Method := { name := "<init>", desc := "()V", sig := { parameters := [], returnType := none }, accessFlags := 1, code := some k3c0 }
def k3c1 : Code := { maxStack := 2, maxLocals := 2, code := jdk_78_method_2_code, exceptionTable := #[], attributes := #[] }
def k3m1 : Method := { name := "<init>", desc := "(Ljava/lang/String;)V", sig := { parameters := [(.object "java/lang/String")], returnType := none }, accessFlags := 1, code := some k3c1 }
def k3c2 : Code := { maxStack := 1, maxLocals := 1, code := jdk_78_method_6_code, exceptionTable := #[], attributes := #[] }
def k3m2 : Method := { name := "getMessage", desc := "()Ljava/lang/String;", sig := { parameters := [], returnType := some (.object "java/lang/String") }, accessFlags := 1, code := some k3c2 }
def k3c3 : Code := { maxStack := 2, maxLocals := 1, code := ⟨#[0x2a, 0xb4, 0x00, 0x11, 0xc7, 0x00, 0x0a, 0x2a, 0xb4, 0x00, 0xc6, 0xc6, 0x00, 0x10, 0x2a, 0x03, 0xb6, 0x00, 0xca, 0x57, 0x2a, 0xb2, 0x00, 0x0d, 0xb5, 0x00, 0x11, 0x2a, 0xb0]⟩, exceptionTable := #[], attributes := #[] }
def k3m3 : Method := { name := "fillInStackTrace", desc := "()Ljava/lang/Throwable;", sig := { parameters := [], returnType := some (.object "java/lang/Throwable") }, accessFlags := 33, code := some k3c3 }
def k3m4 : Method := { name := "fillInStackTrace", desc := "(I)Ljava/lang/Throwable;", sig := { parameters := [.int], returnType := some (.object "java/lang/Throwable") }, accessFlags := 258, code := none }
/-- java/lang/Throwable -/
def k3 : Class := { plain "java/lang/Throwable" (some 0) with
  accessFlags := 33
  interfaces := #[2]
  cf := some (fileOf pool3 8 #[.nestMembers #[193, 93, 101, 269]] #[{ accessFlags := 1, nameIndex := 5, descriptorIndex := 6, attributes := #[] }, { accessFlags := 1, nameIndex := 5, descriptorIndex := 223, attributes := #[] }, { accessFlags := 1, nameIndex := 41, descriptorIndex := 38, attributes := #[] }, { accessFlags := 33, nameIndex := 29, descriptorIndex := 30, attributes := #[] }, { accessFlags := 258, nameIndex := 29, descriptorIndex := 204, attributes := #[] }] 33 2 #[318] #[{ accessFlags := 26, nameIndex := 320, descriptorIndex := 321, attributes := #[] }, { accessFlags := 130, nameIndex := 200, descriptorIndex := 201, attributes := #[] }, { accessFlags := 2, nameIndex := 33, descriptorIndex := 34, attributes := #[] }, { accessFlags := 26, nameIndex := 15, descriptorIndex := 16, attributes := #[] }, { accessFlags := 2, nameIndex := 11, descriptorIndex := 12, attributes := #[] }, { accessFlags := 2, nameIndex := 19, descriptorIndex := 16, attributes := #[] }, { accessFlags := 130, nameIndex := 211, descriptorIndex := 212, attributes := #[] }, { accessFlags := 26, nameIndex := 22, descriptorIndex := 23, attributes := #[] }, { accessFlags := 2, nameIndex := 26, descriptorIndex := 23, attributes := #[] }, { accessFlags := 26, nameIndex := 327, descriptorIndex := 34, attributes := #[] }, { accessFlags := 26, nameIndex := 328, descriptorIndex := 34, attributes := #[] }, { accessFlags := 26, nameIndex := 329, descriptorIndex := 34, attributes := #[] }, { accessFlags := 26, nameIndex := 330, descriptorIndex := 34, attributes := #[] }, { accessFlags := 26, nameIndex := 304, descriptorIndex := 305, attributes := #[] }, { accessFlags := 4120, nameIndex := 165, descriptorIndex := 166, attributes := #[] }])
  fields := #[{ name := "serialVersionUID", type := .long, accessFlags := 26, slot := 0, constantValue := 0 }, { name := "backtrace", type := (.object "java/lang/Object"), accessFlags := 130, slot := 0, constantValue := 0 }, { name := "detailMessage", type := (.object "java/lang/String"), accessFlags := 2, slot := 1, constantValue := 0 }, { name := "UNASSIGNED_STACK", type := (.array (.object "java/lang/StackTraceElement")), accessFlags := 26, slot := 1, constantValue := 0 }, { name := "cause", type := (.object "java/lang/Throwable"), accessFlags := 2, slot := 2, constantValue := 0 }, { name := "stackTrace", type := (.array (.object "java/lang/StackTraceElement")), accessFlags := 2, slot := 3, constantValue := 0 }, { name := "depth", type := .int, accessFlags := 130, slot := 4, constantValue := 0 }, { name := "SUPPRESSED_SENTINEL", type := (.object "java/util/List"), accessFlags := 26, slot := 2, constantValue := 0 }, { name := "suppressedExceptions", type := (.object "java/util/List"), accessFlags := 2, slot := 5, constantValue := 0 }, { name := "NULL_CAUSE_MESSAGE", type := (.object "java/lang/String"), accessFlags := 26, slot := 3, constantValue := 0 }, { name := "SELF_SUPPRESSION_MESSAGE", type := (.object "java/lang/String"), accessFlags := 26, slot := 4, constantValue := 0 }, { name := "CAUSE_CAPTION", type := (.object "java/lang/String"), accessFlags := 26, slot := 5, constantValue := 0 }, { name := "SUPPRESSED_CAPTION", type := (.object "java/lang/String"), accessFlags := 26, slot := 6, constantValue := 0 }, { name := "EMPTY_THROWABLE_ARRAY", type := (.array (.object "java/lang/Throwable")), accessFlags := 26, slot := 7, constantValue := 0 }, { name := "$assertionsDisabled", type := .boolean, accessFlags := 4120, slot := 8, constantValue := 0 }]
  methods := #[k3m0, k3m1, k3m2, k3m3, k3m4]
  instanceTypes := #[(.object "java/lang/Object"), (.object "java/lang/String"), (.object "java/lang/Throwable"), (.array (.object "java/lang/StackTraceElement")), .int, (.object "java/util/List")]
  staticTypes := #[.long, (.array (.object "java/lang/StackTraceElement")), (.object "java/util/List"), (.object "java/lang/String"), (.object "java/lang/String"), (.object "java/lang/String"), (.object "java/lang/String"), (.array (.object "java/lang/Throwable")), .boolean]
  resolved := Array.replicate 404 none
  statics := some 0 }

def pool4 : Array CpInfo := pool [(2, .class_ 4), (1, u "java/lang/Throwable"), (0, u "<init>"), (0, u "()V"), (0, .methodref 2 8), (0, .nameAndType 5 9), (0, u "(Ljava/lang/String;)V"), (9, .class_ 20), (0, u "java/lang/Exception"), (0, u "serialVersionUID"), (0, u "J")] 17

def k4m0 : Method := { name := "<init>", desc := "()V", sig := { parameters := [], returnType := none }, accessFlags := 1, code := none }
def k4c1 : Code := { maxStack := 2, maxLocals := 2, code := jdk_59_method_2_code, exceptionTable := #[], attributes := #[] }
def k4m1 : Method := { name := "<init>", desc := "(Ljava/lang/String;)V", sig := { parameters := [(.object "java/lang/String")], returnType := none }, accessFlags := 1, code := some k4c1 }
/-- java/lang/Exception -/
def k4 : Class := { plain "java/lang/Exception" (some 3) with
  accessFlags := 33
  interfaces := #[]
  cf := some (fileOf pool4 19 #[] #[{ accessFlags := 1, nameIndex := 5, descriptorIndex := 6, attributes := #[] }, { accessFlags := 1, nameIndex := 5, descriptorIndex := 9, attributes := #[] }] 33 2 #[] #[{ accessFlags := 24, nameIndex := 21, descriptorIndex := 22, attributes := #[] }])
  fields := #[{ name := "serialVersionUID", type := .long, accessFlags := 24, slot := 0, constantValue := 0 }]
  methods := #[k4m0, k4m1]
  instanceTypes := #[(.object "java/lang/Object"), (.object "java/lang/String"), (.object "java/lang/Throwable"), (.array (.object "java/lang/StackTraceElement")), .int, (.object "java/util/List")]
  staticTypes := #[.long]
  resolved := Array.replicate 40 none
  statics := none }

def pool5 : Array CpInfo := pool [(2, .class_ 4), (1, u "java/lang/Exception"), (0, u "<init>"), (0, u "()V"), (0, .methodref 2 8), (0, .nameAndType 5 9), (0, u "(Ljava/lang/String;)V"), (9, .class_ 20), (0, u "java/lang/RuntimeException"), (0, u "serialVersionUID"), (0, u "J")] 17

def k5m0 : Method := { name := "<init>", desc := "()V", sig := { parameters := [], returnType := none }, accessFlags := 1, code := none }
def k5c1 : Code := { maxStack := 2, maxLocals := 2, code := jdk_58_method_2_code, exceptionTable := #[], attributes := #[] }
def k5m1 : Method := { name := "<init>", desc := "(Ljava/lang/String;)V", sig := { parameters := [(.object "java/lang/String")], returnType := none }, accessFlags := 1, code := some k5c1 }
/-- java/lang/RuntimeException -/
def k5 : Class := { plain "java/lang/RuntimeException" (some 4) with
  accessFlags := 33
  interfaces := #[]
  cf := some (fileOf pool5 19 #[] #[{ accessFlags := 1, nameIndex := 5, descriptorIndex := 6, attributes := #[] }, { accessFlags := 1, nameIndex := 5, descriptorIndex := 9, attributes := #[] }] 33 2 #[] #[{ accessFlags := 24, nameIndex := 21, descriptorIndex := 22, attributes := #[] }])
  fields := #[{ name := "serialVersionUID", type := .long, accessFlags := 24, slot := 0, constantValue := 0 }]
  methods := #[k5m0, k5m1]
  instanceTypes := #[(.object "java/lang/Object"), (.object "java/lang/String"), (.object "java/lang/Throwable"), (.array (.object "java/lang/StackTraceElement")), .int, (.object "java/util/List")]
  staticTypes := #[.long]
  resolved := Array.replicate 40 none
  statics := none }

def pool6 : Array CpInfo := pool [(1, .methodref 2 3), (0, .class_ 4), (0, .nameAndType 5 6), (0, u "java/lang/RuntimeException"), (0, u "<init>"), (0, u "(Ljava/lang/String;)V"), (0, .fieldref 8 9), (0, .class_ 10), (0, .nameAndType 11 12), (0, u "com/example/postpone/postpone/ApiException"), (0, u "status"), (0, u "I"), (0, .methodref 8 14), (0, .nameAndType 5 15), (0, u "(ILjava/lang/String;)V"), (0, u "serialVersionUID"), (0, u "J"), (6, u "(Ljava/lang/String;)Lcom/example/postpone/postpone/ApiException;"), (1, u "conflict"), (0, u "()I")] 2

def k6c0 : Code := { maxStack := 2, maxLocals := 3, code := prog_1_method_1_code, exceptionTable := #[], attributes := #[] }
def k6m0 : Method := { name := "<init>", desc := "(ILjava/lang/String;)V", sig := { parameters := [.int, (.object "java/lang/String")], returnType := none }, accessFlags := 2, code := some k6c0 }
def k6c1 : Code := { maxStack := 4, maxLocals := 1, code := prog_1_method_4_code, exceptionTable := #[], attributes := #[] }
def k6m1 : Method := { name := "conflict", desc := "(Ljava/lang/String;)Lcom/example/postpone/postpone/ApiException;", sig := { parameters := [(.object "java/lang/String")], returnType := some (.object "com/example/postpone/postpone/ApiException") }, accessFlags := 8, code := some k6c1 }
def k6c2 : Code := { maxStack := 1, maxLocals := 1, code := prog_1_method_5_code, exceptionTable := #[], attributes := #[] }
def k6m2 : Method := { name := "status", desc := "()I", sig := { parameters := [], returnType := some .int }, accessFlags := 0, code := some k6c2 }
/-- com/example/postpone/postpone/ApiException -/
def k6 : Class := { plain "com/example/postpone/postpone/ApiException" (some 5) with
  accessFlags := 32
  interfaces := #[]
  cf := some (fileOf pool6 8 #[] #[{ accessFlags := 2, nameIndex := 5, descriptorIndex := 15, attributes := #[] }, { accessFlags := 8, nameIndex := 26, descriptorIndex := 24, attributes := #[] }, { accessFlags := 0, nameIndex := 11, descriptorIndex := 27, attributes := #[] }] 32 2 #[] #[{ accessFlags := 26, nameIndex := 16, descriptorIndex := 17, attributes := #[] }, { accessFlags := 18, nameIndex := 11, descriptorIndex := 12, attributes := #[] }])
  fields := #[{ name := "serialVersionUID", type := .long, accessFlags := 26, slot := 0, constantValue := 0 }, { name := "status", type := .int, accessFlags := 18, slot := 6, constantValue := 0 }]
  methods := #[k6m0, k6m1, k6m2]
  instanceTypes := #[(.object "java/lang/Object"), (.object "java/lang/String"), (.object "java/lang/Throwable"), (.array (.object "java/lang/StackTraceElement")), .int, (.object "java/util/List"), .int]
  staticTypes := #[.long]
  resolved := Array.replicate 30 none
  statics := none }

def pool7 : Array CpInfo := pool [(1, .class_ 2), (0, u "java/lang/Comparable"), (0, .class_ 4), (0, u "java/lang/Object")] 7

/-- java/lang/Comparable -/
def k7 : Class := { plain "java/lang/Comparable" (some 0) with
  accessFlags := 1537
  interfaces := #[]
  cf := some (fileOf pool7 1 #[] #[] 1537 3 #[] #[])
  fields := #[]
  methods := #[]
  instanceTypes := #[]
  staticTypes := #[]
  resolved := Array.replicate 12 none
  statics := none }

def pool8 : Array CpInfo := pool [(2, .class_ 4), (1, u "java/lang/CharSequence"), (42, .class_ 48), (0, u "java/lang/CharSequence$1CodePointIterator"), (10, .class_ 60), (0, u "java/lang/CharSequence$1CharIterator"), (5, .class_ 67), (0, u "java/lang/Object")] 63

/-- java/lang/CharSequence -/
def k8 : Class := { plain "java/lang/CharSequence" (some 0) with
  accessFlags := 1537
  interfaces := #[]
  cf := some (fileOf pool8 2 #[.nestMembers #[47, 59]] #[] 1537 66 #[] #[])
  fields := #[]
  methods := #[]
  instanceTypes := #[]
  staticTypes := #[]
  resolved := Array.replicate 131 none
  statics := none }

def pool9 : Array CpInfo := pool [(1, .class_ 2), (0, u "java/lang/constant/Constable"), (0, .class_ 4), (0, u "java/lang/Object")] 6

/-- java/lang/constant/Constable -/
def k9 : Class := { plain "java/lang/constant/Constable" (some 0) with
  accessFlags := 1537
  interfaces := #[]
  cf := some (fileOf pool9 1 #[] #[] 1537 3 #[] #[])
  fields := #[]
  methods := #[]
  instanceTypes := #[]
  staticTypes := #[]
  resolved := Array.replicate 11 none
  statics := none }

def pool10 : Array CpInfo := pool [(1, .class_ 2), (0, u "java/lang/constant/ConstantDesc"), (0, .class_ 4), (0, u "java/lang/Object")] 32

/-- java/lang/constant/ConstantDesc -/
def k10 : Class := { plain "java/lang/constant/ConstantDesc" (some 0) with
  accessFlags := 1537
  interfaces := #[]
  cf := some (fileOf pool10 1 #[] #[] 1537 3 #[] #[])
  fields := #[]
  methods := #[]
  instanceTypes := #[]
  staticTypes := #[]
  resolved := Array.replicate 37 none
  statics := none }

def pool11 : Array CpInfo := pool [(1, .methodref 2 3), (0, .class_ 4), (0, .nameAndType 5 6), (0, u "java/lang/Object"), (0, u "<init>"), (0, u "()V"), (0, .string 8), (0, u ""), (0, .fieldref 10 11), (0, .class_ 12), (0, .nameAndType 13 14), (0, u "java/lang/String"), (0, u "value"), (0, u "[B"), (0, .fieldref 10 16), (0, .nameAndType 17 18), (0, u "coder"), (0, u "B"), (2, u "hash"), (0, u "I"), (2, u "hashIsZero"), (0, u "Z"), (0, .methodref 10 28), (0, .nameAndType 5 29), (0, u "([CIILjava/lang/Void;)V"), (8, .fieldref 10 39), (0, .nameAndType 40 26), (0, u "COMPACT_STRINGS"), (1, .class_ 44), (1, u "java/lang/StringUTF16"), (0, u "compress"), (1, .methodref 42 48), (0, .nameAndType 49 50), (0, u "coderFromArrayLen"), (0, u "([BI)B"), (2, u "toBytes"), (53, .class_ 109), (1, u "java/lang/StringLatin1"), (67, .methodref 42 178), (0, .nameAndType 45 179), (0, u "([CII)[B"), (29, .methodref 10 210), (0, .nameAndType 5 211), (0, u "([BB)V"), (157, u "(C)Z"), (173, u "equals"), (29, u "(Ljava/lang/Object;)Z"), (1, .class_ 576), (0, u "java/lang/CharSequence"), (22, u "CASE_INSENSITIVE_ORDER"), (0, u "Ljava/util/Comparator;"), (181, u "valueOf"), (0, u "(C)Ljava/lang/String;"), (226, u "([C)V"), (4, .methodref 107 1016), (0, .nameAndType 1017 369), (0, u "canEncode"), (0, .methodref 107 1019), (0, .nameAndType 53 1020), (0, u "(C)[B"), (0, .methodref 42 1019), (79, u "serialPersistentFields"), (0, u "[Ljava/io/ObjectStreamField;"), (0, .class_ 1104), (0, u "java/lang/String$CaseInsensitiveComparator"), (1, .class_ 1107), (0, u "java/io/Serializable"), (0, .class_ 1109), (0, u "java/lang/Comparable"), (0, .class_ 1111), (0, u "java/lang/constant/Constable"), (0, .class_ 1113), (0, u "java/lang/constant/ConstantDesc"), (2, u "serialVersionUID"), (0, u "J"), (3, u "REPL"), (0, u "C"), (2, u "LATIN1"), (1, u "UTF16")] 323

def k11m0 : Method := { name := "<init>", desc := "()V", sig := { parameters := [], returnType := none }, accessFlags := 1, code := none }
def k11c1 : Code := { maxStack := 5, maxLocals := 2, code := jdk_42_method_3_code, exceptionTable := #[], attributes := #[] }
def k11m1 : Method := { name := "<init>", desc := "([C)V", sig := { parameters := [(.array .char)], returnType := none }, accessFlags := 1, code := some k11c1 }
def k11c2 : Code := { maxStack := 2, maxLocals := 3, code := jdk_42_method_66_code, exceptionTable := #[], attributes := #[] }
def k11m2 : Method := { name := "equals", desc := "(Ljava/lang/Object;)Z", sig := { parameters := [(.object "java/lang/Object")], returnType := some .boolean }, accessFlags := 1, code := some k11c2 }
def k11c3 : Code := { maxStack := 4, maxLocals := 1, code := jdk_42_method_139_code, exceptionTable := #[], attributes := #[] }
def k11m3 : Method := { name := "valueOf", desc := "(C)Ljava/lang/String;", sig := { parameters := [.char], returnType := some (.object "java/lang/String") }, accessFlags := 9, code := some k11c3 }
def k11c4 : Code := { maxStack := 4, maxLocals := 6, code := jdk_42_method_149_code, exceptionTable := #[], attributes := #[] }
def k11m4 : Method := { name := "<init>", desc := "([CIILjava/lang/Void;)V", sig := { parameters := [(.array .char), .int, .int, (.object "java/lang/Void")], returnType := none }, accessFlags := 2, code := some k11c4 }
def k11c5 : Code := { maxStack := 2, maxLocals := 3, code := jdk_42_method_151_code, exceptionTable := #[], attributes := #[] }
def k11m5 : Method := { name := "<init>", desc := "([BB)V", sig := { parameters := [(.array .byte), .byte], returnType := none }, accessFlags := 0, code := some k11c5 }
/-- java/lang/String -/
def k11 : Class := { plain "java/lang/String" (some 0) with
  accessFlags := 49
  interfaces := #[2, 7, 8, 9, 10]
  cf := some (fileOf pool11 10 #[.nestMembers #[1103]] #[{ accessFlags := 1, nameIndex := 5, descriptorIndex := 6, attributes := #[] }, { accessFlags := 1, nameIndex := 5, descriptorIndex := 1010, attributes := #[] }, { accessFlags := 1, nameIndex := 543, descriptorIndex := 573, attributes := #[] }, { accessFlags := 9, nameIndex := 782, descriptorIndex := 783, attributes := #[] }, { accessFlags := 2, nameIndex := 5, descriptorIndex := 29, attributes := #[] }, { accessFlags := 0, nameIndex := 5, descriptorIndex := 211, attributes := #[] }] 49 2 #[1106, 1108, 575, 1110, 1112] #[{ accessFlags := 18, nameIndex := 13, descriptorIndex := 14, attributes := #[] }, { accessFlags := 18, nameIndex := 17, descriptorIndex := 18, attributes := #[] }, { accessFlags := 2, nameIndex := 21, descriptorIndex := 22, attributes := #[] }, { accessFlags := 2, nameIndex := 25, descriptorIndex := 26, attributes := #[] }, { accessFlags := 26, nameIndex := 1116, descriptorIndex := 1117, attributes := #[] }, { accessFlags := 24, nameIndex := 40, descriptorIndex := 26, attributes := #[] }, { accessFlags := 26, nameIndex := 1101, descriptorIndex := 1102, attributes := #[] }, { accessFlags := 26, nameIndex := 1121, descriptorIndex := 1122, attributes := #[] }, { accessFlags := 25, nameIndex := 599, descriptorIndex := 600, attributes := #[] }, { accessFlags := 24, nameIndex := 1125, descriptorIndex := 18, attributes := #[] }, { accessFlags := 24, nameIndex := 1127, descriptorIndex := 18, attributes := #[] }])
  fields := #[{ name := "value", type := (.array .byte), accessFlags := 18, slot := 0, constantValue := 0 }, { name := "coder", type := .byte, accessFlags := 18, slot := 1, constantValue := 0 }, { name := "hash", type := .int, accessFlags := 2, slot := 2, constantValue := 0 }, { name := "hashIsZero", type := .boolean, accessFlags := 2, slot := 3, constantValue := 0 }, { name := "serialVersionUID", type := .long, accessFlags := 26, slot := 0, constantValue := 0 }, { name := "COMPACT_STRINGS", type := .boolean, accessFlags := 24, slot := 1, constantValue := 0 }, { name := "serialPersistentFields", type := (.array (.object "java/io/ObjectStreamField")), accessFlags := 26, slot := 2, constantValue := 0 }, { name := "REPL", type := .char, accessFlags := 26, slot := 3, constantValue := 0 }, { name := "CASE_INSENSITIVE_ORDER", type := (.object "java/util/Comparator"), accessFlags := 25, slot := 4, constantValue := 0 }, { name := "LATIN1", type := .byte, accessFlags := 24, slot := 5, constantValue := 0 }, { name := "UTF16", type := .byte, accessFlags := 24, slot := 6, constantValue := 0 }]
  methods := #[k11m0, k11m1, k11m2, k11m3, k11m4, k11m5]
  instanceTypes := #[(.array .byte), .byte, .int, .boolean]
  staticTypes := #[.long, .boolean, (.array (.object "java/io/ObjectStreamField")), .char, (.object "java/util/Comparator"), .byte, .byte]
  resolved := Array.replicate 1451 none
  statics := some 1 }

def pool12 : Array CpInfo := pool [(6, .class_ 8), (1, u "java/lang/Object"), (0, u "<init>"), (0, u "()V"), (0, .methodref 12 13), (0, .class_ 14), (0, .nameAndType 15 16), (0, u "java/lang/StringUTF16"), (0, u "newBytesLength"), (0, u "(I)I"), (3, .integer 1073741823), (23, .fieldref 12 45), (0, .nameAndType 46 47), (0, u "$assertionsDisabled"), (0, u "Z"), (11, .fieldref 12 60), (0, .nameAndType 61 62), (0, u "HI_BYTE_SHIFT"), (0, u "I"), (0, .fieldref 12 64), (0, .nameAndType 65 62), (0, u "LO_BYTE_SHIFT"), (5, .methodref 12 72), (0, .nameAndType 73 74), (0, u "getChar"), (0, u "([BI)C"), (32, .methodref 12 108), (0, .nameAndType 109 110), (0, u "newBytesFor"), (0, u "(I)[B"), (0, .methodref 12 112), (0, .nameAndType 113 114), (0, u "putChar"), (0, u "([BII)V"), (0, .methodref 12 116), (0, .nameAndType 117 118), (0, u "compress"), (0, u "([CI[BII)I"), (0, .methodref 12 120), (0, .nameAndType 121 122), (0, u "toBytes"), (0, u "([CII)[B"), (138, u "coderFromArrayLen"), (0, u "([BI)B"), (106, .class_ 371), (1, u "java/lang/StringUTF16$LinesSpliterator"), (58, u "MAX_LENGTH"), (44, u "(C)[B"), (151, .class_ 628), (0, u "java/lang/StringUTF16$CodePointsSpliterator"), (0, .class_ 630), (0, u "java/lang/StringUTF16$CharsSpliterator")] 4

def k12m0 : Method := { name := "<init>", desc := "()V", sig := { parameters := [], returnType := none }, accessFlags := 0, code := none }
def k12c1 : Code := { maxStack := 1, maxLocals := 1, code := jdk_52_method_2_code, exceptionTable := #[], attributes := #[] }
def k12m1 : Method := { name := "newBytesFor", desc := "(I)[B", sig := { parameters := [.int], returnType := some (.array .byte) }, accessFlags := 9, code := some k12c1 }
def k12c2 : Code := { maxStack := 4, maxLocals := 1, code := jdk_52_method_3_code, exceptionTable := #[], attributes := #[] }
def k12m2 : Method := { name := "newBytesLength", desc := "(I)I", sig := { parameters := [.int], returnType := some .int }, accessFlags := 9, code := some k12c2 }
def k12c3 : Code := { maxStack := 4, maxLocals := 3, code := jdk_52_method_4_code, exceptionTable := #[], attributes := #[] }
def k12m3 : Method := { name := "putChar", desc := "([BII)V", sig := { parameters := [(.array .byte), .int, .int], returnType := none }, accessFlags := 8, code := some k12c3 }
def k12c4 : Code := { maxStack := 3, maxLocals := 2, code := jdk_52_method_5_code, exceptionTable := #[], attributes := #[] }
def k12m4 : Method := { name := "getChar", desc := "([BI)C", sig := { parameters := [(.array .byte), .int], returnType := some .char }, accessFlags := 8, code := some k12c4 }
def k12c5 : Code := { maxStack := 4, maxLocals := 5, code := jdk_52_method_14_code, exceptionTable := #[], attributes := #[] }
def k12m5 : Method := { name := "toBytes", desc := "([CII)[B", sig := { parameters := [(.array .char), .int, .int], returnType := some (.array .byte) }, accessFlags := 9, code := some k12c5 }
def k12c6 : Code := { maxStack := 2, maxLocals := 2, code := jdk_52_method_15_code, exceptionTable := #[], attributes := #[] }
def k12m6 : Method := { name := "coderFromArrayLen", desc := "([BI)B", sig := { parameters := [(.array .byte), .int], returnType := some .byte }, accessFlags := 8, code := some k12c6 }
def k12c7 : Code := { maxStack := 5, maxLocals := 6, code := jdk_52_method_16_code, exceptionTable := #[], attributes := #[] }
def k12m7 : Method := { name := "compress", desc := "([CII)[B", sig := { parameters := [(.array .char), .int, .int], returnType := some (.array .byte) }, accessFlags := 9, code := some k12c7 }
def k12c8 : Code := { maxStack := 3, maxLocals := 7, code := jdk_52_method_21_code, exceptionTable := #[], attributes := #[] }
def k12m8 : Method := { name := "compress", desc := "([CI[BII)I", sig := { parameters := [(.array .char), .int, (.array .byte), .int, .int], returnType := some .int }, accessFlags := 9, code := some k12c8 }
def k12c9 : Code := { maxStack := 3, maxLocals := 2, code := jdk_52_method_24_code, exceptionTable := #[], attributes := #[] }
def k12m9 : Method := { name := "toBytes", desc := "(C)[B", sig := { parameters := [.char], returnType := some (.array .byte) }, accessFlags := 9, code := some k12c9 }
/-- java/lang/StringUTF16 -/
def k12 : Class := { plain "java/lang/StringUTF16" (some 0) with
  accessFlags := 48
  interfaces := #[]
  cf := some (fileOf pool12 12 #[.nestMembers #[627, 629, 369]] #[{ accessFlags := 0, nameIndex := 9, descriptorIndex := 10, attributes := #[] }, { accessFlags := 9, nameIndex := 109, descriptorIndex := 110, attributes := #[] }, { accessFlags := 9, nameIndex := 15, descriptorIndex := 16, attributes := #[] }, { accessFlags := 8, nameIndex := 113, descriptorIndex := 114, attributes := #[] }, { accessFlags := 8, nameIndex := 73, descriptorIndex := 74, attributes := #[] }, { accessFlags := 9, nameIndex := 121, descriptorIndex := 122, attributes := #[] }, { accessFlags := 8, nameIndex := 261, descriptorIndex := 262, attributes := #[] }, { accessFlags := 9, nameIndex := 117, descriptorIndex := 122, attributes := #[] }, { accessFlags := 9, nameIndex := 117, descriptorIndex := 118, attributes := #[] }, { accessFlags := 9, nameIndex := 121, descriptorIndex := 475, attributes := #[] }] 48 6 #[] #[{ accessFlags := 26, nameIndex := 61, descriptorIndex := 62, attributes := #[] }, { accessFlags := 26, nameIndex := 65, descriptorIndex := 62, attributes := #[] }, { accessFlags := 24, nameIndex := 430, descriptorIndex := 62, attributes := #[] }, { accessFlags := 4120, nameIndex := 46, descriptorIndex := 47, attributes := #[] }])
  fields := #[{ name := "HI_BYTE_SHIFT", type := .int, accessFlags := 26, slot := 0, constantValue := 0 }, { name := "LO_BYTE_SHIFT", type := .int, accessFlags := 26, slot := 1, constantValue := 0 }, { name := "MAX_LENGTH", type := .int, accessFlags := 24, slot := 2, constantValue := 0 }, { name := "$assertionsDisabled", type := .boolean, accessFlags := 4120, slot := 3, constantValue := 0 }]
  methods := #[k12m0, k12m1, k12m2, k12m3, k12m4, k12m5, k12m6, k12m7, k12m8, k12m9]
  instanceTypes := #[]
  staticTypes := #[.int, .int, .int, .boolean]
  resolved := Array.replicate 635 none
  statics := some 2 }

def pool13 : Array CpInfo := pool [(4, .class_ 6), (1, u "java/lang/Object"), (0, u "<init>"), (0, u "()V"), (5, .class_ 16), (1, u "java/lang/StringLatin1"), (73, u "canEncode"), (14, u "(C)Z"), (15, u "$assertionsDisabled"), (0, u "Z"), (98, .class_ 223), (1, u "java/lang/StringLatin1$LinesSpliterator"), (156, u "toBytes"), (1, u "(C)[B"), (7, .class_ 391), (0, u "java/lang/StringLatin1$CharsSpliterator")] 3

def k13m0 : Method := { name := "<init>", desc := "()V", sig := { parameters := [], returnType := none }, accessFlags := 0, code := none }
def k13c1 : Code := { maxStack := 2, maxLocals := 1, code := jdk_43_method_3_code, exceptionTable := #[], attributes := #[] }
def k13m1 : Method := { name := "canEncode", desc := "(C)Z", sig := { parameters := [.char], returnType := some .boolean }, accessFlags := 9, code := some k13c1 }
def k13c2 : Code := { maxStack := 4, maxLocals := 1, code := jdk_43_method_46_code, exceptionTable := #[], attributes := #[] }
def k13m2 : Method := { name := "toBytes", desc := "(C)[B", sig := { parameters := [.char], returnType := some (.array .byte) }, accessFlags := 9, code := some k13c2 }
/-- java/lang/StringLatin1 -/
def k13 : Class := { plain "java/lang/StringLatin1" (some 0) with
  accessFlags := 48
  interfaces := #[]
  cf := some (fileOf pool13 14 #[.nestMembers #[390, 221]] #[{ accessFlags := 0, nameIndex := 7, descriptorIndex := 8, attributes := #[] }, { accessFlags := 9, nameIndex := 90, descriptorIndex := 105, attributes := #[] }, { accessFlags := 9, nameIndex := 380, descriptorIndex := 382, attributes := #[] }] 48 4 #[] #[{ accessFlags := 4120, nameIndex := 121, descriptorIndex := 122, attributes := #[] }])
  fields := #[{ name := "$assertionsDisabled", type := .boolean, accessFlags := 4120, slot := 0, constantValue := 0 }]
  methods := #[k13m0, k13m1, k13m2]
  instanceTypes := #[]
  staticTypes := #[.boolean]
  resolved := Array.replicate 395 none
  statics := none }

def pool14 : Array CpInfo := pool [(2, .class_ 4), (1, u "java/lang/Object"), (0, u "<init>"), (0, u "()V"), (12, .class_ 20), (0, u "java/util/Collections"), (63, u "r"), (0, u "Ljava/util/Random;"), (80, .class_ 167), (0, u "java/util/Collections$UnmodifiableCollection"), (6, .class_ 175), (0, u "java/util/Collections$UnmodifiableSequencedCollection"), (6, .class_ 183), (0, u "java/util/Collections$UnmodifiableSet"), (6, .class_ 191), (0, u "java/util/Collections$UnmodifiableSequencedSet"), (6, .class_ 199), (0, u "java/util/Collections$UnmodifiableSortedSet"), (6, .class_ 207), (0, u "java/util/Collections$UnmodifiableNavigableSet"), (4, .class_ 213), (0, u "java/util/Collections$UnmodifiableList"), (1, .class_ 216), (0, u "java/util/Collections$UnmodifiableRandomAccessList"), (6, .class_ 224), (0, u "java/util/Collections$UnmodifiableMap"), (6, .class_ 232), (0, u "java/util/Collections$UnmodifiableSequencedMap"), (4, .class_ 238), (0, u "java/util/Collections$UnmodifiableSortedMap"), (6, .class_ 246), (0, u "java/util/Collections$UnmodifiableNavigableMap"), (3, .class_ 251), (0, u "java/util/Collections$SynchronizedCollection"), (4, .class_ 257), (0, u "java/util/Collections$SynchronizedSet"), (4, .class_ 263), (0, u "java/util/Collections$SynchronizedSortedSet"), (1, .class_ 266), (0, u "java/util/Collections$SynchronizedNavigableSet"), (1, .class_ 269), (0, u "java/util/Collections$SynchronizedRandomAccessList"), (1, .class_ 272), (0, u "java/util/Collections$SynchronizedList"), (5, .class_ 279), (0, u "java/util/Collections$SynchronizedMap"), (1, .class_ 282), (0, u "java/util/Collections$SynchronizedSortedMap"), (1, .class_ 285), (0, u "java/util/Collections$SynchronizedNavigableMap"), (1, .class_ 288), (0, u "java/util/Collections$CheckedCollection"), (11, .class_ 301), (0, u "java/util/Collections$CheckedQueue"), (3, .class_ 306), (0, u "java/util/Collections$CheckedSet"), (3, .class_ 311), (0, u "java/util/Collections$CheckedSortedSet"), (3, .class_ 316), (0, u "java/util/Collections$CheckedNavigableSet"), (3, .class_ 321), (0, u "java/util/Collections$CheckedRandomAccessList"), (3, .class_ 326), (0, u "java/util/Collections$CheckedList"), (1, .class_ 329), (0, u "java/util/Collections$CheckedMap"), (3, .class_ 334), (0, u "java/util/Collections$CheckedSortedMap"), (3, .class_ 339), (0, u "java/util/Collections$CheckedNavigableMap"), (4, .class_ 346), (1, u "java/util/Collections$EmptyIterator"), (3, .class_ 352), (1, u "java/util/Collections$EmptyListIterator"), (2, .class_ 357), (1, u "java/util/Collections$EmptyEnumeration"), (4, u "EMPTY_SET"), (0, u "Ljava/util/Set;"), (6, u "EMPTY_LIST"), (0, u "Ljava/util/List;"), (2, u "EMPTY_MAP"), (0, u "Ljava/util/Map;"), (4, .class_ 381), (0, u "java/util/Collections$SingletonSet"), (2, .class_ 385), (0, u "java/util/Collections$1"), (1, .class_ 388), (0, u "java/util/Collections$2"), (1, .class_ 391), (0, u "java/util/Collections$SingletonList"), (1, .class_ 394), (0, u "java/util/Collections$SingletonMap"), (22, .class_ 418), (0, u "java/util/Collections$CopiesList"), (4, .class_ 425), (1, u "java/util/Collections$ReverseComparator"), (8, .class_ 435), (0, u "java/util/Collections$ReverseComparator2"), (6, .class_ 443), (0, u "java/util/Collections$3"), (25, .class_ 470), (0, u "java/util/Collections$SetFromMap"), (2, .class_ 474), (0, u "java/util/Collections$SequencedSetFromMap"), (3, .class_ 479), (0, u "java/util/Collections$AsLIFOQueue"), (11, .class_ 492), (0, u "java/util/Collections$EmptySet"), (1, .class_ 495), (0, u "java/util/Collections$EmptyList"), (1, .class_ 498), (0, u "java/util/Collections$EmptyMap"), (1, u "BINARYSEARCH_THRESHOLD"), (0, u "I"), (2, u "REVERSE_THRESHOLD"), (1, u "SHUFFLE_THRESHOLD"), (1, u "FILL_THRESHOLD"), (1, u "ROTATE_THRESHOLD"), (1, u "COPY_THRESHOLD"), (1, u "REPLACEALL_THRESHOLD"), (1, u "INDEXOFSUBLIST_THRESHOLD"), (333, .class_ 851), (0, u "java/util/Collections$CheckedMap$CheckedEntrySet"), (0, .class_ 853), (0, u "java/util/Collections$CheckedMap$CheckedEntrySet$CheckedEntry"), (0, .class_ 855), (0, u "java/util/Collections$CheckedMap$CheckedEntrySet$1"), (0, .class_ 857), (0, u "java/util/Collections$CheckedList$1"), (0, .class_ 859), (0, u "java/util/Collections$CheckedCollection$1"), (0, .class_ 861), (0, u "java/util/Collections$UnmodifiableNavigableMap$EmptyNavigableMap"), (0, .class_ 863), (0, u "java/util/Collections$UnmodifiableMap$UnmodifiableEntrySet"), (0, .class_ 865), (0, u "java/util/Collections$UnmodifiableMap$UnmodifiableEntrySet$UnmodifiableEntry"), (0, .class_ 867), (0, u "java/util/Collections$UnmodifiableMap$UnmodifiableEntrySet$UnmodifiableEntrySetSpliterator"), (0, .class_ 869), (0, u "java/util/Collections$UnmodifiableMap$UnmodifiableEntrySet$1"), (0, .class_ 871), (0, u "java/util/Collections$UnmodifiableList$1"), (0, .class_ 873), (0, u "java/util/Collections$UnmodifiableNavigableSet$EmptyNavigableSet"), (0, .class_ 875), (0, u "java/util/Collections$UnmodifiableCollection$1")] 57

def k14m0 : Method := { name := "<init>", desc := "()V", sig := { parameters := [], returnType := none }, accessFlags := 2, code := none }
/-- java/util/Collections -/
def k14 : Class := { plain "java/util/Collections" (some 0) with
  accessFlags := 33
  interfaces := #[]
  cf := some (fileOf pool14 19 #[.nestMembers #[478, 473, 469, 434, 423, 417, 393, 390, 380, 497, 494, 491, 355, 350, 344, 338, 333, 328, 850, 852, 854, 320, 325, 856, 315, 310, 305, 300, 287, 858, 284, 281, 278, 268, 271, 265, 262, 256, 250, 245, 860, 237, 231, 223, 862, 864, 866, 868, 215, 212, 870, 206, 872, 198, 190, 182, 174, 166, 874, 442, 387, 384]] #[{ accessFlags := 2, nameIndex := 5, descriptorIndex := 6, attributes := #[] }] 33 2 #[] #[{ accessFlags := 26, nameIndex := 500, descriptorIndex := 501, attributes := #[] }, { accessFlags := 26, nameIndex := 504, descriptorIndex := 501, attributes := #[] }, { accessFlags := 26, nameIndex := 506, descriptorIndex := 501, attributes := #[] }, { accessFlags := 26, nameIndex := 508, descriptorIndex := 501, attributes := #[] }, { accessFlags := 26, nameIndex := 510, descriptorIndex := 501, attributes := #[] }, { accessFlags := 26, nameIndex := 512, descriptorIndex := 501, attributes := #[] }, { accessFlags := 26, nameIndex := 514, descriptorIndex := 501, attributes := #[] }, { accessFlags := 26, nameIndex := 516, descriptorIndex := 501, attributes := #[] }, { accessFlags := 10, nameIndex := 84, descriptorIndex := 85, attributes := #[] }, { accessFlags := 25, nameIndex := 362, descriptorIndex := 363, attributes := #[] }, { accessFlags := 25, nameIndex := 370, descriptorIndex := 371, attributes := #[] }, { accessFlags := 25, nameIndex := 374, descriptorIndex := 375, attributes := #[] }])
  fields := #[{ name := "BINARYSEARCH_THRESHOLD", type := .int, accessFlags := 26, slot := 0, constantValue := 0 }, { name := "REVERSE_THRESHOLD", type := .int, accessFlags := 26, slot := 1, constantValue := 0 }, { name := "SHUFFLE_THRESHOLD", type := .int, accessFlags := 26, slot := 2, constantValue := 0 }, { name := "FILL_THRESHOLD", type := .int, accessFlags := 26, slot := 3, constantValue := 0 }, { name := "ROTATE_THRESHOLD", type := .int, accessFlags := 26, slot := 4, constantValue := 0 }, { name := "COPY_THRESHOLD", type := .int, accessFlags := 26, slot := 5, constantValue := 0 }, { name := "REPLACEALL_THRESHOLD", type := .int, accessFlags := 26, slot := 6, constantValue := 0 }, { name := "INDEXOFSUBLIST_THRESHOLD", type := .int, accessFlags := 26, slot := 7, constantValue := 0 }, { name := "r", type := (.object "java/util/Random"), accessFlags := 10, slot := 8, constantValue := 0 }, { name := "EMPTY_SET", type := (.object "java/util/Set"), accessFlags := 25, slot := 9, constantValue := 0 }, { name := "EMPTY_LIST", type := (.object "java/util/List"), accessFlags := 25, slot := 10, constantValue := 0 }, { name := "EMPTY_MAP", type := (.object "java/util/Map"), accessFlags := 25, slot := 11, constantValue := 0 }]
  methods := #[k14m0]
  instanceTypes := #[]
  staticTypes := #[.int, .int, .int, .int, .int, .int, .int, .int, (.object "java/util/Random"), (.object "java/util/Set"), (.object "java/util/List"), (.object "java/util/Map")]
  resolved := Array.replicate 933 none
  statics := some 3 }

def pool15 : Array CpInfo := pool [(2, .class_ 4), (1, u "java/lang/Object"), (0, u "<init>"), (0, u "()V"), (17, .class_ 26), (1, u "jdk/internal/util/Preconditions"), (28, .class_ 56), (0, u "jdk/internal/util/Preconditions$4"), (57, .class_ 115), (0, u "jdk/internal/util/Preconditions$1"), (7, u "SIOOBE_FORMATTER"), (0, u "Ljava/util/function/BiFunction;"), (0, .class_ 126), (0, u "jdk/internal/util/Preconditions$2"), (3, u "AIOOBE_FORMATTER"), (0, .class_ 132), (0, u "jdk/internal/util/Preconditions$3"), (3, u "IOOBE_FORMATTER")] 57

def k15m0 : Method := { name := "<init>", desc := "()V", sig := { parameters := [], returnType := none }, accessFlags := 1, code := none }
/-- jdk/internal/util/Preconditions -/
def k15 : Class := { plain "jdk/internal/util/Preconditions" (some 0) with
  accessFlags := 33
  interfaces := #[]
  cf := some (fileOf pool15 24 #[.nestMembers #[55, 131, 125, 114]] #[{ accessFlags := 1, nameIndex := 5, descriptorIndex := 6, attributes := #[] }] 33 2 #[] #[{ accessFlags := 25, nameIndex := 123, descriptorIndex := 124, attributes := #[] }, { accessFlags := 25, nameIndex := 130, descriptorIndex := 124, attributes := #[] }, { accessFlags := 25, nameIndex := 136, descriptorIndex := 124, attributes := #[] }])
  fields := #[{ name := "SIOOBE_FORMATTER", type := (.object "java/util/function/BiFunction"), accessFlags := 25, slot := 0, constantValue := 0 }, { name := "AIOOBE_FORMATTER", type := (.object "java/util/function/BiFunction"), accessFlags := 25, slot := 1, constantValue := 0 }, { name := "IOOBE_FORMATTER", type := (.object "java/util/function/BiFunction"), accessFlags := 25, slot := 2, constantValue := 0 }]
  methods := #[k15m0]
  instanceTypes := #[]
  staticTypes := #[(.object "java/util/function/BiFunction"), (.object "java/util/function/BiFunction"), (.object "java/util/function/BiFunction")]
  resolved := Array.replicate 194 none
  statics := some 4 }

def pool16 : Array CpInfo := pool [(9, u "<init>"), (6, .class_ 18), (1, u "java/lang/Object"), (0, u "()V"), (1, .class_ 23), (1, u "jdk/internal/util/ArraysSupport"), (0, u "LOG2_ARRAY_LONG_INDEX_SCALE"), (0, u "I"), (2, u "U"), (0, u "Ljdk/internal/misc/Unsafe;"), (8, u "BIG_ENDIAN"), (0, u "Z"), (8, u "LOG2_BYTE_BIT_SIZE"), (4, u "LOG2_ARRAY_INT_INDEX_SCALE"), (54, u "JLA"), (0, u "Ljdk/internal/access/JavaLangAccess;"), (11, u "LOG2_ARRAY_BOOLEAN_INDEX_SCALE"), (9, u "LOG2_ARRAY_BYTE_INDEX_SCALE"), (5, u "LOG2_ARRAY_CHAR_INDEX_SCALE"), (5, u "LOG2_ARRAY_SHORT_INDEX_SCALE"), (18, u "LOG2_ARRAY_FLOAT_INDEX_SCALE"), (24, u "LOG2_ARRAY_DOUBLE_INDEX_SCALE"), (89, u "T_BOOLEAN"), (2, u "T_CHAR"), (1, u "T_FLOAT"), (1, u "T_DOUBLE"), (1, u "T_BYTE"), (1, u "T_SHORT"), (1, u "T_INT"), (1, u "T_LONG"), (1, u "SOFT_MAX_ARRAY_LENGTH")] 83

def k16m0 : Method := { name := "<init>", desc := "()V", sig := { parameters := [], returnType := none }, accessFlags := 2, code := none }
/-- jdk/internal/util/ArraysSupport -/
def k16 : Class := { plain "jdk/internal/util/ArraysSupport" (some 0) with
  accessFlags := 33
  interfaces := #[]
  cf := some (fileOf pool16 21 #[] #[{ accessFlags := 2, nameIndex := 9, descriptorIndex := 19, attributes := #[] }] 33 16 #[] #[{ accessFlags := 24, nameIndex := 28, descriptorIndex := 29, attributes := #[] }, { accessFlags := 26, nameIndex := 38, descriptorIndex := 39, attributes := #[] }, { accessFlags := 25, nameIndex := 121, descriptorIndex := 25, attributes := #[] }, { accessFlags := 25, nameIndex := 131, descriptorIndex := 25, attributes := #[] }, { accessFlags := 25, nameIndex := 137, descriptorIndex := 25, attributes := #[] }, { accessFlags := 25, nameIndex := 143, descriptorIndex := 25, attributes := #[] }, { accessFlags := 25, nameIndex := 53, descriptorIndex := 25, attributes := #[] }, { accessFlags := 25, nameIndex := 24, descriptorIndex := 25, attributes := #[] }, { accessFlags := 25, nameIndex := 162, descriptorIndex := 25, attributes := #[] }, { accessFlags := 25, nameIndex := 187, descriptorIndex := 25, attributes := #[] }, { accessFlags := 26, nameIndex := 48, descriptorIndex := 25, attributes := #[] }, { accessFlags := 25, nameIndex := 277, descriptorIndex := 25, attributes := #[] }, { accessFlags := 25, nameIndex := 280, descriptorIndex := 25, attributes := #[] }, { accessFlags := 25, nameIndex := 282, descriptorIndex := 25, attributes := #[] }, { accessFlags := 25, nameIndex := 284, descriptorIndex := 25, attributes := #[] }, { accessFlags := 25, nameIndex := 286, descriptorIndex := 25, attributes := #[] }, { accessFlags := 25, nameIndex := 288, descriptorIndex := 25, attributes := #[] }, { accessFlags := 25, nameIndex := 290, descriptorIndex := 25, attributes := #[] }, { accessFlags := 25, nameIndex := 292, descriptorIndex := 25, attributes := #[] }, { accessFlags := 26, nameIndex := 108, descriptorIndex := 109, attributes := #[] }, { accessFlags := 25, nameIndex := 294, descriptorIndex := 25, attributes := #[] }])
  fields := #[{ name := "U", type := (.object "jdk/internal/misc/Unsafe"), accessFlags := 24, slot := 0, constantValue := 0 }, { name := "BIG_ENDIAN", type := .boolean, accessFlags := 26, slot := 1, constantValue := 0 }, { name := "LOG2_ARRAY_BOOLEAN_INDEX_SCALE", type := .int, accessFlags := 25, slot := 2, constantValue := 0 }, { name := "LOG2_ARRAY_BYTE_INDEX_SCALE", type := .int, accessFlags := 25, slot := 3, constantValue := 0 }, { name := "LOG2_ARRAY_CHAR_INDEX_SCALE", type := .int, accessFlags := 25, slot := 4, constantValue := 0 }, { name := "LOG2_ARRAY_SHORT_INDEX_SCALE", type := .int, accessFlags := 25, slot := 5, constantValue := 0 }, { name := "LOG2_ARRAY_INT_INDEX_SCALE", type := .int, accessFlags := 25, slot := 6, constantValue := 0 }, { name := "LOG2_ARRAY_LONG_INDEX_SCALE", type := .int, accessFlags := 25, slot := 7, constantValue := 0 }, { name := "LOG2_ARRAY_FLOAT_INDEX_SCALE", type := .int, accessFlags := 25, slot := 8, constantValue := 0 }, { name := "LOG2_ARRAY_DOUBLE_INDEX_SCALE", type := .int, accessFlags := 25, slot := 9, constantValue := 0 }, { name := "LOG2_BYTE_BIT_SIZE", type := .int, accessFlags := 26, slot := 10, constantValue := 0 }, { name := "T_BOOLEAN", type := .int, accessFlags := 25, slot := 11, constantValue := 0 }, { name := "T_CHAR", type := .int, accessFlags := 25, slot := 12, constantValue := 0 }, { name := "T_FLOAT", type := .int, accessFlags := 25, slot := 13, constantValue := 0 }, { name := "T_DOUBLE", type := .int, accessFlags := 25, slot := 14, constantValue := 0 }, { name := "T_BYTE", type := .int, accessFlags := 25, slot := 15, constantValue := 0 }, { name := "T_SHORT", type := .int, accessFlags := 25, slot := 16, constantValue := 0 }, { name := "T_INT", type := .int, accessFlags := 25, slot := 17, constantValue := 0 }, { name := "T_LONG", type := .int, accessFlags := 25, slot := 18, constantValue := 0 }, { name := "JLA", type := (.object "jdk/internal/access/JavaLangAccess"), accessFlags := 26, slot := 19, constantValue := 0 }, { name := "SOFT_MAX_ARRAY_LENGTH", type := .int, accessFlags := 25, slot := 20, constantValue := 0 }]
  methods := #[k16m0]
  instanceTypes := #[]
  staticTypes := #[(.object "jdk/internal/misc/Unsafe"), .boolean, .int, .int, .int, .int, .int, .int, .int, .int, .int, .int, .int, .int, .int, .int, .int, .int, .int, (.object "jdk/internal/access/JavaLangAccess"), .int]
  resolved := Array.replicate 378 none
  statics := none }

def pool17 : Array CpInfo := pool [(8, .class_ 10), (1, u "java/lang/Iterable"), (24, .class_ 36), (0, u "java/lang/Object")] 25

/-- java/lang/Iterable -/
def k17 : Class := { plain "java/lang/Iterable" (some 0) with
  accessFlags := 1537
  interfaces := #[]
  cf := some (fileOf pool17 8 #[] #[] 1537 35 #[] #[])
  fields := #[]
  methods := #[]
  instanceTypes := #[]
  staticTypes := #[]
  resolved := Array.replicate 62 none
  statics := none }

def pool18 : Array CpInfo := pool [(10, .class_ 12), (1, u "java/util/Collection"), (47, .class_ 61), (0, u "java/lang/Object"), (0, .class_ 63), (0, u "java/lang/Iterable")] 51

/-- java/util/Collection -/
def k18 : Class := { plain "java/util/Collection" (some 0) with
  accessFlags := 1537
  interfaces := #[17]
  cf := some (fileOf pool18 10 #[] #[] 1537 60 #[62] #[])
  fields := #[]
  methods := #[]
  instanceTypes := #[]
  staticTypes := #[]
  resolved := Array.replicate 115 none
  statics := none }

def pool19 : Array CpInfo := pool [(2, .class_ 4), (1, u "java/lang/Object"), (0, u "<init>"), (0, u "()V"), (1, .class_ 10), (1, u "java/util/AbstractCollection"), (66, .class_ 78), (0, u "java/util/Collection")] 81

def k19m0 : Method := { name := "<init>", desc := "()V", sig := { parameters := [], returnType := none }, accessFlags := 4, code := none }
/-- java/util/AbstractCollection -/
def k19 : Class := { plain "java/util/AbstractCollection" (some 0) with
  accessFlags := 1057
  interfaces := #[18]
  cf := some (fileOf pool19 8 #[] #[{ accessFlags := 4, nameIndex := 5, descriptorIndex := 6, attributes := #[] }] 1057 2 #[77] #[])
  fields := #[]
  methods := #[k19m0]
  instanceTypes := #[]
  staticTypes := #[]
  resolved := Array.replicate 160 none
  statics := none }

def pool20 : Array CpInfo := pool [(8, .class_ 10), (1, u "java/util/SequencedCollection"), (15, .class_ 27), (0, u "java/lang/Object"), (0, .class_ 29), (0, u "java/util/Collection")] 27

/-- java/util/SequencedCollection -/
def k20 : Class := { plain "java/util/SequencedCollection" (some 0) with
  accessFlags := 1537
  interfaces := #[18]
  cf := some (fileOf pool20 8 #[] #[] 1537 26 #[28] #[])
  fields := #[]
  methods := #[]
  instanceTypes := #[]
  staticTypes := #[]
  resolved := Array.replicate 57 none
  statics := none }

def pool21 : Array CpInfo := pool [(8, .class_ 10), (1, u "java/util/List"), (92, .class_ 104), (0, u "java/lang/Object"), (15, .class_ 121), (0, u "java/util/SequencedCollection")] 129

/-- java/util/List -/
def k21 : Class := { plain "java/util/List" (some 0) with
  accessFlags := 1537
  interfaces := #[20]
  cf := some (fileOf pool21 8 #[] #[] 1537 103 #[120] #[])
  fields := #[]
  methods := #[]
  instanceTypes := #[]
  staticTypes := #[]
  resolved := Array.replicate 251 none
  statics := none }

def pool22 : Array CpInfo := pool [(2, .class_ 4), (1, u "java/util/AbstractCollection"), (0, u "<init>"), (0, u "()V"), (1, .class_ 10), (1, u "java/util/AbstractList"), (0, u "modCount"), (0, u "I"), (64, .class_ 78), (0, u "java/util/AbstractList$Itr"), (3, .class_ 83), (0, u "java/util/AbstractList$ListItr"), (9, .class_ 94), (0, u "java/util/AbstractList$RandomAccessSubList"), (3, .class_ 99), (0, u "java/util/AbstractList$SubList"), (33, .class_ 134), (0, u "java/util/List"), (73, .class_ 209), (0, u "java/util/AbstractList$SubList$1"), (0, .class_ 211), (0, u "java/util/AbstractList$RandomAccessSpliterator")] 6

def k22m0 : Method := { name := "<init>", desc := "()V", sig := { parameters := [], returnType := none }, accessFlags := 4, code := none }
/-- java/util/AbstractList -/
def k22 : Class := { plain "java/util/AbstractList" (some 19) with
  accessFlags := 1057
  interfaces := #[21]
  cf := some (fileOf pool22 8 #[.nestMembers #[93, 98, 208, 210, 82, 77]] #[{ accessFlags := 4, nameIndex := 5, descriptorIndex := 6, attributes := #[] }] 1057 2 #[133] #[{ accessFlags := 132, nameIndex := 11, descriptorIndex := 12, attributes := #[] }])
  fields := #[{ name := "modCount", type := .int, accessFlags := 132, slot := 0, constantValue := 0 }]
  methods := #[k22m0]
  instanceTypes := #[.int]
  staticTypes := #[]
  resolved := Array.replicate 218 none
  statics := none }

def pool23 : Array CpInfo := pool [(1, .class_ 2), (0, u "java/util/RandomAccess"), (0, .class_ 4), (0, u "java/lang/Object")] 2

/-- java/util/RandomAccess -/
def k23 : Class := { plain "java/util/RandomAccess" (some 0) with
  accessFlags := 1537
  interfaces := #[]
  cf := some (fileOf pool23 1 #[] #[] 1537 3 #[] #[])
  fields := #[]
  methods := #[]
  instanceTypes := #[]
  staticTypes := #[]
  resolved := Array.replicate 7 none
  statics := none }

def pool24 : Array CpInfo := pool [(2, .class_ 4), (1, u "java/util/AbstractList"), (0, u "<init>"), (0, u "()V"), (1, .class_ 10), (1, u "java/util/Collections"), (54, .class_ 66), (0, u "java/util/Collections$EmptyList"), (0, .class_ 68), (0, u "java/util/RandomAccess"), (0, .class_ 70), (0, u "java/io/Serializable"), (0, u "serialVersionUID"), (0, u "J")] 77

def k24m0 : Method := { name := "<init>", desc := "()V", sig := { parameters := [], returnType := none }, accessFlags := 2, code := none }
/-- java/util/Collections$EmptyList -/
def k24 : Class := { plain "java/util/Collections$EmptyList" (some 22) with
  accessFlags := 32
  interfaces := #[23, 2]
  cf := some (fileOf pool24 65 #[.nestHost 8] #[{ accessFlags := 2, nameIndex := 5, descriptorIndex := 6, attributes := #[] }] 32 2 #[67, 69] #[{ accessFlags := 26, nameIndex := 71, descriptorIndex := 72, attributes := #[] }])
  fields := #[{ name := "serialVersionUID", type := .long, accessFlags := 26, slot := 0, constantValue := 0 }]
  methods := #[k24m0]
  instanceTypes := #[.int]
  staticTypes := #[.long]
  resolved := Array.replicate 150 none
  statics := none }

def pool25 : Array CpInfo := pool [(2, .class_ 4), (1, u "java/lang/StackTraceElement"), (0, u "<init>"), (2, .class_ 10), (1, u "java/lang/Object"), (0, u "()V"), (2, u "format"), (0, u "B"), (2, u "classLoaderName"), (0, u "Ljava/lang/String;"), (2, u "moduleName"), (2, u "moduleVersion"), (12, u "declaringClass"), (4, u "methodName"), (2, u "fileName"), (2, u "lineNumber"), (0, u "I"), (65, u "declaringClassObject"), (0, u "Ljava/lang/Class;"), (33, .class_ 153), (1, u "java/lang/StackTraceElement$HashedModules"), (17, .class_ 172), (0, u "java/io/Serializable"), (0, u "NATIVE_METHOD"), (1, u "UNKNOWN_SOURCE"), (2, u "BUILTIN_CLASS_LOADER"), (1, u "JDK_NON_UPGRADEABLE_MODULE"), (1, u "serialVersionUID"), (0, u "J")] 51

def k25m0 : Method := { name := "<init>", desc := "()V", sig := { parameters := [], returnType := none }, accessFlags := 2, code := none }
/-- java/lang/StackTraceElement -/
def k25 : Class := { plain "java/lang/StackTraceElement" (some 0) with
  accessFlags := 49
  interfaces := #[2]
  cf := some (fileOf pool25 2 #[.nestMembers #[151]] #[{ accessFlags := 2, nameIndex := 5, descriptorIndex := 11, attributes := #[] }] 49 8 #[171] #[{ accessFlags := 26, nameIndex := 173, descriptorIndex := 19, attributes := #[] }, { accessFlags := 26, nameIndex := 175, descriptorIndex := 19, attributes := #[] }, { accessFlags := 130, nameIndex := 116, descriptorIndex := 117, attributes := #[] }, { accessFlags := 2, nameIndex := 18, descriptorIndex := 19, attributes := #[] }, { accessFlags := 2, nameIndex := 22, descriptorIndex := 19, attributes := #[] }, { accessFlags := 2, nameIndex := 25, descriptorIndex := 19, attributes := #[] }, { accessFlags := 2, nameIndex := 38, descriptorIndex := 19, attributes := #[] }, { accessFlags := 2, nameIndex := 43, descriptorIndex := 19, attributes := #[] }, { accessFlags := 2, nameIndex := 46, descriptorIndex := 19, attributes := #[] }, { accessFlags := 2, nameIndex := 49, descriptorIndex := 50, attributes := #[] }, { accessFlags := 2, nameIndex := 14, descriptorIndex := 15, attributes := #[] }, { accessFlags := 26, nameIndex := 178, descriptorIndex := 15, attributes := #[] }, { accessFlags := 26, nameIndex := 180, descriptorIndex := 15, attributes := #[] }, { accessFlags := 26, nameIndex := 182, descriptorIndex := 183, attributes := #[] }])
  fields := #[{ name := "NATIVE_METHOD", type := (.object "java/lang/String"), accessFlags := 26, slot := 0, constantValue := 0 }, { name := "UNKNOWN_SOURCE", type := (.object "java/lang/String"), accessFlags := 26, slot := 1, constantValue := 0 }, { name := "declaringClassObject", type := (.object "java/lang/Class"), accessFlags := 130, slot := 0, constantValue := 0 }, { name := "classLoaderName", type := (.object "java/lang/String"), accessFlags := 2, slot := 1, constantValue := 0 }, { name := "moduleName", type := (.object "java/lang/String"), accessFlags := 2, slot := 2, constantValue := 0 }, { name := "moduleVersion", type := (.object "java/lang/String"), accessFlags := 2, slot := 3, constantValue := 0 }, { name := "declaringClass", type := (.object "java/lang/String"), accessFlags := 2, slot := 4, constantValue := 0 }, { name := "methodName", type := (.object "java/lang/String"), accessFlags := 2, slot := 5, constantValue := 0 }, { name := "fileName", type := (.object "java/lang/String"), accessFlags := 2, slot := 6, constantValue := 0 }, { name := "lineNumber", type := .int, accessFlags := 2, slot := 7, constantValue := 0 }, { name := "format", type := .byte, accessFlags := 2, slot := 8, constantValue := 0 }, { name := "BUILTIN_CLASS_LOADER", type := .byte, accessFlags := 26, slot := 2, constantValue := 0 }, { name := "JDK_NON_UPGRADEABLE_MODULE", type := .byte, accessFlags := 26, slot := 3, constantValue := 0 }, { name := "serialVersionUID", type := .long, accessFlags := 26, slot := 4, constantValue := 0 }]
  methods := #[k25m0]
  instanceTypes := #[(.object "java/lang/Class"), (.object "java/lang/String"), (.object "java/lang/String"), (.object "java/lang/String"), (.object "java/lang/String"), (.object "java/lang/String"), (.object "java/lang/String"), .int, .byte]
  staticTypes := #[(.object "java/lang/String"), (.object "java/lang/String"), .byte, .byte, .long]
  resolved := Array.replicate 235 none
  statics := none }

def pool26 : Array CpInfo := pool [(1, u "java/lang/Cloneable"), (0, .class_ 1), (0, u "java/lang/Object"), (0, .class_ 3)] 3

/-- java/lang/Cloneable -/
def k26 : Class := { plain "java/lang/Cloneable" (some 0) with
  accessFlags := 1537
  interfaces := #[]
  cf := some (fileOf pool26 2 #[] #[] 1537 4 #[] #[])
  fields := #[]
  methods := #[]
  instanceTypes := #[]
  staticTypes := #[]
  resolved := Array.replicate 8 none
  statics := none }

/-- the primitive byte -/
def k27 : Class := { plain "byte" none with kind := .primitive 'B', accessFlags := 0x411 }
/-- [B -/
def k28 : Class := { plain "[B" (some 0) with kind := .array 27 .byte, interfaces := #[26, 2], accessFlags := 1041 }

/-- the primitive char -/
def k29 : Class := { plain "char" none with kind := .primitive 'C', accessFlags := 0x411 }
/-- [C -/
def k30 : Class := { plain "[C" (some 0) with kind := .array 29 .char, interfaces := #[26, 2], accessFlags := 1041 }

/-- the primitive int -/
def k31 : Class := { plain "int" none with kind := .primitive 'I', accessFlags := 0x411 }
/-- [I -/
def k32 : Class := { plain "[I" (some 0) with kind := .array 31 .int, interfaces := #[26, 2], accessFlags := 1041 }

/-- [Ljava/lang/Object; -/
def k33 : Class := { plain "[Ljava/lang/Object;" (some 0) with kind := .array 0 (.object "java/lang/Object"), interfaces := #[26, 2], accessFlags := 1041 }

/-- [Ljava/lang/StackTraceElement; -/
def k34 : Class := { plain "[Ljava/lang/StackTraceElement;" (some 0) with kind := .array 25 (.object "java/lang/StackTraceElement"), interfaces := #[26, 2], accessFlags := 1041 }

/-- [Ljava/lang/Throwable; -/
def k35 : Class := { plain "[Ljava/lang/Throwable;" (some 0) with kind := .array 3 (.object "java/lang/Throwable"), interfaces := #[26, 2], accessFlags := 1041 }

def heap : Heap := #[{ cls := 3, slots := #[.long 0, .ref 5, .ref 6, .null, .null, .null, .null, .ref 7, .int 1], vm := .statics 3 },
  { cls := 11, slots := #[.long 0, .int 1, .null, .int 0, .null, .int 0, .int 0], vm := .statics 11 },
  { cls := 12, slots := #[.int 0, .int 8, .int 0, .int 1], vm := .statics 12 },
  { cls := 14, slots := #[.int 0, .int 0, .int 0, .int 0, .int 0, .int 0, .int 0, .int 0, .null, .null, .ref 6, .null], vm := .statics 14 },
  { cls := 15, slots := #[.null, .null, .null], vm := .statics 15 },
  { cls := 34, slots := #[], vm := .none },
  { cls := 24, slots := #[.int 0], vm := .none },
  { cls := 35, slots := #[], vm := .none }]
def classes : Array Class := #[k0, k1, k2, k3, k4, k5, k6, k7, k8, k9, k10, k11, k12, k13, k14, k15, k16, k17, k18, k19, k20, k21, k22, k23, k24, k25, k26, k27, k28, k29, k30, k31, k32, k33, k34, k35]
def interned : List (Array UInt16 × Addr) := []
def slotsUsed : Nat := 36
def theMethod : MethodId := ⟨1, 2⟩
def args0 : Array Value := #[.int 5, .int 1, .int 3, .int 4]
def aboutOver (below : List Frame) : State where
  vm := { classes := classes, interned := interned.toArray }
  heap := heap
  slotsUsed := slotsUsed
  threads := #[{ frames := .invoking theMethod args0 :: below }]
def below0 : List Frame := [.native { method := ⟨0, 0⟩, args := #[] }]
def about1 : State := aboutOver below0
def p0 : Program := .bare "" "" ""
def e0 : Env := launch0.env 0 0 0
theorem w_frames : about1.frames = Frame.invoking theMethod args0 :: below0 := rfl
set_option maxRecDepth 65536 in
theorem w_args : argsFit about1.vm theMethod args0 = true := by decide +kernel
set_option maxRecDepth 65536 in
theorem w_heap : heapFits about1 = true := by decide +kernel
set_option maxRecDepth 65536 in
theorem w_runnable : about1.curStatus? = some .runnable := by decide +kernel
set_option maxRecDepth 65536 in
theorem w_alone : about1.alone = true := by decide +kernel
set_option maxRecDepth 65536 in
theorem w_named : about1.methodNamed? x = some theMethod := by decide +kernel
set_option maxRecDepth 65536 in
theorem w_hears : about1.hears theMethod below0 = true := by decide +kernel
set_option maxRecDepth 65536 in
theorem w_ripe : about1.ripe theMethod args0 below0 = true := by decide +kernel
theorem w_running : about1.status = .running := rfl
set_option maxRecDepth 65536 in
theorem w_room : about1.hasRoom e0.platform room_1 = true :=
  launch0.hasRoom_least _ room_1 (by decide +kernel) (by decide +kernel) (by decide +kernel) (by decide +kernel) (by decide +kernel) (by decide +kernel)
theorem allAtoms_all (ts : List Jvm.Cond) (a : Array Jvm.Value) (st : Jvm.State) : (allAtoms ts).before a st = ts.all (fun c => c.before a st) := by
  induction ts with
  | nil => rfl
  | cons c t ih =>
    show (Jvm.Cond.and c (allAtoms t)).before a st = _
    rw [Jvm.Cond.before_and, ih, List.all_cons]
def words1 : List Jvm.Cond := Jvm.Cond.code x code maxLocals ret :: tables_1
/-- a 'code' word, met by the world's own term for the bytes: nothing is compared byte by byte -/
theorem code_word {y : MethodName} {bytes : ByteArray} {mx : Nat} {rt : Option FieldType} {a : Array Value} {s : State} {m : MethodId} {meth : Method} {c : Code} (h1 : s.methodNamed? y = some m) (h2 : s.vm.method? m = some meth) (h3 : meth.code = some c) (h4 : c.code = bytes)
    (h5 : (c.maxLocals == mx && c.exceptionTable.isEmpty && decide (c.maxStack ≤ mostOperands) && decide (meth.sig.returnType = rt) && !meth.locks && decide (parseMethodDescriptor y.desc = some meth.sig)) = true) : (Jvm.Cond.code y bytes mx rt).before a s = true := by
  simp only [Bool.and_eq_true, beq_iff_eq, Bool.not_eq_true', decide_eq_true_eq] at h5
  obtain ⟨⟨⟨⟨⟨g1, g2⟩, g3⟩, g4⟩, g5⟩, g6⟩ := h5
  simp [Cond.before, Cond.holds, Cond.value, h1, h2, h3, h4, g1, g2, g3, g4, g5, g6]
def isCode : Jvm.Cond → Bool
  | .code _ _ _ _ => true
  | _ => false
theorem all_split {L : List Jvm.Cond} {P : Jvm.Cond → Bool} (h1 : L.all (fun c => isCode c || P c) = true) (h2 : ∀ c ∈ L.filter isCode, P c = true) : L.all P = true := by
  refine List.all_eq_true.mpr fun c hc => ?_
  have h := List.all_eq_true.mp h1 c hc
  rcases Bool.eq_false_or_eq_true (isCode c) with hi | hi
  · exact h2 c (List.mem_filter.mpr ⟨hc, hi⟩)
  · simpa [hi] using h
set_option maxRecDepth 65536 in
theorem w_c0 : (Jvm.Cond.code x code maxLocals ret).before args0 about1 = true := code_word (m := ⟨1, 2⟩) (meth := k1m2) (c := k1c2) (by decide +kernel) rfl rfl rfl (by decide +kernel)
set_option maxRecDepth 65536 in
theorem w_c1 : (Jvm.Cond.code ({ cls := "com/example/postpone/postpone/ApiExceptionConflictPinLaw", name := "draw", desc := "(IIII)Ljava/lang/String;" } : Jvm.MethodName) method_2_code (8 : Nat) (Option.some (Jvm.ClassFile.FieldType.object "java/lang/String"))).before args0 about1 = true := code_word (m := ⟨1, 1⟩) (meth := k1m1) (c := k1c1) (by decide +kernel) rfl rfl rfl (by decide +kernel)
set_option maxRecDepth 65536 in
theorem w_c2 : (Jvm.Cond.code ({ cls := "com/example/postpone/postpone/ApiException", name := "conflict", desc := "(Ljava/lang/String;)Lcom/example/postpone/postpone/ApiException;" } : Jvm.MethodName) prog_1_method_4_code (1 : Nat) (Option.some (Jvm.ClassFile.FieldType.object "com/example/postpone/postpone/ApiException"))).before args0 about1 = true := code_word (m := ⟨6, 1⟩) (meth := k6m1) (c := k6c1) (by decide +kernel) rfl rfl rfl (by decide +kernel)
set_option maxRecDepth 65536 in
theorem w_c3 : (Jvm.Cond.code ({ cls := "com/example/postpone/postpone/ApiException", name := "<init>", desc := "(ILjava/lang/String;)V" } : Jvm.MethodName) prog_1_method_1_code (3 : Nat) (Option.none : Option Jvm.ClassFile.FieldType)).before args0 about1 = true := code_word (m := ⟨6, 0⟩) (meth := k6m0) (c := k6c0) (by decide +kernel) rfl rfl rfl (by decide +kernel)
set_option maxRecDepth 65536 in
theorem w_c4 : (Jvm.Cond.code ({ cls := "java/lang/RuntimeException", name := "<init>", desc := "(Ljava/lang/String;)V" } : Jvm.MethodName) jdk_58_method_2_code (2 : Nat) (Option.none : Option Jvm.ClassFile.FieldType)).before args0 about1 = true := code_word (m := ⟨5, 1⟩) (meth := k5m1) (c := k5c1) (by decide +kernel) rfl rfl rfl (by decide +kernel)
set_option maxRecDepth 65536 in
theorem w_c5 : (Jvm.Cond.code ({ cls := "java/lang/Exception", name := "<init>", desc := "(Ljava/lang/String;)V" } : Jvm.MethodName) jdk_59_method_2_code (2 : Nat) (Option.none : Option Jvm.ClassFile.FieldType)).before args0 about1 = true := code_word (m := ⟨4, 1⟩) (meth := k4m1) (c := k4c1) (by decide +kernel) rfl rfl rfl (by decide +kernel)
set_option maxRecDepth 65536 in
theorem w_c6 : (Jvm.Cond.code ({ cls := "java/lang/Throwable", name := "<init>", desc := "(Ljava/lang/String;)V" } : Jvm.MethodName) jdk_78_method_2_code (2 : Nat) (Option.none : Option Jvm.ClassFile.FieldType)).before args0 about1 = true := code_word (m := ⟨3, 1⟩) (meth := k3m1) (c := k3c1) (by decide +kernel) rfl rfl rfl (by decide +kernel)
set_option maxRecDepth 65536 in
theorem w_c7 : (Jvm.Cond.code ({ cls := "java/lang/Object", name := "<init>", desc := "()V" } : Jvm.MethodName) object_method_1_code (1 : Nat) (Option.none : Option Jvm.ClassFile.FieldType)).before args0 about1 = true := code_word (m := ⟨0, 0⟩) (meth := k0m0) (c := k0c0) (by decide +kernel) rfl rfl rfl (by decide +kernel)
set_option maxRecDepth 65536 in
theorem w_c8 : (Jvm.Cond.code ({ cls := "java/lang/Throwable", name := "<init>", desc := "()V" } : Jvm.MethodName) jdk_78_method_1_code (1 : Nat) (Option.none : Option Jvm.ClassFile.FieldType)).before args0 about1 = true := code_word (m := ⟨3, 0⟩) (meth := k3m0) (c := k3c0) (by decide +kernel) rfl rfl rfl (by decide +kernel)
set_option maxRecDepth 65536 in
theorem w_c9 : (Jvm.Cond.code ({ cls := "java/lang/Throwable", name := "getMessage", desc := "()Ljava/lang/String;" } : Jvm.MethodName) jdk_78_method_6_code (1 : Nat) (Option.some (Jvm.ClassFile.FieldType.object "java/lang/String"))).before args0 about1 = true := code_word (m := ⟨3, 2⟩) (meth := k3m2) (c := k3c2) (by decide +kernel) rfl rfl rfl (by decide +kernel)
set_option maxRecDepth 65536 in
theorem w_c10 : (Jvm.Cond.code ({ cls := "com/example/postpone/postpone/ApiException", name := "status", desc := "()I" } : Jvm.MethodName) prog_1_method_5_code (1 : Nat) (Option.some Jvm.ClassFile.FieldType.int)).before args0 about1 = true := code_word (m := ⟨6, 2⟩) (meth := k6m2) (c := k6c2) (by decide +kernel) rfl rfl rfl (by decide +kernel)
set_option maxRecDepth 65536 in
theorem w_c11 : (Jvm.Cond.code ({ cls := "java/lang/String", name := "<init>", desc := "([C)V" } : Jvm.MethodName) jdk_42_method_3_code (2 : Nat) (Option.none : Option Jvm.ClassFile.FieldType)).before args0 about1 = true := code_word (m := ⟨11, 1⟩) (meth := k11m1) (c := k11c1) (by decide +kernel) rfl rfl rfl (by decide +kernel)
set_option maxRecDepth 65536 in
theorem w_c12 : (Jvm.Cond.code ({ cls := "java/lang/String", name := "<init>", desc := "([CIILjava/lang/Void;)V" } : Jvm.MethodName) jdk_42_method_149_code (6 : Nat) (Option.none : Option Jvm.ClassFile.FieldType)).before args0 about1 = true := code_word (m := ⟨11, 4⟩) (meth := k11m4) (c := k11c4) (by decide +kernel) rfl rfl rfl (by decide +kernel)
set_option maxRecDepth 65536 in
theorem w_c13 : (Jvm.Cond.code ({ cls := "java/lang/StringUTF16", name := "compress", desc := "([CII)[B" } : Jvm.MethodName) jdk_52_method_16_code (6 : Nat) (Option.some (Jvm.ClassFile.FieldType.array Jvm.ClassFile.FieldType.byte))).before args0 about1 = true := code_word (m := ⟨12, 7⟩) (meth := k12m7) (c := k12c7) (by decide +kernel) rfl rfl rfl (by decide +kernel)
set_option maxRecDepth 65536 in
theorem w_c14 : (Jvm.Cond.code ({ cls := "java/lang/StringUTF16", name := "compress", desc := "([CI[BII)I" } : Jvm.MethodName) jdk_52_method_21_code (7 : Nat) (Option.some Jvm.ClassFile.FieldType.int)).before args0 about1 = true := code_word (m := ⟨12, 8⟩) (meth := k12m8) (c := k12c8) (by decide +kernel) rfl rfl rfl (by decide +kernel)
set_option maxRecDepth 65536 in
theorem w_c15 : (Jvm.Cond.code ({ cls := "java/lang/StringUTF16", name := "coderFromArrayLen", desc := "([BI)B" } : Jvm.MethodName) jdk_52_method_15_code (2 : Nat) (Option.some Jvm.ClassFile.FieldType.byte)).before args0 about1 = true := code_word (m := ⟨12, 6⟩) (meth := k12m6) (c := k12c6) (by decide +kernel) rfl rfl rfl (by decide +kernel)
set_option maxRecDepth 65536 in
theorem w_c16 : (Jvm.Cond.code ({ cls := "java/lang/String", name := "equals", desc := "(Ljava/lang/Object;)Z" } : Jvm.MethodName) jdk_42_method_66_code (3 : Nat) (Option.some Jvm.ClassFile.FieldType.boolean)).before args0 about1 = true := code_word (m := ⟨11, 2⟩) (meth := k11m2) (c := k11c2) (by decide +kernel) rfl rfl rfl (by decide +kernel)
set_option maxRecDepth 65536 in
theorem w_c17 : (Jvm.Cond.code ({ cls := "java/lang/String", name := "valueOf", desc := "(C)Ljava/lang/String;" } : Jvm.MethodName) jdk_42_method_139_code (1 : Nat) (Option.some (Jvm.ClassFile.FieldType.object "java/lang/String"))).before args0 about1 = true := code_word (m := ⟨11, 3⟩) (meth := k11m3) (c := k11c3) (by decide +kernel) rfl rfl rfl (by decide +kernel)
set_option maxRecDepth 65536 in
theorem w_c18 : (Jvm.Cond.code ({ cls := "java/lang/StringLatin1", name := "canEncode", desc := "(C)Z" } : Jvm.MethodName) jdk_43_method_3_code (1 : Nat) (Option.some Jvm.ClassFile.FieldType.boolean)).before args0 about1 = true := code_word (m := ⟨13, 1⟩) (meth := k13m1) (c := k13c1) (by decide +kernel) rfl rfl rfl (by decide +kernel)
set_option maxRecDepth 65536 in
theorem w_c19 : (Jvm.Cond.code ({ cls := "java/lang/StringUTF16", name := "toBytes", desc := "(C)[B" } : Jvm.MethodName) jdk_52_method_24_code (2 : Nat) (Option.some (Jvm.ClassFile.FieldType.array Jvm.ClassFile.FieldType.byte))).before args0 about1 = true := code_word (m := ⟨12, 9⟩) (meth := k12m9) (c := k12c9) (by decide +kernel) rfl rfl rfl (by decide +kernel)
set_option maxRecDepth 65536 in
theorem w_c20 : (Jvm.Cond.code ({ cls := "java/lang/StringUTF16", name := "putChar", desc := "([BII)V" } : Jvm.MethodName) jdk_52_method_4_code (3 : Nat) (Option.none : Option Jvm.ClassFile.FieldType)).before args0 about1 = true := code_word (m := ⟨12, 3⟩) (meth := k12m3) (c := k12c3) (by decide +kernel) rfl rfl rfl (by decide +kernel)
set_option maxRecDepth 65536 in
theorem w_c21 : (Jvm.Cond.code ({ cls := "java/lang/String", name := "<init>", desc := "([BB)V" } : Jvm.MethodName) jdk_42_method_151_code (3 : Nat) (Option.none : Option Jvm.ClassFile.FieldType)).before args0 about1 = true := code_word (m := ⟨11, 5⟩) (meth := k11m5) (c := k11c5) (by decide +kernel) rfl rfl rfl (by decide +kernel)
set_option maxRecDepth 65536 in
theorem w_c22 : (Jvm.Cond.code ({ cls := "java/lang/StringUTF16", name := "toBytes", desc := "([CII)[B" } : Jvm.MethodName) jdk_52_method_14_code (5 : Nat) (Option.some (Jvm.ClassFile.FieldType.array Jvm.ClassFile.FieldType.byte))).before args0 about1 = true := code_word (m := ⟨12, 5⟩) (meth := k12m5) (c := k12c5) (by decide +kernel) rfl rfl rfl (by decide +kernel)
set_option maxRecDepth 65536 in
theorem w_c23 : (Jvm.Cond.code ({ cls := "java/lang/StringUTF16", name := "newBytesFor", desc := "(I)[B" } : Jvm.MethodName) jdk_52_method_2_code (1 : Nat) (Option.some (Jvm.ClassFile.FieldType.array Jvm.ClassFile.FieldType.byte))).before args0 about1 = true := code_word (m := ⟨12, 1⟩) (meth := k12m1) (c := k12c1) (by decide +kernel) rfl rfl rfl (by decide +kernel)
set_option maxRecDepth 65536 in
theorem w_c24 : (Jvm.Cond.code ({ cls := "java/lang/StringUTF16", name := "newBytesLength", desc := "(I)I" } : Jvm.MethodName) jdk_52_method_3_code (1 : Nat) (Option.some Jvm.ClassFile.FieldType.int)).before args0 about1 = true := code_word (m := ⟨12, 2⟩) (meth := k12m2) (c := k12c2) (by decide +kernel) rfl rfl rfl (by decide +kernel)
set_option maxRecDepth 65536 in
theorem w_c25 : (Jvm.Cond.code ({ cls := "java/lang/StringUTF16", name := "getChar", desc := "([BI)C" } : Jvm.MethodName) jdk_52_method_5_code (2 : Nat) (Option.some Jvm.ClassFile.FieldType.char)).before args0 about1 = true := code_word (m := ⟨12, 4⟩) (meth := k12m4) (c := k12c4) (by decide +kernel) rfl rfl rfl (by decide +kernel)
set_option maxRecDepth 65536 in
theorem w_c26 : (Jvm.Cond.code ({ cls := "java/lang/StringLatin1", name := "toBytes", desc := "(C)[B" } : Jvm.MethodName) jdk_43_method_46_code (1 : Nat) (Option.some (Jvm.ClassFile.FieldType.array Jvm.ClassFile.FieldType.byte))).before args0 about1 = true := code_word (m := ⟨13, 2⟩) (meth := k13m2) (c := k13c2) (by decide +kernel) rfl rfl rfl (by decide +kernel)
def codes1 : List Jvm.Cond := [Jvm.Cond.code x code maxLocals ret, Jvm.Cond.code ({ cls := "com/example/postpone/postpone/ApiExceptionConflictPinLaw", name := "draw", desc := "(IIII)Ljava/lang/String;" } : Jvm.MethodName) method_2_code (8 : Nat) (Option.some (Jvm.ClassFile.FieldType.object "java/lang/String")), Jvm.Cond.code ({ cls := "com/example/postpone/postpone/ApiException", name := "conflict", desc := "(Ljava/lang/String;)Lcom/example/postpone/postpone/ApiException;" } : Jvm.MethodName) prog_1_method_4_code (1 : Nat) (Option.some (Jvm.ClassFile.FieldType.object "com/example/postpone/postpone/ApiException")), Jvm.Cond.code ({ cls := "com/example/postpone/postpone/ApiException", name := "<init>", desc := "(ILjava/lang/String;)V" } : Jvm.MethodName) prog_1_method_1_code (3 : Nat) (Option.none : Option Jvm.ClassFile.FieldType), Jvm.Cond.code ({ cls := "java/lang/RuntimeException", name := "<init>", desc := "(Ljava/lang/String;)V" } : Jvm.MethodName) jdk_58_method_2_code (2 : Nat) (Option.none : Option Jvm.ClassFile.FieldType), Jvm.Cond.code ({ cls := "java/lang/Exception", name := "<init>", desc := "(Ljava/lang/String;)V" } : Jvm.MethodName) jdk_59_method_2_code (2 : Nat) (Option.none : Option Jvm.ClassFile.FieldType), Jvm.Cond.code ({ cls := "java/lang/Throwable", name := "<init>", desc := "(Ljava/lang/String;)V" } : Jvm.MethodName) jdk_78_method_2_code (2 : Nat) (Option.none : Option Jvm.ClassFile.FieldType), Jvm.Cond.code ({ cls := "java/lang/Object", name := "<init>", desc := "()V" } : Jvm.MethodName) object_method_1_code (1 : Nat) (Option.none : Option Jvm.ClassFile.FieldType), Jvm.Cond.code ({ cls := "java/lang/Throwable", name := "<init>", desc := "()V" } : Jvm.MethodName) jdk_78_method_1_code (1 : Nat) (Option.none : Option Jvm.ClassFile.FieldType), Jvm.Cond.code ({ cls := "java/lang/Throwable", name := "getMessage", desc := "()Ljava/lang/String;" } : Jvm.MethodName) jdk_78_method_6_code (1 : Nat) (Option.some (Jvm.ClassFile.FieldType.object "java/lang/String")), Jvm.Cond.code ({ cls := "com/example/postpone/postpone/ApiException", name := "status", desc := "()I" } : Jvm.MethodName) prog_1_method_5_code (1 : Nat) (Option.some Jvm.ClassFile.FieldType.int), Jvm.Cond.code ({ cls := "java/lang/String", name := "<init>", desc := "([C)V" } : Jvm.MethodName) jdk_42_method_3_code (2 : Nat) (Option.none : Option Jvm.ClassFile.FieldType), Jvm.Cond.code ({ cls := "java/lang/String", name := "<init>", desc := "([CIILjava/lang/Void;)V" } : Jvm.MethodName) jdk_42_method_149_code (6 : Nat) (Option.none : Option Jvm.ClassFile.FieldType), Jvm.Cond.code ({ cls := "java/lang/StringUTF16", name := "compress", desc := "([CII)[B" } : Jvm.MethodName) jdk_52_method_16_code (6 : Nat) (Option.some (Jvm.ClassFile.FieldType.array Jvm.ClassFile.FieldType.byte)), Jvm.Cond.code ({ cls := "java/lang/StringUTF16", name := "compress", desc := "([CI[BII)I" } : Jvm.MethodName) jdk_52_method_21_code (7 : Nat) (Option.some Jvm.ClassFile.FieldType.int), Jvm.Cond.code ({ cls := "java/lang/StringUTF16", name := "coderFromArrayLen", desc := "([BI)B" } : Jvm.MethodName) jdk_52_method_15_code (2 : Nat) (Option.some Jvm.ClassFile.FieldType.byte), Jvm.Cond.code ({ cls := "java/lang/String", name := "equals", desc := "(Ljava/lang/Object;)Z" } : Jvm.MethodName) jdk_42_method_66_code (3 : Nat) (Option.some Jvm.ClassFile.FieldType.boolean), Jvm.Cond.code ({ cls := "java/lang/String", name := "valueOf", desc := "(C)Ljava/lang/String;" } : Jvm.MethodName) jdk_42_method_139_code (1 : Nat) (Option.some (Jvm.ClassFile.FieldType.object "java/lang/String")), Jvm.Cond.code ({ cls := "java/lang/StringLatin1", name := "canEncode", desc := "(C)Z" } : Jvm.MethodName) jdk_43_method_3_code (1 : Nat) (Option.some Jvm.ClassFile.FieldType.boolean), Jvm.Cond.code ({ cls := "java/lang/StringUTF16", name := "toBytes", desc := "(C)[B" } : Jvm.MethodName) jdk_52_method_24_code (2 : Nat) (Option.some (Jvm.ClassFile.FieldType.array Jvm.ClassFile.FieldType.byte)), Jvm.Cond.code ({ cls := "java/lang/StringUTF16", name := "putChar", desc := "([BII)V" } : Jvm.MethodName) jdk_52_method_4_code (3 : Nat) (Option.none : Option Jvm.ClassFile.FieldType), Jvm.Cond.code ({ cls := "java/lang/String", name := "<init>", desc := "([BB)V" } : Jvm.MethodName) jdk_42_method_151_code (3 : Nat) (Option.none : Option Jvm.ClassFile.FieldType), Jvm.Cond.code ({ cls := "java/lang/StringUTF16", name := "toBytes", desc := "([CII)[B" } : Jvm.MethodName) jdk_52_method_14_code (5 : Nat) (Option.some (Jvm.ClassFile.FieldType.array Jvm.ClassFile.FieldType.byte)), Jvm.Cond.code ({ cls := "java/lang/StringUTF16", name := "newBytesFor", desc := "(I)[B" } : Jvm.MethodName) jdk_52_method_2_code (1 : Nat) (Option.some (Jvm.ClassFile.FieldType.array Jvm.ClassFile.FieldType.byte)), Jvm.Cond.code ({ cls := "java/lang/StringUTF16", name := "newBytesLength", desc := "(I)I" } : Jvm.MethodName) jdk_52_method_3_code (1 : Nat) (Option.some Jvm.ClassFile.FieldType.int), Jvm.Cond.code ({ cls := "java/lang/StringUTF16", name := "getChar", desc := "([BI)C" } : Jvm.MethodName) jdk_52_method_5_code (2 : Nat) (Option.some Jvm.ClassFile.FieldType.char), Jvm.Cond.code ({ cls := "java/lang/StringLatin1", name := "toBytes", desc := "(C)[B" } : Jvm.MethodName) jdk_43_method_46_code (1 : Nat) (Option.some (Jvm.ClassFile.FieldType.array Jvm.ClassFile.FieldType.byte))]
set_option maxRecDepth 65536 in
theorem codes_eq : words1.filter isCode = codes1 := rfl
theorem w_codes : ∀ c ∈ words1.filter isCode, c.before args0 about1 = true := by
  rw [codes_eq]
  intro c hc
  simp only [codes1, List.mem_cons, List.not_mem_nil, or_false] at hc
  rcases hc with rfl | rfl | rfl | rfl | rfl | rfl | rfl | rfl | rfl | rfl | rfl | rfl | rfl | rfl | rfl | rfl | rfl | rfl | rfl | rfl | rfl | rfl | rfl | rfl | rfl | rfl | rfl
  · exact w_c0
  · exact w_c1
  · exact w_c2
  · exact w_c3
  · exact w_c4
  · exact w_c5
  · exact w_c6
  · exact w_c7
  · exact w_c8
  · exact w_c9
  · exact w_c10
  · exact w_c11
  · exact w_c12
  · exact w_c13
  · exact w_c14
  · exact w_c15
  · exact w_c16
  · exact w_c17
  · exact w_c18
  · exact w_c19
  · exact w_c20
  · exact w_c21
  · exact w_c22
  · exact w_c23
  · exact w_c24
  · exact w_c25
  · exact w_c26
set_option maxRecDepth 65536 in
theorem w_t1 : (words1.take 24).all (fun c => isCode c || c.before args0 about1) = true := by decide +kernel
set_option maxRecDepth 65536 in
theorem w_t2 : ((words1.drop 24).take 24).all (fun c => isCode c || c.before args0 about1) = true := by decide +kernel
set_option maxRecDepth 65536 in
theorem w_t3 : (((words1.drop 24).drop 24).take 24).all (fun c => isCode c || c.before args0 about1) = true := by decide +kernel
set_option maxRecDepth 65536 in
theorem w_t4 : ((((words1.drop 24).drop 24).drop 24).take 24).all (fun c => isCode c || c.before args0 about1) = true := by decide +kernel
set_option maxRecDepth 65536 in
theorem w_t5 : (((((words1.drop 24).drop 24).drop 24).drop 24).take 24).all (fun c => isCode c || c.before args0 about1) = true := by decide +kernel
set_option maxRecDepth 65536 in
theorem w_t6 : ((((((words1.drop 24).drop 24).drop 24).drop 24).drop 24).take 24).all (fun c => isCode c || c.before args0 about1) = true := by decide +kernel
set_option maxRecDepth 65536 in
theorem w_t7 : ((((((words1.drop 24).drop 24).drop 24).drop 24).drop 24).drop 24).all (fun c => isCode c || c.before args0 about1) = true := by decide +kernel
theorem w_tables : (allAtoms (Jvm.Cond.code x code maxLocals ret :: tables_1)).before args0 about1 = true := by
  rw [allAtoms_all]
  show words1.all (fun c => c.before args0 about1) = true
  refine all_split ?_ w_codes
  rw [← List.take_append_drop 24 words1, List.all_append, w_t1, ← List.take_append_drop 24 (words1.drop 24), List.all_append, w_t2, ← List.take_append_drop 24 ((words1.drop 24).drop 24), List.all_append, w_t3, ← List.take_append_drop 24 (((words1.drop 24).drop 24).drop 24), List.all_append, w_t4, ← List.take_append_drop 24 ((((words1.drop 24).drop 24).drop 24).drop 24), List.all_append, w_t5, ← List.take_append_drop 24 (((((words1.drop 24).drop 24).drop 24).drop 24).drop 24), List.all_append, w_t6, w_t7]
  rfl
set_option maxRecDepth 65536 in
theorem w_rest : rest_1_c.before args0 about1 = true := by decide +kernel
set_option maxRecDepth 65536 in
theorem w_case : (Jvm.Cond.and given_1 narrow_1).before args0 about1 = true := by decide +kernel
set_option maxRecDepth 65536 in
theorem w_consts : constsHeld consts_1 about1 := Jvm.Lit.constsHeldB_iff.mp (by decide +kernel)
theorem w_applies : (headSpec (Jvm.Cond.code x code maxLocals ret :: tables_1) room_1).applies x e0.platform about1 = true :=
  (Spec.applies_iff w_frames).mpr ⟨w_running, w_runnable, w_alone, w_named, w_hears, w_ripe, w_room, w_tables⟩
theorem atStart : AtStart classFile x code maxLocals ret World_1 tables_1 room_1 Calls_1 rest_1 Pre_1 launch0 p0 e0 about1 theMethod args0 below0 :=
  ⟨lists_1, trivial, launch0.admits_env _ _ _, launch0.least_env, fairChoices_fair.cas, fairChoices_fair.clock, w_frames, w_args, w_heap, w_applies, ⟨(by decide +kernel : framesKnown about1 = true), ⟨(by decide +kernel : tablesKnown about1 = true), ⟨w_consts, trivial⟩⟩⟩, w_rest, w_case⟩
end start1
theorem witness_1 : WitnessClaimed_1 := ⟨start1.p0, start1.e0, start1.about1, start1.theMethod, start1.args0, start1.below0, start1.atStart⟩
end Jvm.Pilot.@@N@@
