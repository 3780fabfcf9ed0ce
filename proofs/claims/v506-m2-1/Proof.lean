import JvmDerived
import JvmDerived.Pilot.@@N@@Statement
import JvmDerived.Pilot.@@N@@Code
set_option linter.unusedVariables false
set_option linter.unusedSimpArgs false
namespace Jvm.Own
open Jvm Sem ClassFile Op Lib Jvm.Stand Jvm.Free Jvm.LawKit Jvm.RoadKit
/-- from this state and frame the run comes to an end that E says -/
def Goes (p : Program) (e : Env) (below : List Frame) (E : Outcome → State → Prop) (T : State) (f : JFrame) : Prop :=
  ∃ s₂ o, Steps p.tables e below (T.setTop f) s₂ ∧ s₂.status = .running ∧ Ended s₂ below o ∧ E o s₂
/-- the end of a walk that interns nothing -/
def EndN (s : State) (Q : Option Value → Heap → List Loc → Prop) (K N : Nat) (o : Outcome) (U : State) : Prop :=
  ∃ v L, o = .returned v ∧ Q v U.heap L ∧ FrameEnd s o U L K N
/-- a body's contract -/
def Rm (l : Launch) (y : MethodName) (bytes : ByteArray) (maxL : Nat) (ret : Option FieldType) (rm : Room) (ws : List Jvm.Cond) (Z : State) (as' : Array Value) (h : Heap) (Q : Option Value → Heap → List Loc → Prop) : Prop :=
  MetFree l y (head1 (Jvm.Cond.code y bytes maxL ret :: ws) rm) (fun a U => a = as' ∧ Z.Warmed39 U.vm ∧ U.heap = h) (fun _ _ _ _ _ => True) (fun _ U o U' => ∃ v L, o = .returned v ∧ Q v U'.heap L ∧ FrameEnd U o U' L rm.cells rm.slots)
section Own1
variable {p : Program} {l : Launch} {e : Env} {R : Room} {s : State} {m : MethodId} {args : Array Value} {below : List Frame} {meth : Method} {c : Code} {T : State} {locs : List Loc} {cells slots : Nat} {Z : State} {a0 : Array Value} {h : Heap} {E : Outcome → State → Prop}
theorem Goes.of {T T' : State} {f f' : JFrame} (st : ∀ t, Steps p.tables e below (T'.setTop f') t → Steps p.tables e below (T.setTop f) t) (k : Goes p e below E T' f') : Goes p e below E T f := by
  obtain ⟨s₂, o, h1, h2⟩ := k
  exact ⟨s₂, o, st _ h1, h2⟩
theorem Goes.cast {T : State} {f f' : JFrame} (q : f = f') (k : Goes p e below E T f') : Goes p e below E T f := q ▸ k
theorem oldLe {n0 : Nat} (O : Old Z n0 h) : n0 ≤ h.size := O.1 ▸ O.2.1
theorem goRet {Q : Option Value → Heap → List Loc → Prop} {K N : Nat} {g : JFrame} {v : Option Value} (X : Stand p l e R s m args below meth c T locs cells slots) (hv : meth.sig.returnType = none → v = none) (hlocks : meth.locks = false) (eT : T.heap = h) (hQ : Q v h locs) (hK : cells ≤ K) (hN : slots ≤ N)
    (st : ∀ fs, (∀ (f : JFrame) (acts : List Action), f.method = m → f.locked = none → f.entered = [] → (doReturn e (T.setTop f) acts v).1 = T.setFrames fs) → Steps p.tables e below (T.setTop g) (T.setFrames fs)) : Goes p e below (EndN s Q K N) T g := by
  obtain ⟨fs, hr, hrun, hended, hW, hsame⟩ := X.leave (v := v) hv hlocks
  subst eT
  exact ⟨_, _, st fs hr, hrun, hended, _, _, rfl, hQ, ⟨_, rfl⟩, hW, hsame.mono hK hN⟩
theorem retZ {Q : Option Value → Heap → List Loc → Prop} {K N pc : Nat} {Ls : Array Slot} {z : Int32} {t : FieldType} {rest : List Value} (X : Stand p l e R s m args below meth c T locs cells slots) (hx : p.tables.exec = Jvm.exec) (hret : meth.sig.returnType = some t) (hlocks : meth.locks = false) (ht : t = .boolean ∨ t = .byte ∨ t = .char ∨ t = .short)
    (hd : decode c.code pc = .ok (.ireturn, 1)) (eT : T.heap = h) (hK : cells ≤ K) (hN : slots ≤ N) (hQ : Q (some (.int (nar t z))) h locs) : Goes p e below (EndN s Q K N) T (mkF m pc Ls (.int z :: rest)) :=
  goRet X (fun q => by rw [hret] at q; cases q) hlocks eT hQ hK hN fun fs hr => retN X hx hret ht hd hr
theorem retInt {Q : Option Value → Heap → List Loc → Prop} {K N pc : Nat} {Ls : Array Slot} {z : Int32} {rest : List Value} (X : Stand p l e R s m args below meth c T locs cells slots) (hx : p.tables.exec = Jvm.exec) (hret : meth.sig.returnType = some .int) (hlocks : meth.locks = false)
    (hd : decode c.code pc = .ok (.ireturn, 1)) (eT : T.heap = h) (hK : cells ≤ K) (hN : slots ≤ N) (hQ : Q (some (.int z)) h locs) : Goes p e below (EndN s Q K N) T (mkF m pc Ls (.int z :: rest)) :=
  goRet X (fun q => by rw [hret] at q; cases q) hlocks eT hQ hK hN fun fs hr => by
    have hm' : T.vm.method? m = some meth := X.method'
    have hn : narrow .int (.int z) = .int z := rfl
    show Steps p.tables e below (T.setTop { method := m, pc := pc, locals := Ls, stack := _ :: rest, locked := none }) _
    jvm_step X.here [X.here.top, hx, hd, hm', hret, hn]
    first | (intro acts; rw [hr _ acts rfl rfl rfl]) | rw [hr _ _ rfl rfl rfl]
    exact Steps.refl _
theorem retLong {Q : Option Value → Heap → List Loc → Prop} {K N pc : Nat} {Ls : Array Slot} {z : Int64} {rest : List Value} (X : Stand p l e R s m args below meth c T locs cells slots) (hx : p.tables.exec = Jvm.exec) (hret : meth.sig.returnType = some .long) (hlocks : meth.locks = false)
    (hd : decode c.code pc = .ok (.lreturn, 1)) (eT : T.heap = h) (hK : cells ≤ K) (hN : slots ≤ N) (hQ : Q (some (.long z)) h locs) : Goes p e below (EndN s Q K N) T (mkF m pc Ls (.long z :: rest)) :=
  goRet X (fun q => by rw [hret] at q; cases q) hlocks eT hQ hK hN fun fs hr => by
    have hm' : T.vm.method? m = some meth := X.method'
    show Steps p.tables e below (T.setTop { method := m, pc := pc, locals := Ls, stack := _ :: rest, locked := none }) _
    jvm_step X.here [X.here.top, hx, hd, hm', hret, narrow]
    first | (intro acts; rw [hr _ acts rfl rfl rfl]) | rw [hr _ _ rfl rfl rfl]
    exact Steps.refl _
theorem retRef {Q : Option Value → Heap → List Loc → Prop} {K N pc : Nat} {Ls : Array Slot} {z : Value} {t : FieldType} {rest : List Value} (X : Stand p l e R s m args below meth c T locs cells slots) (hx : p.tables.exec = Jvm.exec) (hret : meth.sig.returnType = some t) (hlocks : meth.locks = false) (ht : t.isReference = true) (hz : z.isRef = true)
    (hd : decode c.code pc = .ok (.areturn, 1)) (eT : T.heap = h) (hK : cells ≤ K) (hN : slots ≤ N) (hQ : Q (some z) h locs) : Goes p e below (EndN s Q K N) T (mkF m pc Ls (z :: rest)) :=
  goRet X (fun q => by rw [hret] at q; cases q) hlocks eT hQ hK hN fun fs hr => by
    have hm' : T.vm.method? m = some meth := X.method'
    show Steps p.tables e below (T.setTop { method := m, pc := pc, locals := Ls, stack := _ :: rest, locked := none }) _
    rcases ref_cases hz with rfl | ⟨_, rfl⟩
    all_goals
      jvm_step X.here [X.here.top, hx, hd, hm', hret, ht, Value.isRef]
      first | (intro acts; rw [hr _ acts rfl rfl rfl]) | rw [hr _ _ rfl rfl rfl]
      exact Steps.refl _
theorem retVoid {Q : Option Value → Heap → List Loc → Prop} {K N pc : Nat} {Ls : Array Slot} {rest : List Value} (X : Stand p l e R s m args below meth c T locs cells slots) (hx : p.tables.exec = Jvm.exec) (hret : meth.sig.returnType = none) (hlocks : meth.locks = false)
    (hd : decode c.code pc = .ok (.return_, 1)) (eT : T.heap = h) (hK : cells ≤ K) (hN : slots ≤ N) (hQ : Q none h locs) : Goes p e below (EndN s Q K N) T (mkF m pc Ls rest) :=
  goRet X (fun _ => rfl) hlocks eT hQ hK hN fun fs hr => by
    have hm' : T.vm.method? m = some meth := X.method'
    show Steps p.tables e below (T.setTop { method := m, pc := pc, locals := Ls, stack := rest, locked := none }) _
    jvm_step X.here [X.here.top, hx, hd, hm', hret]
    first | (intro acts; rw [hr _ acts rfl rfl rfl]) | rw [hr _ _ rfl rfl rfl]
    exact Steps.refl _
/-- a body's contract out of its walk -/
theorem Rm.of {ws : List Jvm.Cond} {y : MethodName} {bytes : ByteArray} {maxL : Nat} {ret : Option FieldType} {rm : Room} {as' : Array Value} {h : Heap} {Q : Option Value → Heap → List Loc → Prop} (hp : plainFor y = true)
    (body : ∀ (p : Program) (e : Env) (s : State) (m : MethodId) (below : List Frame) (meth : Method) (c : Code) (T : State), Stand p l e rm s m as' below meth c T [] 0 0 → p.tables.exec = Jvm.exec → Z.Warmed39 s.vm → c.code = bytes → c.maxLocals = maxL → s.vm.findClass y.cls = some m.cls → meth.name = y.name → meth.sig.returnType = ret → meth.locks = false → T.heap = h →
      Goes p e below (EndN s Q rm.cells rm.slots) T (entryFrame m as' maxL)) : Rm l y bytes maxL ret rm ws Z as' h Q := by
  refine MetFree.of_bodySF hp hisR ?_
  intro p e s m args below meth c s₁ Bd hml0 hP hK
  obtain ⟨rfl, hZ, hh⟩ := hP
  exact body p e s m below meth c s₁ (Stand.of_body Bd) Bd.exec hZ Bd.bytes hml0 (findClass_of_methodNamed Bd.named) (name_of_methodNamed Bd.named Bd.method).1 Bd.returns Bd.notSynchronized (by rw [← hh, Bd.state]; rfl)
theorem goStatic {own : String} {index : Nat} {y : MethodName} {bytes : ByteArray} {maxL : Nat} {ret : Option FieldType} {rm : Room} {as' : Array Value} {Q : Option Value → Heap → List Loc → Prop} (W : Nat)
    (X : Stand p l e R s m args below meth c T locs cells slots) (hx : p.tables.exec = Jvm.exec) (hZ : Z.Warmed39 s.vm) (hown : s.vm.findClass own = some m.cls) (w1 : (Jvm.Cond.methodLink own index y).before a0 Z = true) (w2 : (Jvm.Cond.static y).before a0 Z = true) (w3 : (Jvm.Cond.initialized y.cls).before a0 Z = true) (w4 : (Jvm.Cond.code y bytes maxL ret).before a0 Z = true)
    (hy : y.cls ≠ "java/lang/invoke/MethodHandle" ∧ y.cls ≠ "java/lang/invoke/VarHandle") (r : Rm l y bytes maxL ret rm [] Z as' h Q) (eT : T.heap = h) {g : JFrame} (hg : g.method = m) (hsize : g.locals.size = c.maxLocals) (argsL rest : List Value) (hlen : ∀ sig, parseMethodDescriptor y.desc = some sig → argsL.length = sig.parameters.length)
    (hstack : g.stack = argsL.reverse ++ rest) (has : argsL.toArray = as') (hW : 2 * g.monitorRoom + (rest.map fun v => v.category).sum ≤ W) (hd : decode c.code g.pc = .ok (.invokestatic index, 3)) (hf : rm.frames + 1 ≤ R.frames) (hl : W + (maxL + 11) + rm.locals ≤ R.locals) (hc : cells + rm.cells ≤ R.cells) (hs : slots + rm.slots ≤ R.slots)
    (k : ∀ v T' L, Stand p l e R s m args below meth c T' (locs ++ L) (cells + rm.cells) (slots + rm.slots) → Q v T'.heap L → Goes p e below E T' { g with pc := g.pc + 3, stack := v.toList ++ rest }) : Goes p e below E T g := by
  obtain ⟨v, vm₁, ⟨T', L', k', n'⟩, -, X', ⟨L, hQ, q1, q2, q3⟩, st⟩ := Jvm.LawKit.callS X hx (y := y) hown (mvT hZ w1) (mvT hZ w2) (mvT hZ w3) (mvT hZ w4) hy (backOf (W := W) r hZ w4 w3 hf hl) hg hsize hlen hstack hW hd (fun _ _ => ⟨has, eT, hc, hs⟩)
  dsimp only [Pt.U, Pt.locs, Pt.cells, Pt.slots] at X' q1 q2 q3 st hQ
  subst q1 q2 q3
  exact Goes.of st (k v T' L X' hQ)
theorem goSpecial {own : String} {index : Nat} {y : MethodName} {bytes : ByteArray} {maxL : Nat} {rm : Room} {as' : Array Value} {Q : Option Value → Heap → List Loc → Prop} (W : Nat)
    (X : Stand p l e R s m args below meth c T locs cells slots) (hx : p.tables.exec = Jvm.exec) (hZ : Z.Warmed39 s.vm) (hy1 : y.name = "<init>") (hown : s.vm.findClass own = some m.cls) (w1 : (Jvm.Cond.methodLink own index y).before a0 Z = true) (w2 : (Jvm.Cond.instanceMethod y).before a0 Z = true) (w3 : (Jvm.Cond.initialized y.cls).before a0 Z = true) (w4 : (Jvm.Cond.code y bytes maxL none).before a0 Z = true)
    (hy : y.cls ≠ "java/lang/invoke/MethodHandle" ∧ y.cls ≠ "java/lang/invoke/VarHandle") (r : Rm l y bytes maxL none rm [] Z as' h Q) (eT : T.heap = h) {g : JFrame} (hg : g.method = m) (hsize : g.locals.size = c.maxLocals) (a : Addr) (argsL rest : List Value) (hlen : ∀ sig, parseMethodDescriptor y.desc = some sig → argsL.length = sig.parameters.length)
    (hstack : g.stack = argsL.reverse ++ .ref a :: rest) (has : (.ref a :: argsL).toArray = as') (hW : 2 * g.monitorRoom + (rest.map fun v => v.category).sum ≤ W) (hd : decode c.code g.pc = .ok (.invokespecial index, 3)) (hf : rm.frames + 1 ≤ R.frames) (hl : W + (maxL + 11) + rm.locals ≤ R.locals) (hc : cells + rm.cells ≤ R.cells) (hs : slots + rm.slots ≤ R.slots)
    (k : ∀ v T' L, Stand p l e R s m args below meth c T' (locs ++ L) (cells + rm.cells) (slots + rm.slots) → Q v T'.heap L → Goes p e below E T' { g with pc := g.pc + 3, stack := v.toList ++ rest }) : Goes p e below E T g := by
  obtain ⟨v, vm₁, ⟨T', L', k', n'⟩, -, X', ⟨L, hQ, q1, q2, q3⟩, st⟩ := X.specialBack hx (y := y) hy1 hown (mvT hZ w1) (mvT hZ w2) (mvT hZ w4) hy (backOf (W := W) r hZ w4 w3 hf hl) hg hsize (Steps.refl _) (a := a) hlen hstack hW hd (fun _ _ => ⟨has, eT, hc, hs⟩)
  dsimp only [Pt.U, Pt.locs, Pt.cells, Pt.slots] at X' q1 q2 q3 st hQ
  subst q1 q2 q3
  exact Goes.of (fun _ => st.trans) (k v T' L X' hQ)
theorem goVirtual {own C : String} {index : Nat} {y z : MethodName} {bytes : ByteArray} {maxL : Nat} {ret : Option FieldType} {rm : Room} {as' : Array Value} {Q : Option Value → Heap → List Loc → Prop} (W : Nat)
    (X : Stand p l e R s m args below meth c T locs cells slots) (hx : p.tables.exec = Jvm.exec) (hZ : Z.Warmed39 s.vm) (hown : s.vm.findClass own = some m.cls) (w1 : (Jvm.Cond.methodLink own index y).before a0 Z = true) (w2 : (Jvm.Cond.declares y).before a0 Z = true) (hnf : NotFace s y) (w3 : (Jvm.Cond.selects C y z).before a0 Z = true) (w4 : (Jvm.Cond.instanceMethod z).before a0 Z = true) (w5 : (Jvm.Cond.initialized z.cls).before a0 Z = true) (w6 : (Jvm.Cond.code z bytes maxL ret).before a0 Z = true)
    (hy : y.cls ≠ "java/lang/invoke/MethodHandle" ∧ y.cls ≠ "java/lang/invoke/VarHandle") (r : Rm l z bytes maxL ret rm [] Z as' h Q) (eT : T.heap = h) {a : Addr} (F : Exa Z h a C) {g : JFrame} (hg : g.method = m) (hsize : g.locals.size = c.maxLocals) (argsL rest : List Value) (hlen : ∀ sig, parseMethodDescriptor y.desc = some sig → argsL.length = sig.parameters.length)
    (hstack : g.stack = argsL.reverse ++ .ref a :: rest) (has : (.ref a :: argsL).toArray = as') (hW : 2 * g.monitorRoom + (rest.map fun v => v.category).sum ≤ W) (hd : decode c.code g.pc = .ok (.invokevirtual index, 3)) (hf : rm.frames + 1 ≤ R.frames) (hl : W + (maxL + 11) + rm.locals ≤ R.locals) (hc : cells + rm.cells ≤ R.cells) (hs : slots + rm.slots ≤ R.slots)
    (k : ∀ v T' L, Stand p l e R s m args below meth c T' (locs ++ L) (cells + rm.cells) (slots + rm.slots) → Q v T'.heap L → Goes p e below E T' { g with pc := g.pc + 3, stack := v.toList ++ rest }) : Goes p e below E T g := by
  obtain ⟨cq, kq, qa, qb, qc⟩ := isOf hZ eT F
  obtain ⟨v, vm₁, ⟨T', L', k', n'⟩, -, X', ⟨L, hQ, q1, q2, q3⟩, st⟩ := X.virtualBack hx (y := y) (z := z) hown (mvT hZ w1) (mvT hZ w2) hnf (mvT hZ w3) (mvT hZ w4) hy (backOf (W := W) r hZ w6 w5 hf hl) qa qc hg hsize (Steps.refl _) hlen hstack hW hd (fun _ _ => ⟨has, eT, hc, hs⟩)
  dsimp only [Pt.U, Pt.locs, Pt.cells, Pt.slots] at X' q1 q2 q3 st hQ
  subst q1 q2 q3
  exact Goes.of (fun _ => st.trans) (k v T' L X' hQ)
theorem goNew {own C : String} {index n : Nat} (X : Stand p l e R s m args below meth c T locs cells slots) (hx : p.tables.exec = Jvm.exec) (hZ : Z.Warmed39 s.vm) (hown : s.vm.findClass own = some m.cls) (w : (Jvm.Cond.classLink own index C).before a0 Z = true) (wi : (Jvm.Cond.instantiable C n).before a0 Z = true) (wz : (Jvm.Cond.initialized C).before a0 Z = true) (eT : T.heap = h)
    {g : JFrame} (hg : g.method = m) (hd : decode c.code g.pc = .ok (.new index, 3)) (hc : cells + 1 ≤ R.cells) (hl : slots + n ≤ R.slots)
    (k : ∀ T' h' b, Stand p l e R s m args below meth c T' locs (cells + 1) (slots + n) → T'.heap = h' → Ext h h' → h.size ≤ b → Exa Z h' b C → (∀ {O nm d : String} {ty : FieldType}, Laid Z a0 C O nm d → parseFieldDescriptor d = some ty → Fld Z h' b O nm d (defaultValue ty)) → Goes p e below E T' { g with pc := g.pc + 3, stack := .ref b :: g.stack }) : Goes p e below E T g := by
  obtain ⟨T', h', X', e', E', A', D', -, st⟩ := newO X hx hZ hown w wi wz eT hg hd hc hl
  exact Goes.of st (k T' h' _ X' e' E' (Nat.le_refl _) A' D')
theorem goInitO {own : String} {idx : Nat} (W : Nat) (X : Stand p l e R s m args below meth c T locs cells slots) (hx : p.tables.exec = Jvm.exec) (hZ : Z.Warmed39 s.vm) (hown : s.vm.findClass own = some m.cls) (w1 : (Jvm.Cond.methodLink own idx Lib.objectInit).before a0 Z = true) (w2 : (Jvm.Cond.instanceMethod Lib.objectInit).before a0 Z = true)
    (w3 : (Jvm.Cond.code Lib.objectInit ⟨#[0xb1]⟩ 1 none).before a0 Z = true) (eT : T.heap = h) {g : JFrame} (hg : g.method = m) (hsize : g.locals.size = c.maxLocals) {a : Addr} {rest : List Value} (hs : g.stack = .ref a :: rest) (hd : decode c.code g.pc = .ok (.invokespecial idx, 3))
    (hf : 1 ≤ R.frames) (hW : 2 * g.monitorRoom + (rest.map fun v => v.category).sum ≤ W) (hl : W + 12 ≤ R.locals) (k : ∀ T', Stand p l e R s m args below meth c T' locs cells slots → T'.heap = h → Goes p e below E T' { g with pc := g.pc + 3, stack := rest }) : Goes p e below E T g := by
  obtain ⟨T', X', e', st⟩ := initO X hx hZ hown w1 w2 w3 eT hg hsize hs hd hf hW hl
  exact Goes.of st (k T' X' e')
theorem goGet {own R0 O n d host : String} {index : Nat} (X : Stand p l e R s m args below meth c T locs cells slots) (hx : p.tables.exec = Jvm.exec) (hZ : Z.Warmed39 s.vm) (hown : s.vm.findClass own = some m.cls) (w : (Jvm.Cond.fieldLink own index R0 n d).before a0 Z = true ∨ (Jvm.Cond.fieldLinkNest own index R0 n d host).before a0 Z = true) (via : Via Z R0 O n d)
    (eT : T.heap = h) {a : Addr} {v : Value} (F : Fld Z h a O n d v) {g : JFrame} (hg : g.method = m) {rest : List Value} (hs : g.stack = .ref a :: rest) (hd : decode c.code g.pc = .ok (.getfield index, 3))
    (k : ∀ T', Stand p l e R s m args below meth c T' locs cells slots → T'.heap = h → Goes p e below E T' { g with pc := g.pc + 3, stack := v :: rest }) : Goes p e below E T g := by
  obtain ⟨T', X', e', st⟩ := getF X hx hZ hown w via eT F hg hs hd
  exact Goes.of st (k T' X' e')
theorem goGetS {own R0 O n d host : String} {index : Nat} (X : Stand p l e R s m args below meth c T locs cells slots) (hx : p.tables.exec = Jvm.exec) (hZ : Z.Warmed39 s.vm) (hown : s.vm.findClass own = some m.cls) (w : (Jvm.Cond.fieldLink own index R0 n d).before a0 Z = true ∨ (Jvm.Cond.fieldLinkNest own index R0 n d host).before a0 Z = true) (via : Via Z R0 O n d)
    (eT : T.heap = h) {v : Value} (F : Sta Z h O n d v) {g : JFrame} (hg : g.method = m) (hd : decode c.code g.pc = .ok (.getstatic index, 3))
    (k : ∀ T', Stand p l e R s m args below meth c T' locs cells slots → T'.heap = h → Goes p e below E T' { g with pc := g.pc + 3, stack := v :: g.stack }) : Goes p e below E T g := by
  obtain ⟨T', X', e', st⟩ := getS2 X hx hZ hown w via eT F hg hd
  exact Goes.of st (k T' X' e')
theorem goPut {own R0 O n d host C : String} {index kk : Nat} {ty : FieldType} (X : Stand p l e R s m args below meth c T locs cells slots) (hx : p.tables.exec = Jvm.exec) (hZ : Z.Warmed39 s.vm) (hown : s.vm.findClass own = some m.cls) (w : (Jvm.Cond.fieldLink own index R0 n d).before a0 Z = true ∨ (Jvm.Cond.fieldLinkNest own index R0 n d host).before a0 Z = true) (via : Via Z R0 O n d)
    (eT : T.heap = h) {a : Addr} {v old : Value} (F : Fld Z h a O n d old) (Ex : Exa Z h a C) (L : (Jvm.Cond.lays C O n d).before a0 Z = true ∨ ((Jvm.Cond.laysFinal C O n d).before a0 Z = true ∧ own = O ∧ meth.name = "<init>")) (wi : (Jvm.Cond.instantiable C kk).before a0 Z = true)
    (hty : parseFieldDescriptor d = some ty) (hn : narrow ty v = v) (hf : fits ty v = true) {g : JFrame} (hg : g.method = m) {rest : List Value} (hs : g.stack = v :: .ref a :: rest) (hd : decode c.code g.pc = .ok (.putfield index, 3))
    (k : ∀ T' h', Stand p l e R s m args below meth c T' (locs ++ [⟨a, Jvm.RoadKit.slotOf Z O n d⟩]) cells slots → T'.heap = h' → Wr h h' a (Jvm.RoadKit.slotOf Z O n d) v → Goes p e below E T' { g with pc := g.pc + 3, stack := rest }) : Goes p e below E T g := by
  obtain ⟨T', h', X', e', W', st⟩ := putF X hx hZ hown w via eT F Ex L wi hty hn hf hg hs hd
  exact Goes.of st (k T' h' X' e' W')
theorem goCast {own K : String} {index : Nat} (X : Stand p l e R s m args below meth c T locs cells slots) (hx : p.tables.exec = Jvm.exec) (hZ : Z.Warmed39 s.vm) (hown : s.vm.findClass own = some m.cls) (w : (Jvm.Cond.classLink own index K).before a0 Z = true) (eT : T.heap = h) {a : Addr} (F : Ins Z h a K true)
    {g : JFrame} (hg : g.method = m) {rest : List Value} (hs : g.stack = .ref a :: rest) (hd : decode c.code g.pc = .ok (.checkcast index, 3))
    (k : ∀ T', Stand p l e R s m args below meth c T' locs cells slots → T'.heap = h → Goes p e below E T' { g with pc := g.pc + 3 }) : Goes p e below E T g := by
  obtain ⟨T', X', e', st⟩ := castY X hx hZ hown w eT F hg hs hd
  exact Goes.of st (k T' X' e')
theorem goInstY {own K : String} {index : Nat} (X : Stand p l e R s m args below meth c T locs cells slots) (hx : p.tables.exec = Jvm.exec) (hZ : Z.Warmed39 s.vm) (hown : s.vm.findClass own = some m.cls) (w : (Jvm.Cond.classLink own index K).before a0 Z = true) (eT : T.heap = h) {a : Addr} (F : Ins Z h a K true)
    {g : JFrame} (hg : g.method = m) {rest : List Value} (hs : g.stack = .ref a :: rest) (hd : decode c.code g.pc = .ok (.instanceof index, 3))
    (k : ∀ T', Stand p l e R s m args below meth c T' locs cells slots → T'.heap = h → Goes p e below E T' { g with pc := g.pc + 3, stack := .int 1 :: rest }) : Goes p e below E T g := by
  obtain ⟨T', X', e', st⟩ := instY X hx hZ hown w eT F hg hs hd
  exact Goes.of st (k T' X' e')
theorem goInstN {own K C : String} {index : Nat} (X : Stand p l e R s m args below meth c T locs cells slots) (hx : p.tables.exec = Jvm.exec) (hZ : Z.Warmed39 s.vm) (hown : s.vm.findClass own = some m.cls) (w : (Jvm.Cond.classLink own index K).before a0 Z = true) (eT : T.heap = h) {a : Addr} (Ex : Exa Z h a C) (F : ∃ c t, Z.vm.findClass C = some c ∧ Z.vm.findClass K = some t ∧ Z.vm.assignable c t = false)
    {g : JFrame} (hg : g.method = m) {rest : List Value} (hs : g.stack = .ref a :: rest) (hd : decode c.code g.pc = .ok (.instanceof index, 3))
    (k : ∀ T', Stand p l e R s m args below meth c T' locs cells slots → T'.heap = h → Goes p e below E T' { g with pc := g.pc + 3, stack := .int 0 :: rest }) : Goes p e below E T g := by
  obtain ⟨T', X', e', st⟩ := Jvm.RoadKit.instNo X hx hZ hown w eT Ex F hg hs hd
  exact Goes.of st (k T' X' e')
theorem goNewP {aty : ArrayType} (cap : Nat) (X : Stand p l e R s m args below meth c T locs cells slots) (hx : p.tables.exec = Jvm.exec) (hZ : Z.Warmed39 s.vm) (w : (Jvm.Cond.arrayClass (newarray.typeOf aty)).before a0 Z = true) (eT : T.heap = h) {g : JFrame} (hg : g.method = m) (hd : decode c.code g.pc = .ok (.newarray aty, 2)) {n : Int32} {rest : List Value} (hs : g.stack = .int n :: rest)
    (hn : ¬ n < 0) (hcap : n.toNatClampNeg ≤ cap) (hb : cap * 8 ≤ 536870912) (hc : cells + 1 ≤ R.cells) (hl : slots + cap ≤ R.slots) {ad : String} (had : "[" ++ (newarray.typeOf aty).toString = ad) 
    (k : ∀ T' h' b cA, Stand p l e R s m args below meth c T' locs (cells + 1) (slots + cap) → T'.heap = h' → Ext h h' → h.size ≤ b → Arv Z h' b cA (newarray.typeOf aty) n (List.replicate cap (defaultValue (newarray.typeOf aty))) (defaultValue (newarray.typeOf aty)) → Exa Z h' b ad → Goes p e below E T' { g with pc := g.pc + 2, stack := .ref b :: rest }) : Goes p e below E T g := by
  obtain ⟨T', h', cA, X', e', E', A', Ex', st⟩ := newPE X hx hZ w eT hg hd hs hn hcap hb hc hl had
  exact Goes.of st (k T' h' _ cA X' e' E' (Nat.le_refl _) ((Arv.new A' hn).pad (pad_rep [] _ cap)) Ex')
theorem goNewR {own C : String} {index : Nat} (cap : Nat) (X : Stand p l e R s m args below meth c T locs cells slots) (hx : p.tables.exec = Jvm.exec) (hZ : Z.Warmed39 s.vm) (hown : s.vm.findClass own = some m.cls) (w1 : (Jvm.Cond.classLink own index C).before a0 Z = true) (w2 : (Jvm.Cond.arrayOver (.object C)).before a0 Z = true) (eT : T.heap = h) {g : JFrame} (hg : g.method = m) (hd : decode c.code g.pc = .ok (.anewarray index, 3)) {n : Int32} {rest : List Value} (hs : g.stack = .int n :: rest)
    (hn : ¬ n < 0) (hcap : n.toNatClampNeg ≤ cap) (hb : cap * 8 ≤ 536870912) (hc : cells + 1 ≤ R.cells) (hl : slots + cap ≤ R.slots)
    (k : ∀ T' h' b cA, Stand p l e R s m args below meth c T' locs (cells + 1) (slots + cap) → T'.heap = h' → Ext h h' → h.size ≤ b → Arv Z h' b cA (.object C) n (List.replicate cap .null) .null → Ovr Z cA C → Goes p e below E T' { g with pc := g.pc + 3, stack := .ref b :: rest }) : Goes p e below E T g := by
  obtain ⟨T', h', cA, X', e', E', A', O', st⟩ := newR X hx hZ hown w1 w2 eT hg hd hs hn hcap hb hc hl
  exact Goes.of st (k T' h' _ cA X' e' E' (Nat.le_refl _) ((Arv.new A' hn).pad (pad_rep [] _ cap)) O')
theorem inbV {cl : Cell} {z j : Int32} (S : cl.slots.size = z.toNatClampNeg) (hj : ¬ j < 0) (hj' : j < z) : ¬ (j < 0 ∨ cl.slots.size ≤ j.toNatClampNeg) := inb_of S ⟨hj, hj'⟩
theorem goStI {a : Addr} {kc : ClassId} {z j x : Int32} {vs : List Value} {dv : Value} (i : Nat) (X : Stand p l e R s m args below meth c T locs cells slots) (hx : p.tables.exec = Jvm.exec) (hZ : Z.Warmed39 s.vm) (eT : T.heap = h) (V : Arv Z h a kc .int z vs dv) (hj : ¬ j < 0) (hj' : j < z) (hi : j.toNatClampNeg = i) (hl : i < vs.length)
    {g : JFrame} (hg : g.method = m) {rest : List Value} (hs : g.stack = .int x :: .int j :: .ref a :: rest) (hd : decode c.code g.pc = .ok (.iastore, 1))
    (k : ∀ T' h', Stand p l e R s m args below meth c T' (locs ++ [⟨a, j.toNatClampNeg⟩]) cells slots → T'.heap = h' → Wr h h' a j.toNatClampNeg (.int x) → Arv Z h' a kc .int z (vs.set i (.int x)) dv → Goes p e below E T' { g with pc := g.pc + 1, stack := rest }) : Goes p e below E T g := by
  obtain ⟨cl, A, q1, S, q3, H, G⟩ := V
  obtain ⟨T', h', X', e', W', st⟩ := stI X hx hZ eT A (inbV S hj hj') hg hs hd
  exact Goes.of st (k T' h' X' e' W' (Arv.set A q1 S q3 H G rfl W' i hi hl))
theorem goStJ {a : Addr} {kc : ClassId} {z j : Int32} {x : Int64} {vs : List Value} {dv : Value} (i : Nat) (X : Stand p l e R s m args below meth c T locs cells slots) (hx : p.tables.exec = Jvm.exec) (hZ : Z.Warmed39 s.vm) (eT : T.heap = h) (V : Arv Z h a kc .long z vs dv) (hj : ¬ j < 0) (hj' : j < z) (hi : j.toNatClampNeg = i) (hl : i < vs.length)
    {g : JFrame} (hg : g.method = m) {rest : List Value} (hs : g.stack = .long x :: .int j :: .ref a :: rest) (hd : decode c.code g.pc = .ok (.lastore, 1))
    (k : ∀ T' h', Stand p l e R s m args below meth c T' (locs ++ [⟨a, j.toNatClampNeg⟩]) cells slots → T'.heap = h' → Wr h h' a j.toNatClampNeg (.long x) → Arv Z h' a kc .long z (vs.set i (.long x)) dv → Goes p e below E T' { g with pc := g.pc + 1, stack := rest }) : Goes p e below E T g := by
  obtain ⟨cl, A, q1, S, q3, H, G⟩ := V
  obtain ⟨T', h', X', e', W', st⟩ := stJ X hx hZ eT A (inbV S hj hj') hg hs hd
  exact Goes.of st (k T' h' X' e' W' (Arv.set A q1 S q3 H G rfl W' i hi hl))
theorem goStC {a : Addr} {kc : ClassId} {z j x : Int32} {vs : List Value} {dv : Value} (i : Nat) (X : Stand p l e R s m args below meth c T locs cells slots) (hx : p.tables.exec = Jvm.exec) (hZ : Z.Warmed39 s.vm) (eT : T.heap = h) (V : Arv Z h a kc .char z vs dv) (hj : ¬ j < 0) (hj' : j < z) (hi : j.toNatClampNeg = i) (hl : i < vs.length)
    {g : JFrame} (hg : g.method = m) {rest : List Value} (hs : g.stack = .int x :: .int j :: .ref a :: rest) (hd : decode c.code g.pc = .ok (.castore, 1))
    (k : ∀ T' h', Stand p l e R s m args below meth c T' (locs ++ [⟨a, j.toNatClampNeg⟩]) cells slots → T'.heap = h' → Wr h h' a j.toNatClampNeg (.int (nar .char x)) → Arv Z h' a kc .char z (vs.set i (.int (nar .char x))) dv → Goes p e below E T' { g with pc := g.pc + 1, stack := rest }) : Goes p e below E T g := by
  obtain ⟨cl, A, q1, S, q3, H, G⟩ := V
  obtain ⟨T', h', X', e', W', st⟩ := stC X hx hZ eT A (inbV S hj hj') hg hs hd
  exact Goes.of st (k T' h' X' e' W' (Arv.set A q1 S q3 H G (fits_nar_char _) W' i hi hl))
theorem goStB {a : Addr} {kc : ClassId} {z j x : Int32} {vs : List Value} {dv : Value} (i : Nat) (X : Stand p l e R s m args below meth c T locs cells slots) (hx : p.tables.exec = Jvm.exec) (hZ : Z.Warmed39 s.vm) (eT : T.heap = h) (V : Arv Z h a kc .byte z vs dv) (hj : ¬ j < 0) (hj' : j < z) (hi : j.toNatClampNeg = i) (hl : i < vs.length)
    {g : JFrame} (hg : g.method = m) {rest : List Value} (hs : g.stack = .int x :: .int j :: .ref a :: rest) (hd : decode c.code g.pc = .ok (.bastore, 1))
    (k : ∀ T' h', Stand p l e R s m args below meth c T' (locs ++ [⟨a, j.toNatClampNeg⟩]) cells slots → T'.heap = h' → Wr h h' a j.toNatClampNeg (.int (nar .byte x)) → Arv Z h' a kc .byte z (vs.set i (.int (nar .byte x))) dv → Goes p e below E T' { g with pc := g.pc + 1, stack := rest }) : Goes p e below E T g := by
  obtain ⟨cl, A, q1, S, q3, H, G⟩ := V
  obtain ⟨T', h', X', e', W', st⟩ := stB X hx hZ eT A (inbV S hj hj') hg hs hd
  exact Goes.of st (k T' h' X' e' W' (Arv.set A q1 S q3 H G (fits_nar_byte _) W' i hi hl))
theorem goStZ {a : Addr} {kc : ClassId} {z j x : Int32} {vs : List Value} {dv : Value} (i : Nat) (X : Stand p l e R s m args below meth c T locs cells slots) (hx : p.tables.exec = Jvm.exec) (hZ : Z.Warmed39 s.vm) (eT : T.heap = h) (V : Arv Z h a kc .boolean z vs dv) (hj : ¬ j < 0) (hj' : j < z) (hi : j.toNatClampNeg = i) (hl : i < vs.length)
    {g : JFrame} (hg : g.method = m) {rest : List Value} (hs : g.stack = .int x :: .int j :: .ref a :: rest) (hd : decode c.code g.pc = .ok (.bastore, 1))
    (k : ∀ T' h', Stand p l e R s m args below meth c T' (locs ++ [⟨a, j.toNatClampNeg⟩]) cells slots → T'.heap = h' → Wr h h' a j.toNatClampNeg (.int (nar .boolean x)) → Arv Z h' a kc .boolean z (vs.set i (.int (nar .boolean x))) dv → Goes p e below E T' { g with pc := g.pc + 1, stack := rest }) : Goes p e below E T g := by
  obtain ⟨cl, A, q1, S, q3, H, G⟩ := V
  obtain ⟨T', h', X', e', W', st⟩ := stZ X hx hZ eT A (inbV S hj hj') hg hs hd
  exact Goes.of st (k T' h' X' e' W' (Arv.set A q1 S q3 H G (fits_nar_bool _) W' i hi hl))
theorem goStR {a y : Addr} {C : String} {kc : ClassId} {z j : Int32} {vs : List Value} {dv : Value} (i : Nat) (X : Stand p l e R s m args below meth c T locs cells slots) (hx : p.tables.exec = Jvm.exec) (hZ : Z.Warmed39 s.vm) (eT : T.heap = h) (V : Arv Z h a kc (.object C) z vs dv) (O : Ovr Z kc C) (I : Ins Z h y C true) (hj : ¬ j < 0) (hj' : j < z) (hi : j.toNatClampNeg = i) (hl : i < vs.length)
    {g : JFrame} (hg : g.method = m) {rest : List Value} (hs : g.stack = .ref y :: .int j :: .ref a :: rest) (hd : decode c.code g.pc = .ok (.aastore, 1))
    (k : ∀ T' h', Stand p l e R s m args below meth c T' (locs ++ [⟨a, j.toNatClampNeg⟩]) cells slots → T'.heap = h' → Wr h h' a j.toNatClampNeg (.ref y) → Arv Z h' a kc (.object C) z (vs.set i (.ref y)) dv → Goes p e below E T' { g with pc := g.pc + 1, stack := rest }) : Goes p e below E T g := by
  obtain ⟨cl, A, q1, S, q3, H, G⟩ := V
  obtain ⟨T', h', X', e', W', st⟩ := stR X hx hZ eT A (inbV S hj hj') rfl (Sto.ofV A q1 O I) hg hs hd
  exact Goes.of st (k T' h' X' e' W' (Arv.set A q1 S q3 H G rfl W' i hi hl))
theorem goLdI {a : Addr} {kc : ClassId} {z j : Int32} {vs : List Value} {dv : Value} (v : Value) (X : Stand p l e R s m args below meth c T locs cells slots) (hx : p.tables.exec = Jvm.exec) (hZ : Z.Warmed39 s.vm) (eT : T.heap = h) (V : Arv Z h a kc .int z vs dv) (hj : ¬ j < 0) (hj' : j < z) (hv : vs.getD j.toNatClampNeg dv = v)
    {g : JFrame} (hg : g.method = m) {rest : List Value} (hs : g.stack = .int j :: .ref a :: rest) (hd : decode c.code g.pc = .ok (.iaload, 1)) (k : Goes p e below E T { g with pc := g.pc + 1, stack := v :: rest }) : Goes p e below E T g := by
  obtain ⟨cl, A, q1, S, q3, H, G⟩ := V
  exact Goes.of (fun t q => X.iaload hx (by rw [eT]; exact A.1) (State.isArrayOf_alike hZ.alike A.2.1) A.2.2 (inbV S hj hj') (H.at (inbV S hj hj') hv) hg hs hd t q) k
theorem goLdJ {a : Addr} {kc : ClassId} {z j : Int32} {vs : List Value} {dv : Value} (v : Value) (X : Stand p l e R s m args below meth c T locs cells slots) (hx : p.tables.exec = Jvm.exec) (hZ : Z.Warmed39 s.vm) (eT : T.heap = h) (V : Arv Z h a kc .long z vs dv) (hj : ¬ j < 0) (hj' : j < z) (hv : vs.getD j.toNatClampNeg dv = v)
    {g : JFrame} (hg : g.method = m) {rest : List Value} (hs : g.stack = .int j :: .ref a :: rest) (hd : decode c.code g.pc = .ok (.laload, 1)) (k : Goes p e below E T { g with pc := g.pc + 1, stack := v :: rest }) : Goes p e below E T g := by
  obtain ⟨cl, A, q1, S, q3, H, G⟩ := V
  exact Goes.of (fun t q => X.laload hx (by rw [eT]; exact A.1) (State.isArrayOf_alike hZ.alike A.2.1) A.2.2 (inbV S hj hj') (H.at (inbV S hj hj') hv) hg hs hd t q) k
theorem goLdC {a : Addr} {kc : ClassId} {z j : Int32} {vs : List Value} {dv : Value} (v : Value) (X : Stand p l e R s m args below meth c T locs cells slots) (hx : p.tables.exec = Jvm.exec) (hZ : Z.Warmed39 s.vm) (eT : T.heap = h) (V : Arv Z h a kc .char z vs dv) (hj : ¬ j < 0) (hj' : j < z) (hv : vs.getD j.toNatClampNeg dv = v)
    {g : JFrame} (hg : g.method = m) {rest : List Value} (hs : g.stack = .int j :: .ref a :: rest) (hd : decode c.code g.pc = .ok (.caload, 1)) (k : Goes p e below E T { g with pc := g.pc + 1, stack := v :: rest }) : Goes p e below E T g := by
  obtain ⟨cl, A, q1, S, q3, H, G⟩ := V
  exact Goes.of (fun t q => X.caload hx (by rw [eT]; exact A.1) (State.isArrayOf_alike hZ.alike A.2.1) A.2.2 (inbV S hj hj') (H.at (inbV S hj hj') hv) hg hs hd t q) k
theorem goLdB {a : Addr} {kc : ClassId} {z j : Int32} {vs : List Value} {dv : Value} (v : Value) (X : Stand p l e R s m args below meth c T locs cells slots) (hx : p.tables.exec = Jvm.exec) (hZ : Z.Warmed39 s.vm) (eT : T.heap = h) (V : Arv Z h a kc .byte z vs dv) (hj : ¬ j < 0) (hj' : j < z) (hv : vs.getD j.toNatClampNeg dv = v)
    {g : JFrame} (hg : g.method = m) {rest : List Value} (hs : g.stack = .int j :: .ref a :: rest) (hd : decode c.code g.pc = .ok (.baload, 1)) (k : Goes p e below E T { g with pc := g.pc + 1, stack := v :: rest }) : Goes p e below E T g := by
  obtain ⟨cl, A, q1, S, q3, H, G⟩ := V
  exact Goes.of (fun t q => X.baloadBytes hx (by rw [eT]; exact A.1) (State.isArrayOf_alike hZ.alike A.2.1) A.2.2 (inbV S hj hj') (H.at (inbV S hj hj') hv) hg hs hd t q) k
theorem goLdZ {a : Addr} {kc : ClassId} {z j : Int32} {vs : List Value} {dv : Value} (v : Value) (X : Stand p l e R s m args below meth c T locs cells slots) (hx : p.tables.exec = Jvm.exec) (hZ : Z.Warmed39 s.vm) (eT : T.heap = h) (V : Arv Z h a kc .boolean z vs dv) (hj : ¬ j < 0) (hj' : j < z) (hv : vs.getD j.toNatClampNeg dv = v)
    {g : JFrame} (hg : g.method = m) {rest : List Value} (hs : g.stack = .int j :: .ref a :: rest) (hd : decode c.code g.pc = .ok (.baload, 1)) (k : Goes p e below E T { g with pc := g.pc + 1, stack := v :: rest }) : Goes p e below E T g := by
  obtain ⟨cl, A, q1, S, q3, H, G⟩ := V
  exact Goes.of (fun t q => X.baloadBooleans hx (by rw [eT]; exact A.1) (State.isArrayOf_alike hZ.alike A.2.1) A.2.2 (inbV S hj hj') (H.at (inbV S hj hj') hv) hg hs hd t q) k
theorem goLdR {a : Addr} {C : String} {kc : ClassId} {z j : Int32} {vs : List Value} {dv : Value} (v : Value) (X : Stand p l e R s m args below meth c T locs cells slots) (hx : p.tables.exec = Jvm.exec) (hZ : Z.Warmed39 s.vm) (eT : T.heap = h) (V : Arv Z h a kc (.object C) z vs dv) (hj : ¬ j < 0) (hj' : j < z) (hv : vs.getD j.toNatClampNeg dv = v)
    {g : JFrame} (hg : g.method = m) {rest : List Value} (hs : g.stack = .int j :: .ref a :: rest) (hd : decode c.code g.pc = .ok (.aaload, 1)) (k : Goes p e below E T { g with pc := g.pc + 1, stack := v :: rest }) : Goes p e below E T g := by
  obtain ⟨cl, A, q1, S, q3, H, G⟩ := V
  exact Goes.of (fun t q => X.aaload hx (by rw [eT]; exact A.1) (State.isArrayOf_alike hZ.alike A.2.1) rfl A.2.2 (inbV S hj hj') (H.at (inbV S hj hj') hv) hg hs hd t q) k
theorem goLen {a : Addr} {kc : ClassId} {ty : FieldType} {z : Int32} {vs : List Value} {dv : Value} (X : Stand p l e R s m args below meth c T locs cells slots) (hx : p.tables.exec = Jvm.exec) (hZ : Z.Warmed39 s.vm) (eT : T.heap = h) (V : Arv Z h a kc ty z vs dv)
    {g : JFrame} (hg : g.method = m) {rest : List Value} (hs : g.stack = .ref a :: rest) (hd : decode c.code g.pc = .ok (.arraylength, 1)) (k : Goes p e below E T { g with pc := g.pc + 1, stack := .int z :: rest }) : Goes p e below E T g := by
  obtain ⟨cl, A, q1, S, q3, H, G⟩ := V
  exact Goes.of (fun t q => X.arraylength hx (by rw [eT]; exact A.1) (State.isArrayOf_alike hZ.alike A.2.1) hg hs hd t (by rw [len_of S q3]; exact q)) k
/-- a start fact out of a case's word -/
theorem fld_of_eq {args : Array Value} {t u : Term} {C n d : String} {a : Addr} {v : Value} (ev : t.eval args s none [] s = some (.ref a)) (hu : u.eval args s none [] s = some v) (h : (Jvm.Cond.eq (.field t C n d) u).value args s none s [] = some true) : Fld s s.heap a C n d v := by
  refine Fld.start ?_
  simp only [Jvm.Cond.value, fld_at ev, hu] at h
  cases hf : s.fieldOf? a C n d with
  | none => simp [hf] at h
  | some x => cases x <;> cases v <;> simp [hf] at h ⊢ <;> exact h
theorem sta_at {args : Array Value} {C n d : String} {v : Value} (ev : (Term.static C n d).eval args s none [] s = some v) (w1 : (Jvm.Cond.initialized C).before args s = true) (w2 : (Jvm.Cond.laysStatic C n d).before args s = true) : Sta s s.heap C n d v := Sta.start ev (Or.inr ⟨w1, w2⟩)
/-- an enum constant: the static, the object's class, its ordinal -/
def Con (Z : State) (C f : String) (d : String) (k : Int32) (a : Addr) : Prop := Sta Z Z.heap C f d (.ref a) ∧ Exa Z Z.heap a C ∧ Fld Z Z.heap a "java/lang/Enum" "ordinal" "I" (.int k)
theorem con_of {args : Array Value} {C f d : String} {k : Int32} (h1 : (Jvm.Cond.exactly (.static C f d) C).value args s none s [] = some true) (h2 : (Jvm.Cond.eq (.field (.static C f d) "java/lang/Enum" "ordinal" "I") (.int k)).value args s none s [] = some true)
    (w1 : (Jvm.Cond.initialized C).before args s = true) (w2 : (Jvm.Cond.laysStatic C f d).before args s = true) : ∃ a, Con s C f d k a ∧ (Term.static C f d).eval args s none [] s = some (.ref a) := by
  obtain ⟨a, ev⟩ := exa_v h1
  exact ⟨a, ⟨sta_at ev w1 w2, Exa.start ev h1, fld_of_eq ev (Term.int_eval k) h2⟩, ev⟩
theorem Con.ne {C f d C' f' d' : String} {k k' : Int32} {a b : Addr} (F : Con Z C f d k a) (G : Con Z C' f' d' k' b) (q : k ≠ k') : a ≠ b := Fld.ne F.2.2 G.2.2 (fun h => q (Value.int.inj h))
theorem mask31 (x : Int32) : (x &&& (2147483647 : Int32)).toInt = x.toInt % 2147483648 := c_mask x _ 31 (by decide) (by decide)
theorem div_pos (x y : Int32) {k : Int} (hx : ¬ x < 0) (hy : y.toInt = k) (h1 : y ≠ -1) : (x / y).toInt = x.toInt / k := (c_idiv x y k hy h1).1 (by rw [Int32.lt_iff_toInt_lt] at hx; have : (0 : Int32).toInt = 0 := rfl; omega)
theorem rem_pos {x y : Int32} {k : Int} (h : 0 ≤ x.toInt) (hy : y.toInt = k) : (x - (x / y) * y).toInt = x.toInt % k := by
  rw [irem_eq_mod]; exact (c_irem x y k hy).1 h
theorem rem31 (x y : Int32) {k : Int} (hy : y.toInt = k) : ((x &&& (2147483647 : Int32)) - ((x &&& (2147483647 : Int32)) / y) * y).toInt = (x.toInt % 2147483648) % k := by
  have e := mask31 x
  rw [rem_pos (by omega) hy, e]
def Cst (Z : State) (C f : String) (d : String) (a : Addr) : Prop := Sta Z Z.heap C f d (.ref a) ∧ Exa Z Z.heap a C
theorem cst_of {args : Array Value} {C f d : String} (h1 : (Jvm.Cond.exactly (.static C f d) C).value args s none s [] = some true)
    (w1 : (Jvm.Cond.initialized C).before args s = true) (w2 : (Jvm.Cond.laysStatic C f d).before args s = true) : ∃ a, Cst s C f d a ∧ (Term.static C f d).eval args s none [] s = some (.ref a) := by
  obtain ⟨a, ev⟩ := exa_v h1
  exact ⟨a, ⟨sta_at ev w1 w2, Exa.start ev h1⟩, ev⟩
theorem goClone {own ad : String} {index : Nat} {ty : FieldType} {a : Addr} {kc : ClassId} {z : Int32} {vs : List Value} {dv : Value} (W cap : Nat) (X : Stand p l e R s m args below meth c T locs cells slots) (hx : p.tables.exec = Jvm.exec) (hZ : Z.Warmed39 s.vm) (hown : s.vm.findClass own = some m.cls)
    (w1 : (Jvm.Cond.methodLink own index ⟨ad, "clone", "()Ljava/lang/Object;"⟩).before a0 Z = true) (w2 : (Jvm.Cond.sameMethod ad "java/lang/Object" "clone" "()Ljava/lang/Object;").before a0 Z = true) (w3 : (Jvm.Cond.native ⟨"java/lang/Object", "clone", "()Ljava/lang/Object;"⟩).before a0 Z = true)
    (w4 : (Jvm.Cond.instanceMethod ⟨"java/lang/Object", "clone", "()Ljava/lang/Object;"⟩).before a0 Z = true) (w5 : (Jvm.Cond.selects ad ⟨ad, "clone", "()Ljava/lang/Object;"⟩ ⟨"java/lang/Object", "clone", "()Ljava/lang/Object;"⟩).before a0 Z = true) (w6 : (Jvm.Cond.castable ad "java/lang/Cloneable").before a0 Z = true)
    (eT : T.heap = h) (V : Arv Z h a kc ty z vs dv) (Ex : Exa Z h a ad) {g : JFrame} (hg : g.method = m) (hsize : g.locals.size = c.maxLocals) {rest : List Value} (hst : g.stack = .ref a :: rest) (hd : decode c.code g.pc = .ok (.invokevirtual index, 3))
    (hf : 1 ≤ R.frames) (hW : 2 * g.monitorRoom + (rest.map fun v => v.category).sum ≤ W) (hl : W + 14 ≤ R.locals) (hcap : z.toNatClampNeg ≤ cap) (hc : cells + 1 ≤ R.cells) (hsl : slots + cap ≤ R.slots)
    (k : ∀ T' h' b, Stand p l e R s m args below meth c T' locs (cells + 1) (slots + cap) → T'.heap = h' → Ext h h' → h.size ≤ b → Arv Z h' b kc ty z vs dv → Exa Z h' b ad → Goes p e below E T' { g with pc := g.pc + 3, stack := .ref b :: rest }) : Goes p e below E T g := by
  obtain ⟨T', h', X', e', E', A', Ex', st⟩ := cloneH X hx hZ hown w1 w2 w3 w4 w5 w6 eT V.arh Ex hg hsize hst hd hf hW hl hcap hc hsl
  exact Goes.of st (k T' h' _ X' e' E' (Nat.le_refl _) A' Ex')
theorem nsRoot {O K : String} {n : Nat} (w : (Jvm.Cond.noSuperclass O).before a0 Z = true) (wk : (Jvm.Cond.instantiable K n).before a0 Z = true) (hn : O ≠ K) : NS Z O K := by
  obtain ⟨c, k, h1, h2, h3, -, -⟩ := Cond.noSuperclass_spec w
  obtain ⟨t, kt, g1, -⟩ := Cond.instantiable_spec wk
  have ne := ids_ne h1 g1 hn
  refine ⟨c, t, h1, g1, fun fuel => ?_⟩
  cases fuel with
  | zero => rfl
  | succ f => simp [Vm.isSubclassAux, ne, h2, h3]
theorem nsNo {C S K : String} {n : Nat} (w : (Jvm.Cond.superclass C S).before a0 Z = true) (wk : (Jvm.Cond.instantiable K n).before a0 Z = true) (q : NS Z C K) (hn : C ≠ K) : ∃ c t, Z.vm.findClass C = some c ∧ Z.vm.findClass K = some t ∧ Z.vm.assignable c t = false := by
  obtain ⟨c, t, h0, g0, n3⟩ := q
  obtain ⟨p, k, kp, h1, h2, h3, h4, h5, -, h7⟩ := Cond.superclass_spec h0 w
  obtain ⟨t', kt, g1, g2, g5, g7, -⟩ := Cond.instantiable_spec wk
  cases g0.symm.trans g1
  have g8 : kt.isInterface = false := by simp only [Bool.or_eq_false_iff] at g7; exact g7.1
  have ne := ids_ne h0 g0 hn
  refine ⟨c, t, h0, g0, ?_⟩
  show Z.vm.assignableAux (255 + 1) c t = false
  simp [Vm.assignableAux, ne, h2, g2, h5, g5, g8, Vm.isSubclass, n3]
/-- what is known of Integer's cache at the start -/
def IntC (Z : State) (ca : Addr) (cl : Cell) : Prop := Sta Z Z.heap "java/lang/Integer$IntegerCache" "high" "I" (.int 127) ∧ Sta Z Z.heap "java/lang/Integer$IntegerCache" "cache" "[Ljava/lang/Integer;" (.ref ca) ∧ Arr Z Z.heap ca cl (.object "java/lang/Integer") ∧ cl.slots.size = 256 ∧ ∀ j, j < 256 → ∃ b, cl.slots[j]? = some (.ref b) ∧ Exa Z Z.heap b "java/lang/Integer"
theorem ne_of_not {args : Array Value} {t : Term} {x : Int32} (ev : t.eval args s none [] s = some (.int x)) (h : (Jvm.Cond.not (.eq t (.int 0))).before args s = true) : ¬ x = 0 := by
  intro q
  subst q
  have e := Cond.before_iff.mp h
  simp [Jvm.Cond.value, ev, Term.eval] at e
end Own1
end Jvm.Own
namespace Jvm.Own
open Jvm Sem ClassFile Op Lib Jvm.Stand Jvm.Free Jvm.LawKit Jvm.RoadKit
/-- the end of a walk that may have interned -/
def EndW (Z s : State) (EL : List (String × Nat)) (Q : Option Value → Heap → List Loc → Prop) (K N : Nat) (o : Outcome) (U : State) : Prop :=
  ∃ v L, o = .returned v ∧ Q v U.heap L ∧ CHr Z EL s.vm s.heap U.vm U.heap ∧ ReturnedEndW s o U L K N
/-- the contract of a body that may intern, the read constants held -/
def RmH (l : Launch) (y : MethodName) (bytes : ByteArray) (maxL : Nat) (ret : Option FieldType) (rm : Room) (ws : List Jvm.Cond) (Z : State) (EL : List (String × Nat)) (as' : Array Value) (h : Heap) (Q : Option Value → Heap → List Loc → Prop) : Prop :=
  MetFree l y (head1 (Jvm.Cond.code y bytes maxL ret :: ws) rm) (fun a U => a = as' ∧ Z.Warmed39 U.vm ∧ U.heap = h ∧ CHv Z EL U.vm h) (fun _ _ _ _ _ => True) (fun _ U o U' => ∃ v L, o = .returned v ∧ Q v U'.heap L ∧ CHr Z EL U.vm U.heap U'.vm U'.heap ∧ ReturnedEndW U o U' L rm.cells rm.slots)
section Own2
variable {p : Program} {l : Launch} {e : Env} {R : Room} {s : State} {m : MethodId} {args : Array Value} {below : List Frame} {meth : Method} {c : Code} {T : State} {locs : List Loc} {cells slots : Nat} {Z : State} {a0 : Array Value} {h : Heap} {E : Outcome → State → Prop} {vm0 : Vm} {k0 : Nat} {EL : List (String × Nat)} {v00 : Vm} {h00 : Heap}
theorem RmH.of {ws : List Jvm.Cond} {y : MethodName} {bytes : ByteArray} {maxL : Nat} {ret : Option FieldType} {rm : Room} {as' : Array Value} {h : Heap} {Q : Option Value → Heap → List Loc → Prop} (hp : plainFor y = true)
    (body : ∀ (p : Program) (e : Env) (s : State) (m : MethodId) (below : List Frame) (meth : Method) (c : Code) (T : State), Stand p l e rm (s.setVm s.vm) m as' below meth c T [] 0 0 → p.tables.exec = Jvm.exec → Z.Warmed39 s.vm → c.code = bytes → c.maxLocals = maxL → s.vm.findClass y.cls = some m.cls → meth.name = y.name → meth.sig.returnType = ret → meth.locks = false → T.heap = h → s.Since s.vm 0 → 0 ≤ h.size → CHr Z EL s.vm s.heap s.vm h →
      Goes p e below (EndW Z s EL Q rm.cells rm.slots) T (entryFrame m as' maxL)) : RmH l y bytes maxL ret rm ws Z EL as' h Q := by
  refine MetFree.of_bodySF hp hisR ?_
  intro p e s m args below meth c s₁ Bd hml0 hP hK
  obtain ⟨rfl, hZ, hh, hC⟩ := hP
  exact body p e s m below meth c s₁ (Stand.of_body Bd) Bd.exec hZ Bd.bytes hml0 (findClass_of_methodNamed Bd.named) (name_of_methodNamed Bd.named Bd.method).1 Bd.returns Bd.notSynchronized (by rw [← hh, Bd.state]; rfl) ((State.WarmedH.refl s).since 0) (Nat.zero_le _) (by rw [hh]; exact CHr.refl hC)
theorem goRetW {Q : Option Value → Heap → List Loc → Prop} {K N : Nat} {g : JFrame} {v : Option Value} (X : Stand p l e R (s.setVm vm0) m args below meth c T locs cells slots) (hS : s.Since vm0 k0) (hk : k0 ≤ h.size) (hZ : Z.Warmed39 vm0) (hEL : EW Z a0 EL) (H : CHr Z EL s.vm s.heap vm0 h) (hv : meth.sig.returnType = none → v = none) (hlocks : meth.locks = false) (eT : T.heap = h) (hQ : Q v h locs) (hK : cells ≤ K) (hN : slots ≤ N)
    (st : ∀ fs, (∀ (f : JFrame) (acts : List Action), f.method = m → f.locked = none → f.entered = [] → (doReturn e (T.setTop f) acts v).1 = T.setFrames fs) → Steps p.tables e below (T.setTop g) (T.setFrames fs)) : Goes p e below (EndW Z s EL Q K N) T g := by
  obtain ⟨fs, hr, hrun, hended, hW⟩ := X.leaveW hS (by rw [eT]; exact hk) (v := v) hv hlocks
  subst eT
  have hH := H.trans (CHv.at X hZ hEL H.1)
  exact ⟨_, _, st fs hr, hrun, hended, _, _, rfl, hQ, hH, hW.1, hW.2.1, hW.2.2.1, hW.2.2.2.mono hK hN⟩
theorem retZW {Q : Option Value → Heap → List Loc → Prop} {K N pc : Nat} {Ls : Array Slot} {z : Int32} {t : FieldType} {rest : List Value} (X : Stand p l e R (s.setVm vm0) m args below meth c T locs cells slots) (hS : s.Since vm0 k0) (hk : k0 ≤ h.size) (hZ : Z.Warmed39 vm0) (hEL : EW Z a0 EL) (H : CHr Z EL s.vm s.heap vm0 h) (hx : p.tables.exec = Jvm.exec) (hret : meth.sig.returnType = some t) (hlocks : meth.locks = false) (ht : t = .boolean ∨ t = .byte ∨ t = .char ∨ t = .short)
    (hd : decode c.code pc = .ok (.ireturn, 1)) (eT : T.heap = h) (hK : cells ≤ K) (hN : slots ≤ N) (hQ : Q (some (.int (nar t z))) h locs) : Goes p e below (EndW Z s EL Q K N) T (mkF m pc Ls (.int z :: rest)) :=
  goRetW X hS hk hZ hEL H (fun q => by rw [hret] at q; cases q) hlocks eT hQ hK hN fun fs hr => retN X hx hret ht hd hr
theorem retRefW {Q : Option Value → Heap → List Loc → Prop} {K N pc : Nat} {Ls : Array Slot} {z : Value} {t : FieldType} {rest : List Value} (X : Stand p l e R (s.setVm vm0) m args below meth c T locs cells slots) (hS : s.Since vm0 k0) (hk : k0 ≤ h.size) (hZ : Z.Warmed39 vm0) (hEL : EW Z a0 EL) (H : CHr Z EL s.vm s.heap vm0 h) (hx : p.tables.exec = Jvm.exec) (hret : meth.sig.returnType = some t) (hlocks : meth.locks = false) (ht : t.isReference = true) (hz : z.isRef = true)
    (hd : decode c.code pc = .ok (.areturn, 1)) (eT : T.heap = h) (hK : cells ≤ K) (hN : slots ≤ N) (hQ : Q (some z) h locs) : Goes p e below (EndW Z s EL Q K N) T (mkF m pc Ls (z :: rest)) :=
  goRetW X hS hk hZ hEL H (fun q => by rw [hret] at q; cases q) hlocks eT hQ hK hN fun fs hr => by
    have hm' : T.vm.method? m = some meth := X.method'
    show Steps p.tables e below (T.setTop { method := m, pc := pc, locals := Ls, stack := _ :: rest, locked := none }) _
    rcases ref_cases hz with rfl | ⟨_, rfl⟩
    all_goals
      jvm_step X.here [X.here.top, hx, hd, hm', hret, ht, Value.isRef]
      first | (intro acts; rw [hr _ acts rfl rfl rfl]) | rw [hr _ _ rfl rfl rfl]
      exact Steps.refl _
theorem retIntW {Q : Option Value → Heap → List Loc → Prop} {K N pc : Nat} {Ls : Array Slot} {z : Int32} {rest : List Value} (X : Stand p l e R (s.setVm vm0) m args below meth c T locs cells slots) (hS : s.Since vm0 k0) (hk : k0 ≤ h.size) (hZ : Z.Warmed39 vm0) (hEL : EW Z a0 EL) (H : CHr Z EL s.vm s.heap vm0 h) (hx : p.tables.exec = Jvm.exec) (hret : meth.sig.returnType = some .int) (hlocks : meth.locks = false)
    (hd : decode c.code pc = .ok (.ireturn, 1)) (eT : T.heap = h) (hK : cells ≤ K) (hN : slots ≤ N) (hQ : Q (some (.int z)) h locs) : Goes p e below (EndW Z s EL Q K N) T (mkF m pc Ls (.int z :: rest)) :=
  goRetW X hS hk hZ hEL H (fun q => by rw [hret] at q; cases q) hlocks eT hQ hK hN fun fs hr => by
    have hm' : T.vm.method? m = some meth := X.method'
    have hn : narrow .int (.int z) = .int z := rfl
    show Steps p.tables e below (T.setTop { method := m, pc := pc, locals := Ls, stack := _ :: rest, locked := none }) _
    jvm_step X.here [X.here.top, hx, hd, hm', hret, hn]
    first | (intro acts; rw [hr _ acts rfl rfl rfl]) | rw [hr _ _ rfl rfl rfl]
    exact Steps.refl _
theorem retVoidW {Q : Option Value → Heap → List Loc → Prop} {K N pc : Nat} {Ls : Array Slot} {rest : List Value} (X : Stand p l e R (s.setVm vm0) m args below meth c T locs cells slots) (hS : s.Since vm0 k0) (hk : k0 ≤ h.size) (hZ : Z.Warmed39 vm0) (hEL : EW Z a0 EL) (H : CHr Z EL s.vm s.heap vm0 h) (hx : p.tables.exec = Jvm.exec) (hret : meth.sig.returnType = none) (hlocks : meth.locks = false)
    (hd : decode c.code pc = .ok (.return_, 1)) (eT : T.heap = h) (hK : cells ≤ K) (hN : slots ≤ N) (hQ : Q none h locs) : Goes p e below (EndW Z s EL Q K N) T (mkF m pc Ls rest) :=
  goRetW X hS hk hZ hEL H (fun _ => rfl) hlocks eT hQ hK hN fun fs hr => by
    have hm' : T.vm.method? m = some meth := X.method'
    show Steps p.tables e below (T.setTop { method := m, pc := pc, locals := Ls, stack := rest, locked := none }) _
    jvm_step X.here [X.here.top, hx, hd, hm', hret]
    first | (intro acts; rw [hr _ acts rfl rfl rfl]) | rw [hr _ _ rfl rfl rfl]
    exact Steps.refl _
theorem goStaticW {own : String} {index : Nat} {y : MethodName} {bytes : ByteArray} {maxL : Nat} {ret : Option FieldType} {rm : Room} {as' : Array Value} {Q : Option Value → Heap → List Loc → Prop} (W : Nat)
    (X : Stand p l e R (s.setVm vm0) m args below meth c T locs cells slots) (hS : s.Since vm0 k0) (hk : k0 ≤ h.size) (hEL : EW Z a0 EL) (H : CHr Z EL v00 h00 vm0 h) (hx : p.tables.exec = Jvm.exec) (hZ : Z.Warmed39 vm0) (hown : vm0.findClass own = some m.cls) (w1 : (Jvm.Cond.methodLink own index y).before a0 Z = true) (w2 : (Jvm.Cond.static y).before a0 Z = true) (w3 : (Jvm.Cond.initialized y.cls).before a0 Z = true) (w4 : (Jvm.Cond.code y bytes maxL ret).before a0 Z = true)
    (hy : y.cls ≠ "java/lang/invoke/MethodHandle" ∧ y.cls ≠ "java/lang/invoke/VarHandle") (r : RmH l y bytes maxL ret rm [] Z EL as' h Q) (eT : T.heap = h) {g : JFrame} (hg : g.method = m) (hsize : g.locals.size = c.maxLocals) (argsL rest : List Value) (hlen : ∀ sig, parseMethodDescriptor y.desc = some sig → argsL.length = sig.parameters.length)
    (hstack : g.stack = argsL.reverse ++ rest) (has : argsL.toArray = as') (hW : 2 * g.monitorRoom + (rest.map fun v => v.category).sum ≤ W) (hd : decode c.code g.pc = .ok (.invokestatic index, 3)) (hf : rm.frames + 1 ≤ R.frames) (hl : W + (maxL + 11) + rm.locals ≤ R.locals) (hc : cells + rm.cells ≤ R.cells) (hs : slots + rm.slots ≤ R.slots)
    (k : ∀ v T' L k1, Stand p l e R (s.setVm T'.vm) m args below meth c T' (locs ++ L) (cells + rm.cells) (slots + rm.slots) → s.Since T'.vm k1 → k1 ≤ T'.heap.size → Z.Warmed39 T'.vm → T'.vm.findClass own = some m.cls → CHr Z EL v00 h00 T'.vm T'.heap → Q v T'.heap L → Goes p e below E T' { g with pc := g.pc + 3, stack := v.toList ++ rest }) : Goes p e below E T g := by
  obtain ⟨v, vm₁, ⟨T', L', k', n'⟩, -, X', hS', hgr, ⟨L, hQ, q1, q2, q3, hC⟩, st⟩ := callSS X hx (y := y) hown (mvT (s := s.setVm vm0) hZ w1) (mvT (s := s.setVm vm0) hZ w2) (mvT (s := s.setVm vm0) hZ w3) (mvT (s := s.setVm vm0) hZ w4) hy (backOfSH (W := W) r hZ w4 w3 hf hl hEL H.1) hg hsize hlen hstack hW hd (fun _ _ => ⟨has, eT, hc, hs⟩)
  dsimp only [Pt.U, Pt.locs, Pt.cells, Pt.slots] at X' q1 q2 q3 st hQ hS' hgr hC
  subst q1 q2 q3
  exact Goes.of (fun _ => st.trans) (k v T' L _ X' (hS.trans hS' (Nat.le_trans hk (eT ▸ hgr))) (Nat.le_refl _) (State.Warmed39.trans (t := s.setVm vm0) hZ hS'.1) (by rw [hS'.1.alike.findClass]; exact hown) (H.trans hC) hQ)
theorem goSpecialW {own : String} {index : Nat} {y : MethodName} {bytes : ByteArray} {maxL : Nat} {rm : Room} {as' : Array Value} {Q : Option Value → Heap → List Loc → Prop} (W : Nat)
    (X : Stand p l e R (s.setVm vm0) m args below meth c T locs cells slots) (hS : s.Since vm0 k0) (hk : k0 ≤ h.size) (hEL : EW Z a0 EL) (H : CHr Z EL v00 h00 vm0 h) (hx : p.tables.exec = Jvm.exec) (hZ : Z.Warmed39 vm0) (hy1 : y.name = "<init>") (hown : vm0.findClass own = some m.cls) (w1 : (Jvm.Cond.methodLink own index y).before a0 Z = true) (w2 : (Jvm.Cond.instanceMethod y).before a0 Z = true) (w3 : (Jvm.Cond.initialized y.cls).before a0 Z = true) (w4 : (Jvm.Cond.code y bytes maxL none).before a0 Z = true)
    (hy : y.cls ≠ "java/lang/invoke/MethodHandle" ∧ y.cls ≠ "java/lang/invoke/VarHandle") (r : RmH l y bytes maxL none rm [] Z EL as' h Q) (eT : T.heap = h) {g : JFrame} (hg : g.method = m) (hsize : g.locals.size = c.maxLocals) (a : Addr) (argsL rest : List Value) (hlen : ∀ sig, parseMethodDescriptor y.desc = some sig → argsL.length = sig.parameters.length)
    (hstack : g.stack = argsL.reverse ++ .ref a :: rest) (has : (.ref a :: argsL).toArray = as') (hW : 2 * g.monitorRoom + (rest.map fun v => v.category).sum ≤ W) (hd : decode c.code g.pc = .ok (.invokespecial index, 3)) (hf : rm.frames + 1 ≤ R.frames) (hl : W + (maxL + 11) + rm.locals ≤ R.locals) (hc : cells + rm.cells ≤ R.cells) (hs : slots + rm.slots ≤ R.slots)
    (k : ∀ v T' L k1, Stand p l e R (s.setVm T'.vm) m args below meth c T' (locs ++ L) (cells + rm.cells) (slots + rm.slots) → s.Since T'.vm k1 → k1 ≤ T'.heap.size → Z.Warmed39 T'.vm → T'.vm.findClass own = some m.cls → CHr Z EL v00 h00 T'.vm T'.heap → Q v T'.heap L → Goes p e below E T' { g with pc := g.pc + 3, stack := v.toList ++ rest }) : Goes p e below E T g := by
  obtain ⟨v, vm₁, ⟨T', L', k', n'⟩, -, X', hS', hgr, ⟨L, hQ, q1, q2, q3, hC⟩, st⟩ := X.specialBackS hx (y := y) hy1 hown (mvT (s := s.setVm vm0) hZ w1) (mvT (s := s.setVm vm0) hZ w2) (mvT (s := s.setVm vm0) hZ w4) hy (backOfSH (W := W) r hZ w4 w3 hf hl hEL H.1) hg hsize (Steps.refl _) (a := a) hlen hstack hW hd (fun _ _ => ⟨has, eT, hc, hs⟩)
  dsimp only [Pt.U, Pt.locs, Pt.cells, Pt.slots] at X' q1 q2 q3 st hQ hS' hgr hC
  subst q1 q2 q3
  exact Goes.of (fun _ => st.trans) (k v T' L _ X' (hS.trans hS' (Nat.le_trans hk (eT ▸ hgr))) (Nat.le_refl _) (State.Warmed39.trans (t := s.setVm vm0) hZ hS'.1) (by rw [hS'.1.alike.findClass]; exact hown) (H.trans hC) hQ)
theorem goVirtualW {own C : String} {index : Nat} {y z : MethodName} {bytes : ByteArray} {maxL : Nat} {ret : Option FieldType} {rm : Room} {as' : Array Value} {Q : Option Value → Heap → List Loc → Prop} (W : Nat)
    (X : Stand p l e R (s.setVm vm0) m args below meth c T locs cells slots) (hS : s.Since vm0 k0) (hk : k0 ≤ h.size) (hEL : EW Z a0 EL) (H : CHr Z EL v00 h00 vm0 h) (hx : p.tables.exec = Jvm.exec) (hZ : Z.Warmed39 vm0) (hown : vm0.findClass own = some m.cls) (w1 : (Jvm.Cond.methodLink own index y).before a0 Z = true) (w2 : (Jvm.Cond.declares y).before a0 Z = true) (hnf : NotFace (s.setVm vm0) y) (w3 : (Jvm.Cond.selects C y z).before a0 Z = true) (w4 : (Jvm.Cond.instanceMethod z).before a0 Z = true) (w5 : (Jvm.Cond.initialized z.cls).before a0 Z = true) (w6 : (Jvm.Cond.code z bytes maxL ret).before a0 Z = true)
    (hy : y.cls ≠ "java/lang/invoke/MethodHandle" ∧ y.cls ≠ "java/lang/invoke/VarHandle") (r : RmH l z bytes maxL ret rm [] Z EL as' h Q) (eT : T.heap = h) {a : Addr} (F : Exa Z h a C) {g : JFrame} (hg : g.method = m) (hsize : g.locals.size = c.maxLocals) (argsL rest : List Value) (hlen : ∀ sig, parseMethodDescriptor y.desc = some sig → argsL.length = sig.parameters.length)
    (hstack : g.stack = argsL.reverse ++ .ref a :: rest) (has : (.ref a :: argsL).toArray = as') (hW : 2 * g.monitorRoom + (rest.map fun v => v.category).sum ≤ W) (hd : decode c.code g.pc = .ok (.invokevirtual index, 3)) (hf : rm.frames + 1 ≤ R.frames) (hl : W + (maxL + 11) + rm.locals ≤ R.locals) (hc : cells + rm.cells ≤ R.cells) (hs : slots + rm.slots ≤ R.slots)
    (k : ∀ v T' L k1, Stand p l e R (s.setVm T'.vm) m args below meth c T' (locs ++ L) (cells + rm.cells) (slots + rm.slots) → s.Since T'.vm k1 → k1 ≤ T'.heap.size → Z.Warmed39 T'.vm → T'.vm.findClass own = some m.cls → CHr Z EL v00 h00 T'.vm T'.heap → Q v T'.heap L → Goes p e below E T' { g with pc := g.pc + 3, stack := v.toList ++ rest }) : Goes p e below E T g := by
  obtain ⟨cq, kq, qa, qb, qc⟩ := isOf (s := s.setVm vm0) hZ eT F
  obtain ⟨v, vm₁, ⟨T', L', k', n'⟩, -, X', hS', hgr, ⟨L, hQ, q1, q2, q3, hC⟩, st⟩ := X.virtualBackS hx (y := y) (z := z) hown (mvT (s := s.setVm vm0) hZ w1) (mvT (s := s.setVm vm0) hZ w2) hnf (mvT (s := s.setVm vm0) hZ w3) (mvT (s := s.setVm vm0) hZ w4) hy (backOfSH (W := W) r hZ w6 w5 hf hl hEL H.1) qa qc hg hsize (Steps.refl _) hlen hstack hW hd (fun _ _ => ⟨has, eT, hc, hs⟩)
  dsimp only [Pt.U, Pt.locs, Pt.cells, Pt.slots] at X' q1 q2 q3 st hQ hS' hgr hC
  subst q1 q2 q3
  exact Goes.of (fun _ => st.trans) (k v T' L _ X' (hS.trans hS' (Nat.le_trans hk (eT ▸ hgr))) (Nat.le_refl _) (State.Warmed39.trans (t := s.setVm vm0) hZ hS'.1) (by rw [hS'.1.alike.findClass]; exact hown) (H.trans hC) hQ)
/-- a literal, its text not read -/
theorem goLdcO {own text : String} {index : Nat} (n : Nat) (X : Stand p l e R (s.setVm vm0) m args below meth c T locs cells slots) (hS : s.Since vm0 k0) (hk : k0 ≤ h.size) (hEL : EW Z a0 EL) (H : CHr Z EL v00 h00 vm0 h) (hx : p.tables.exec = Jvm.exec) (hZ : Z.Warmed39 vm0) (hown : vm0.findClass own = some m.cls) (w : (Jvm.Cond.stringLink own index text).before a0 Z = true) (wS : ∀ a ∈ Bundle.stringAtoms, a.before a0 Z = true) (eT : T.heap = h)
    {g : JFrame} (hg : g.method = m) (hd : decode c.code g.pc = .ok (.ldc index, 2)) (hn : 4 * text.toList.length ≤ n) (hbig : n ≤ 536870912) (hc : cells + 2 ≤ R.cells) (hl : slots + (n + 4) ≤ R.slots)
    (k : ∀ a T' h' k1, Stand p l e R (s.setVm T'.vm) m args below meth c T' locs (cells + 2) (slots + (n + 4)) → T'.heap = h' → Ext h h' → s.Since T'.vm k1 → k1 ≤ h'.size → Z.Warmed39 T'.vm → T'.vm.findClass own = some m.cls → CHr Z EL v00 h00 T'.vm h' → Goes p e below E T' { g with pc := g.pc + 2, stack := .ref a :: g.stack }) : Goes p e below E T g := by
  obtain ⟨a, T', h', k1, X', e', E', hS', hk', hZ', hown', hC, -, st⟩ := ldcOH X hx hZ hown w wS eT hS hk hEL H.1 hg hd hn hbig hc hl
  exact Goes.of st (k a T' h' k1 X' e' E' hS' hk' hZ' hown' (H.trans hC))
/-- a literal whose text is read -/
theorem goLdcC {own text : String} {index : Nat} {vs : List Value} {z : Int32} (n : Nat) (X : Stand p l e R (s.setVm vm0) m args below meth c T locs cells slots) (hS : s.Since vm0 k0) (hk : k0 ≤ h.size) (hEL : EW Z a0 EL) (hmem : (own, index) ∈ EL) (H : CHr Z EL v00 h00 vm0 h) (hx : p.tables.exec = Jvm.exec) (hZ : Z.Warmed39 vm0) (hown : vm0.findClass own = some m.cls) (w : (Jvm.Cond.stringLink own index text).before a0 Z = true) (wS : ∀ a ∈ Bundle.stringAtoms, a.before a0 Z = true) (eT : T.heap = h)
    (ht : (∀ c ∈ text.toList, c.toNat < 256) ∧ text.toList.map (fun c => Value.int (Jvm.Lit.byteI c.toNat.toUInt16)) = vs) (hz : ¬ z < 0) (hzl : z.toNatClampNeg = vs.length)
    {g : JFrame} (hg : g.method = m) (hd : decode c.code g.pc = .ok (.ldc index, 2)) (hn : 4 * text.toList.length ≤ n) (hbig : n ≤ 536870912) (hc : cells + 2 ≤ R.cells) (hl : slots + (n + 4) ≤ R.slots)
    (k : ∀ a T' h' k1 b kb, Stand p l e R (s.setVm T'.vm) m args below meth c T' locs (cells + 2) (slots + (n + 4)) → T'.heap = h' → Ext h h' → s.Since T'.vm k1 → k1 ≤ h'.size → Z.Warmed39 T'.vm → T'.vm.findClass own = some m.cls → CHr Z EL v00 h00 T'.vm h' → CHr Z EL vm0 h T'.vm h' → Exa Z h' a "java/lang/String" → Fld Z h' a "java/lang/String" "coder" "B" (.int 0) → Fld Z h' a "java/lang/String" "value" "[B" (.ref b) → Arv Z h' b kb .byte z vs (.int 0) → (∀ x, Safe Z EL T'.vm h' x → x ≠ a ∧ x ≠ b) → Goes p e below E T' { g with pc := g.pc + 2, stack := .ref a :: g.stack }) : Goes p e below E T g := by
  obtain ⟨a, T', h', k1, b, kb, X', e', E', hS', hk', hZ', hown', F1, F2, F3, F4, -, -, hC, -, hs, st⟩ := ldcCH X hx hZ hown w wS eT hS hk hEL hmem H.1 ht hz hzl hg hd hn hbig hc hl
  exact Goes.of st (k a T' h' k1 b kb X' e' E' hS' hk' hZ' hown' (H.trans hC) hC F1 F2 F3 F4 hs)
/-- a String whose value is null is no constant's -/
theorem safeNull {vm : Vm} {x : Addr} (hal : Z.vm.Alike vm) (Ex : Exa Z h x "java/lang/String") (F : Fld Z h x "java/lang/String" "value" "[B" .null) : Safe Z EL vm h x := fun B => by
  obtain ⟨q0, -, u, b, -, q, -, G, rfl | rfl⟩ := B
  · obtain ⟨cell, cf, k, i, f, h1, h2, -, -, -, -, h7⟩ := F
    cases (show h[q.sa]? = some q.sC from G.ha).symm.trans h1
    obtain ⟨cS, ⟨⟨-, -, -, ⟨c1, k1, i1, f1, -⟩, -, -, -, v1, -⟩, -⟩, -⟩ := G
    obtain ⟨k3, e3, -⟩ := State.fieldFound?_setVm (s := ({ Z with heap := h } : State)) hal h2
    have e4 := e3.symm.trans f1
    simp only [Option.some.injEq, Prod.mk.injEq] at e4
    rw [e4.2.2.2, v1] at h7
    cases h7
  · obtain ⟨cell, k, e1, e2, e3, -, -⟩ := Ex
    cases (show h[q.sd]? = some q.SA from G.hd).symm.trans e1
    obtain ⟨cS, -, -, f, -⟩ := G
    rw [show (Wst Z vm h).vm.findClass "[B" = vm.findClass "[B" from rfl, hal.findClass] at f
    obtain ⟨k1, q1, q2⟩ := Vm.findClass_spec f
    obtain ⟨k2, q3, q4⟩ := Vm.findClass_spec e2
    cases q1.symm.trans q3
    exact absurd (q2.symm.trans q4) (by decide)
end Own2
end Jvm.Own
/- laws to paste: Road.backV, Road.lenW, Road.chN, Road.codOf (cut by pick.py; bodies as the Statement names them) -/
namespace Jvm.Pilot.@@N@@
namespace StrChars
open Jvm Sem ClassFile Op Lib Jvm.Stand Jvm.Free.XT Jvm.Free.ALB Jvm.Free.JM Jvm.Free
open Jvm.Lib.Cold (StaticIs)
/-- a char array whose places are chars -/
def Ch (a : Addr) (A : Cell) (U : State) : Prop := Arr .char a A U ∧ Typed .char A
theorem Ch.mv {a : Addr} {A : Cell} {U U' : State} (h : Ch a A U) (hal : U.vm.Alike U'.vm) (hh : U'.heap = U.heap) : Ch a A U' := ⟨h.1.mv hal hh, h.2⟩
theorem Ch.keep {a : Addr} {A : Cell} {U U' : State} (h : Ch a A U) (hal : U.vm.Alike U'.vm) (hk : U'.heap[a]? = some A) : Ch a A U' := ⟨h.1.keep hal hk, h.2⟩
/-- what place i of a char[]'s cell holds -/
def cv (A : Cell) (i : Nat) : Int32 := match A.slots[i]? with | some (.int x) => x | _ => 0
theorem Ch.get {a : Addr} {A : Cell} {U : State} (h : Ch a A U) {i : Nat} (hi : i < A.slots.size) : A.slots[i]? = some (.int (cv A i)) := by
  have e := Array.getElem?_eq_getElem hi
  have f := h.2 i _ e
  unfold cv; rw [e]
  generalize A.slots[i] = v at f
  cases v <;> simp [fits] at f ⊢
/-- the byte that i2b leaves of a char -/
def lo8 (x : Int32) : Int32 := x.toInt8.toInt32
theorem fits_lo8 (y : Int32) : fits .byte (.int (lo8 y)) = true := by
  have h1 := y.toInt8.le_toInt
  have h2 := y.toInt8.toInt_lt
  simp only [lo8, fits, Bool.and_eq_true, decide_eq_true_eq, Int32.le_iff_toInt_le, Int8.toInt_toInt32, show (-128 : Int32).toInt = -128 from by decide, show (127 : Int32).toInt = 127 from by decide]
  omega
/-- A' is A but that each place j of lo .. hi - 1 holds f j -/
def Laid (A A' : Cell) (lo hi : Nat) (f : Nat → Value) : Prop := A'.cls = A.cls ∧ A'.vm = A.vm ∧ A'.slots.size = A.slots.size ∧ ∀ i, A'.slots[i]? = if lo ≤ i ∧ i < hi then some (f i) else A.slots[i]?
theorem Laid.zero (A : Cell) (lo : Nat) (f : Nat → Value) : Laid A A lo (lo + 0) f := ⟨rfl, rfl, rfl, fun i => by rw [if_neg (by omega)]⟩
theorem Laid.step {A Ak : Cell} {lo k : Nat} {f : Nat → Value} {v : Value} (h : Laid A Ak lo k f) (hlo : lo ≤ k) (hk : k < Ak.slots.size) (hv : v = f k) : Laid A (Ak.setSlot k v) lo (k + 1) f := by
  refine ⟨h.1, h.2.1, by simpa [Cell.setSlot] using h.2.2.1, fun i => ?_⟩
  by_cases e : k = i
  · subst e; rw [Cell.slots_setSlot_self v hk, if_pos (by omega), hv]
  · rw [Cell.slots_setSlot_ne v e, h.2.2.2 i]
    by_cases q : lo ≤ i ∧ i < k
    · rw [if_pos q, if_pos (by omega)]
    · rw [if_neg q, if_neg (by omega)]
def U16 : String := "java/lang/StringUTF16"
namespace Cmp5
def yN : MethodName := ⟨"java/lang/StringUTF16", "compress", "([CI[BII)I"⟩
abbrev yB : ByteArray := jdk_52_method_21_code
theorem d0 : decode yB 0 = .ok (.iconst 0, 1) := by decide +kernel
theorem d1 : decode yB 1 = .ok (.istore 5, 2) := by decide +kernel
theorem d3 : decode yB 3 = .ok (.iload 5, 2) := by decide +kernel
theorem d5 : decode yB 5 = .ok (.iload 4, 2) := by decide +kernel
theorem d7 : decode yB 7 = .ok (.if_icmp (.ge) 37, 3) := by decide +kernel
theorem d10 : decode yB 10 = .ok (.aload_n 0, 1) := by decide +kernel
theorem d11 : decode yB 11 = .ok (.iload_n 1, 1) := by decide +kernel
theorem d12 : decode yB 12 = .ok (.caload, 1) := by decide +kernel
theorem d13 : decode yB 13 = .ok (.istore 6, 2) := by decide +kernel
theorem d15 : decode yB 15 = .ok (.iload 6, 2) := by decide +kernel
theorem d17 : decode yB 17 = .ok (.sipush 255, 3) := by decide +kernel
theorem d20 : decode yB 20 = .ok (.if_icmp (.le) 6, 3) := by decide +kernel
theorem d26 : decode yB 26 = .ok (.aload_n 2, 1) := by decide +kernel
theorem d27 : decode yB 27 = .ok (.iload_n 3, 1) := by decide +kernel
theorem d28 : decode yB 28 = .ok (.iload 6, 2) := by decide +kernel
theorem d30 : decode yB 30 = .ok (.i2b, 1) := by decide +kernel
theorem d31 : decode yB 31 = .ok (.bastore, 1) := by decide +kernel
theorem d32 : decode yB 32 = .ok (.iinc 1 1, 3) := by decide +kernel
theorem d35 : decode yB 35 = .ok (.iinc 3 1, 3) := by decide +kernel
theorem d38 : decode yB 38 = .ok (.iinc 5 1, 3) := by decide +kernel
theorem d41 : decode yB 41 = .ok (.goto (-38), 3) := by decide +kernel
theorem d44 : decode yB 44 = .ok (.iload 4, 2) := by decide +kernel
theorem d46 : decode yB 46 = .ok (.ireturn, 1) := by decide +kernel
def site : List Cond := []
def tab : Cond := tabOf yN yB 7 (some .int) site
def P (b : Addr) (A : Cell) (d : Addr) (B : Cell) (o q len : Nat) (args : Array Value) (s : State) : Prop := args = #[.ref b, .int (Int32.ofNat o), .ref d, .int (Int32.ofNat q), .int (Int32.ofNat len)] ∧ Ch b A s ∧ Arr .byte d B s ∧ b ≠ d ∧ o + len ≤ A.slots.size ∧ q + len ≤ B.slots.size ∧ ∀ i, i < len → ¬ 255 < cv A (o + i)
def E (b : Addr) (A : Cell) (d : Addr) (B : Cell) (o q len : Nat) (r : Option Value) (s u : State) : Prop := r = some (.int (Int32.ofNat len)) ∧ ∃ B', Put d B' s u ∧ Laid B B' q (q + len) (fun j => Value.int (lo8 (cv A (o + (j - q)))))
/-- no char of the range above 255: len; the places written hold each char's low byte -/
theorem law (l : Launch) (b : Addr) (A : Cell) (d : Addr) (B : Cell) (o q len : Nat) : Law l yN 5 5 0 0 yB 7 (some .int) site (P b A d B o q len) (E b A d B o q len) (copyLocs d q len) 0 0 := by
  refine Law.of_walk (plainFor_of_name (by decide +kernel)) (by decide +kernel) (by decide +kernel) (by decide) (fun _ _ h => by rw [h.1]; rfl) (fun _ U U' hal hh h => ⟨h.1, h.2.1.mv hal hh, h.2.2.1.mv hal hh, h.2.2.2⟩) (fun r U U' V V' h1 hal h2 h => ⟨h.1, h.2.elim fun B' q => ⟨B', q.1.mv h1 h2, q.2⟩⟩) ?_
  intro p e s m args below meth c s₁ X0 hexec hbytes hml hret hlk hnm hown hh0 W hP
  obtain ⟨rfl, hA, hB, hne, l1, l2, hp⟩ := hP
  have c1 : Steps p.tables e below (s₁.setTop (entryFrame m #[.ref b, .int (Int32.ofNat o), .ref d, .int (Int32.ofNat q), .int (Int32.ofNat len)] 7)) (s₁.setTop (mkF m 0 #[.val (.ref b), .val (.int (Int32.ofNat o)), .val (.ref d), .val (.int (Int32.ofNat q)), .val (.int (Int32.ofNat len)), .unset, .unset] [])) := entry rfl
  have hA0 := hA.1.mv X0.warmed.alike hh0
  have hB0 := hB.mv X0.warmed.alike hh0
  have a31 := hA.1.2.2.2
  have c2 : Steps p.tables e below (s₁.setTop (entryFrame m #[.ref b, .int (Int32.ofNat o), .ref d, .int (Int32.ofNat q), .int (Int32.ofNat len)] 7)) (s₁.setTop (mkF m 3 #[.val (.ref b), .val (.int (Int32.ofNat o)), .val (.ref d), .val (.int (Int32.ofNat q)), .val (.int (Int32.ofNat len)), .val (.int 0), .unset] [])) := c1.trans (by
    refine iconstV X0.here hexec rfl 0 (hb hbytes d0) (by decide) ?_
    refine XS.istore X0.here hexec rfl (hb hbytes d1) rfl rfl ?_
    exact Steps.refl _)
  have loop : ∀ (r i : Nat), i + r = len → ∀ (z : Slot), (z = .unset ∨ ∃ w, z = .val w ∧ w.category = 1) → ∀ (Tl : State) (Bk : Cell), Stand p l e { frames := 0, locals := 0, cells := 0, slots := 0 } s m #[.ref b, .int (Int32.ofNat o), .ref d, .int (Int32.ofNat q), .int (Int32.ofNat len)] below meth c Tl ([] ++ copyLocs d q i) 0 0 → Put d Bk s₁ Tl → Laid B Bk q (q + i) (fun j => Value.int (lo8 (cv A (o + (j - q))))) →
      Steps p.tables e below (s₁.setTop (entryFrame m #[.ref b, .int (Int32.ofNat o), .ref d, .int (Int32.ofNat q), .int (Int32.ofNat len)] 7)) (Tl.setTop (mkF m 3 #[.val (.ref b), .val (.int (Int32.ofNat (o + i))), .val (.ref d), .val (.int (Int32.ofNat (q + i))), .val (.int (Int32.ofNat len)), .val (.int (Int32.ofNat i)), z] [])) → ∃ (T' : State) (B' : Cell) (z' : Slot), Stand p l e { frames := 0, locals := 0, cells := 0, slots := 0 } s m #[.ref b, .int (Int32.ofNat o), .ref d, .int (Int32.ofNat q), .int (Int32.ofNat len)] below meth c T' ([] ++ copyLocs d q len) 0 0 ∧ Put d B' s₁ T' ∧ Laid B B' q (q + len) (fun j => Value.int (lo8 (cv A (o + (j - q))))) ∧
      Steps p.tables e below (s₁.setTop (entryFrame m #[.ref b, .int (Int32.ofNat o), .ref d, .int (Int32.ofNat q), .int (Int32.ofNat len)] 7)) (T'.setTop (mkF m 3 #[.val (.ref b), .val (.int (Int32.ofNat (o + len))), .val (.ref d), .val (.int (Int32.ofNat (q + len))), .val (.int (Int32.ofNat len)), .val (.int (Int32.ofNat len)), z'] [])) := by
    intro r
    induction r with
    | zero =>
      intro i hi z hz Tl Bk Xl pl fl cl
      have hil : i = len := by omega
      rw [hil] at Xl fl cl
      exact ⟨Tl, Bk, z, Xl, pl, fl, cl⟩
    | succ r ih =>
      intro i hi z hz Tl Bk Xl pl fl cl
      have all := X0.warmed.alike.symm.trans Xl.warmed.alike
      have hAl := hA0.keep all (pl.other hne hA0.1)
      have hBk := hB0.like all pl.1 fl.1 fl.2.1 fl.2.2.1
      have hlt : q + i < Bk.slots.size := by rw [fl.2.2.1]; omega
      have c3 : Steps p.tables e below (s₁.setTop (entryFrame m #[.ref b, .int (Int32.ofNat o), .ref d, .int (Int32.ofNat q), .int (Int32.ofNat len)] 7)) (Tl.setTop (mkF m 12 #[.val (.ref b), .val (.int (Int32.ofNat (o + i))), .val (.ref d), .val (.int (Int32.ofNat (q + i))), .val (.int (Int32.ofNat len)), .val (.int (Int32.ofNat i)), z] [.int (Int32.ofNat (o + i)), .ref b])) := cl.trans (by
        refine XS.iload Xl.here hexec rfl (hb hbytes d3) rfl ?_
        refine XS.iload Xl.here hexec rfl (hb hbytes d5) rfl ?_
        refine XS.icmpNo Xl.here hexec rfl (hb hbytes d7) rfl (ii_ge_f (lt32 (by omega) (by omega))) ?_
        refine XS.aloadN Xl.here hexec rfl (hb hbytes d10) rfl rfl ?_
        refine XS.iloadN Xl.here hexec rfl (hb hbytes d11) rfl ?_
        exact Steps.refl _)
      have c4 : Steps p.tables e below (s₁.setTop (entryFrame m #[.ref b, .int (Int32.ofNat o), .ref d, .int (Int32.ofNat q), .int (Int32.ofNat len)] 7)) (Tl.setTop (mkF m 13 #[.val (.ref b), .val (.int (Int32.ofNat (o + i))), .val (.ref d), .val (.int (Int32.ofNat (q + i))), .val (.int (Int32.ofNat len)), .val (.int (Int32.ofNat i)), z] [.int (cv A (o + i))])) := c3.trans (by
        refine Xl.aget hexec hAl rfl (hA.get (i := o + i) (by omega)) rfl rfl (hb hbytes d12) ?_
        exact Steps.refl _)
      have c5 : Steps p.tables e below (s₁.setTop (entryFrame m #[.ref b, .int (Int32.ofNat o), .ref d, .int (Int32.ofNat q), .int (Int32.ofNat len)] 7)) (Tl.setTop (mkF m 15 #[.val (.ref b), .val (.int (Int32.ofNat (o + i))), .val (.ref d), .val (.int (Int32.ofNat (q + i))), .val (.int (Int32.ofNat len)), .val (.int (Int32.ofNat i)), .val (.int (cv A (o + i)))] [])) := c4.trans (by
        refine XS.istoreS Xl.here hexec rfl (hb hbytes d13) rfl rfl hz ?_
        exact Steps.refl _)
      have c6 : Steps p.tables e below (s₁.setTop (entryFrame m #[.ref b, .int (Int32.ofNat o), .ref d, .int (Int32.ofNat q), .int (Int32.ofNat len)] 7)) (Tl.setTop (mkF m 31 #[.val (.ref b), .val (.int (Int32.ofNat (o + i))), .val (.ref d), .val (.int (Int32.ofNat (q + i))), .val (.int (Int32.ofNat len)), .val (.int (Int32.ofNat i)), .val (.int (cv A (o + i)))] [.int (lo8 (cv A (o + i))), .int (Int32.ofNat (q + i)), .ref d])) := c5.trans (by
        refine XS.iload Xl.here hexec rfl (hb hbytes d15) rfl ?_
        refine sipushV Xl.here hexec rfl 255 (hb hbytes d17) (by decide) ?_
        refine XS.icmpYes Xl.here hexec rfl (pc0 := 20) rfl (hb hbytes d20) rfl (ii_le_t (hp i (by omega))) (by decide) rfl ?_
        refine XS.aloadN Xl.here hexec rfl (hb hbytes d26) rfl rfl ?_
        refine XS.iloadN Xl.here hexec rfl (hb hbytes d27) rfl ?_
        refine XS.iload Xl.here hexec rfl (hb hbytes d28) rfl ?_
        refine i2b Xl.here hexec rfl (hb hbytes d30) rfl ?_
        exact Steps.refl _)
      obtain ⟨T7, X7, p7, st7⟩ := Xl.aput hexec hBk rfl hlt rfl (fits_lo8 (cv A (o + i))) (g := (mkF m 31 #[.val (.ref b), .val (.int (Int32.ofNat (o + i))), .val (.ref d), .val (.int (Int32.ofNat (q + i))), .val (.int (Int32.ofNat len)), .val (.int (Int32.ofNat i)), .val (.int (cv A (o + i)))] [.int (lo8 (cv A (o + i))), .int (Int32.ofNat (q + i)), .ref d])) rfl (rest := []) rfl (hb hbytes d31)
      have c8 : Steps p.tables e below (s₁.setTop (entryFrame m #[.ref b, .int (Int32.ofNat o), .ref d, .int (Int32.ofNat q), .int (Int32.ofNat len)] 7)) (T7.setTop (mkF m 32 #[.val (.ref b), .val (.int (Int32.ofNat (o + i))), .val (.ref d), .val (.int (Int32.ofNat (q + i))), .val (.int (Int32.ofNat len)), .val (.int (Int32.ofNat i)), .val (.int (cv A (o + i)))] [])) := c6.trans (st7 _ (Steps.refl _))
      have c9 : Steps p.tables e below (s₁.setTop (entryFrame m #[.ref b, .int (Int32.ofNat o), .ref d, .int (Int32.ofNat q), .int (Int32.ofNat len)] 7)) (T7.setTop (mkF m 3 #[.val (.ref b), .val (.int (Int32.ofNat (o + i) + 1)), .val (.ref d), .val (.int (Int32.ofNat (q + i) + 1)), .val (.int (Int32.ofNat len)), .val (.int (Int32.ofNat i + 1)), .val (.int (cv A (o + i)))] [])) := c8.trans (by
        refine iincV X7.here hexec rfl 1 (hb hbytes d32) (by decide) rfl rfl ?_
        refine iincV X7.here hexec rfl 1 (hb hbytes d35) (by decide) rfl rfl ?_
        refine iincV X7.here hexec rfl 1 (hb hbytes d38) (by decide) rfl rfl ?_
        refine XS.goto X7.here hexec rfl (pc0 := 41) rfl (hb hbytes d41) (by decide) rfl ?_
        exact Steps.refl _)
      have c10 : Steps p.tables e below (s₁.setTop (entryFrame m #[.ref b, .int (Int32.ofNat o), .ref d, .int (Int32.ofNat q), .int (Int32.ofNat len)] 7)) (T7.setTop (mkF m 3 #[.val (.ref b), .val (.int (Int32.ofNat (o + (i + 1)))), .val (.ref d), .val (.int (Int32.ofNat (q + (i + 1)))), .val (.int (Int32.ofNat len)), .val (.int (Int32.ofNat (i + 1))), .val (.int (cv A (o + i)))] [])) := by
        have := c9
        rw [succ32, succ32, succ32] at this
        exact this
      exact ih (i + 1) (by omega) _ (Or.inr ⟨_, rfl, rfl⟩) T7 _ (by rw [copyLocs_step, ← List.append_assoc]; exact X7) (pl.trans p7) (fl.step (by omega) hlt (by simp)) c10
  obtain ⟨T9, B9, z9, X9, p9, f9, g9⟩ := loop len 0 (by omega) .unset (Or.inl rfl) s₁ B (by simpa [copyLocs] using X0) ⟨hB0.1, fun _ _ => rfl, rfl⟩ (Laid.zero _ _ _) c2
  have c11 : Steps p.tables e below (s₁.setTop (entryFrame m #[.ref b, .int (Int32.ofNat o), .ref d, .int (Int32.ofNat q), .int (Int32.ofNat len)] 7)) (T9.setTop (mkF m 46 #[.val (.ref b), .val (.int (Int32.ofNat (o + len))), .val (.ref d), .val (.int (Int32.ofNat (q + len))), .val (.int (Int32.ofNat len)), .val (.int (Int32.ofNat len)), z9] [.int (Int32.ofNat len)])) := g9.trans (by
    refine XS.iload X9.here hexec rfl (hb hbytes d3) rfl ?_
    refine XS.iload X9.here hexec rfl (hb hbytes d5) rfl ?_
    refine XS.icmpYes X9.here hexec rfl (pc0 := 7) rfl (hb hbytes d7) rfl (ii_ge_t (nlt32 (by omega) (Nat.le_refl _))) (by decide) rfl ?_
    refine XS.iload X9.here hexec rfl (hb hbytes d44) rfl ?_
    exact Steps.refl _)
  exact ⟨T9, some (.int (Int32.ofNat len)), _, _, _, X9, by simp, rfl, rfl, (fun h => by cases h), ⟨rfl, B9, p9.from hh0, f9⟩, fun fs hl => c11.trans (X9.ireturnOut hexec hret rfl (Or.inl rfl) (hb hbytes d46) hl)⟩
end Cmp5
namespace Cmp3
def yN : MethodName := ⟨"java/lang/StringUTF16", "compress", "([CII)[B"⟩
abbrev yB : ByteArray := jdk_52_method_16_code
theorem d0 : decode yB 0 = .ok (.iload_n 2, 1) := by decide +kernel
theorem d1 : decode yB 1 = .ok (.newarray .byte, 2) := by decide +kernel
theorem d3 : decode yB 3 = .ok (.astore_n 3, 1) := by decide +kernel
theorem d4 : decode yB 4 = .ok (.aload_n 0, 1) := by decide +kernel
theorem d5 : decode yB 5 = .ok (.iload_n 1, 1) := by decide +kernel
theorem d6 : decode yB 6 = .ok (.aload_n 3, 1) := by decide +kernel
theorem d7 : decode yB 7 = .ok (.iconst 0, 1) := by decide +kernel
theorem d8 : decode yB 8 = .ok (.iload_n 2, 1) := by decide +kernel
theorem d9 : decode yB 9 = .ok (.invokestatic 115, 3) := by decide +kernel
theorem d12 : decode yB 12 = .ok (.istore 4, 2) := by decide +kernel
theorem d14 : decode yB 14 = .ok (.iload 4, 2) := by decide +kernel
theorem d16 : decode yB 16 = .ok (.iload_n 2, 1) := by decide +kernel
theorem d17 : decode yB 17 = .ok (.if_icmp (.eq) 40, 3) := by decide +kernel
theorem d57 : decode yB 57 = .ok (.aload_n 3, 1) := by decide +kernel
theorem d58 : decode yB 58 = .ok (.areturn, 1) := by decide +kernel
def site : List Cond := [.arrayClass .byte, Cmp5.tab] ++ staticW U16 115 Cmp5.yN
def tab : Cond := tabOf yN yB 6 (some (.array .byte)) site
def P (b : Addr) (A : Cell) (o len : Nat) (args : Array Value) (s : State) : Prop := args = #[.ref b, .int (Int32.ofNat o), .int (Int32.ofNat len)] ∧ Ch b A s ∧ o + len ≤ A.slots.size ∧ len ≤ 536870912 ∧ ∀ i, i < len → ¬ 255 < cv A (o + i)
def E (b : Addr) (A : Cell) (o len : Nat) (r : Option Value) (s u : State) : Prop := NewArr .byte "[B" len (fun j => .int (lo8 (cv A (o + j)))) r s u ∧ u.heap.size = s.heap.size + 1
/-- no char of the range above 255: a new byte[] of their low bytes -/
theorem law (l : Launch) (b : Addr) (A : Cell) (o len : Nat) : Law l yN 3 3 1 18 yB 6 (some (.array .byte)) site (P b A o len) (E b A o len) [] 1 len := by
  refine Law.of_walk (plainFor_of_name (by decide +kernel)) (by decide +kernel) (by decide +kernel) (by decide) (fun _ _ h => by rw [h.1]; rfl) (fun _ U U' hal hh h => ⟨h.1, h.2.1.mv hal hh, h.2.2⟩) (fun r U U' V V' h1 hal h2 h => ⟨NewArr.mv r U U' V V' h1 hal h2 h.1, by rw [h1, h2]; exact h.2⟩) ?_
  intro p e s m args below meth c s₁ X0 hexec hbytes hml hret hlk hnm hown hh0 W hP
  obtain ⟨rfl, hA, l1, l2, hp⟩ := hP
  have a31 := hA.1.2.2.2
  have c1 : Steps p.tables e below (s₁.setTop (entryFrame m #[.ref b, .int (Int32.ofNat o), .int (Int32.ofNat len)] 6)) (s₁.setTop (mkF m 0 #[.val (.ref b), .val (.int (Int32.ofNat o)), .val (.int (Int32.ofNat len)), .unset, .unset, .unset] [])) := entry rfl
  have c2 : Steps p.tables e below (s₁.setTop (entryFrame m #[.ref b, .int (Int32.ofNat o), .int (Int32.ofNat len)] 6)) (s₁.setTop (mkF m 1 #[.val (.ref b), .val (.int (Int32.ofNat o)), .val (.int (Int32.ofNat len)), .unset, .unset, .unset] [.int (Int32.ofNat len)])) := c1.trans (by
    refine XS.iloadN X0.here hexec rfl (hb hbytes d0) rfl ?_
    exact Steps.refl _)
  obtain ⟨T3, B3, X3, ba3, bs3, bv3, bh3, bf3, st3⟩ := X0.anew hexec (atype := .byte) (wk W (.arrayClass .byte)) rfl (by show len * 1 ≤ _; omega) (by omega) (g := (mkF m 1 #[.val (.ref b), .val (.int (Int32.ofNat o)), .val (.int (Int32.ofNat len)), .unset, .unset, .unset] [.int (Int32.ofNat len)])) rfl (hb hbytes d1) (rest := []) rfl (Nat.le_refl _) (by show 0 + len ≤ len; omega)
  rw [hh0] at ba3 st3
  have kp3 : XT.Kept s T3 := (XT.Kept.of_eq hh0).push bh3
  have hA3 := hA.keep X3.warmed.alike (kp3 _ _ hA.1.1)
  have hne : b ≠ s.heap.size := hA.1.ne
  have c4 : Steps p.tables e below (s₁.setTop (entryFrame m #[.ref b, .int (Int32.ofNat o), .int (Int32.ofNat len)] 6)) (T3.setTop (mkF m 3 #[.val (.ref b), .val (.int (Int32.ofNat o)), .val (.int (Int32.ofNat len)), .unset, .unset, .unset] [.ref s.heap.size])) := c2.trans (st3 _ (Steps.refl _))
  have c5 : Steps p.tables e below (s₁.setTop (entryFrame m #[.ref b, .int (Int32.ofNat o), .int (Int32.ofNat len)] 6)) (T3.setTop (mkF m 9 #[.val (.ref b), .val (.int (Int32.ofNat o)), .val (.int (Int32.ofNat len)), .val (.ref s.heap.size), .unset, .unset] [.int (Int32.ofNat len), .int 0, .ref s.heap.size, .int (Int32.ofNat o), .ref b])) := c4.trans (by
    refine XS.astoreN X3.here hexec rfl (hb hbytes d3) rfl rfl rfl ?_
    refine XS.aloadN X3.here hexec rfl (hb hbytes d4) rfl rfl ?_
    refine XS.iloadN X3.here hexec rfl (hb hbytes d5) rfl ?_
    refine XS.aloadN X3.here hexec rfl (hb hbytes d6) rfl rfl ?_
    refine iconstV X3.here hexec rfl 0 (hb hbytes d7) (by decide) ?_
    refine XS.iloadN X3.here hexec rfl (hb hbytes d8) rfl ?_
    exact Steps.refl _)
  obtain ⟨v6, T6, X6, E6, g6⟩ := X3.callS hexec (Cmp5.law l b A s.heap.size B3 o 0 len) hown (wks W (staticW U16 115 Cmp5.yN)) (wk W Cmp5.tab) (W := 0) (Nat.le_of_ble_eq_true rfl) (Nat.le_of_ble_eq_true rfl) (Nat.le_refl _) (by show 0 + len + 0 ≤ len; omega) (g := (mkF m 9 #[.val (.ref b), .val (.int (Int32.ofNat o)), .val (.int (Int32.ofNat len)), .val (.ref s.heap.size), .unset, .unset] [.int (Int32.ofNat len), .int (Int32.ofNat 0), .ref s.heap.size, .int (Int32.ofNat o), .ref b])) rfl (by rw [hml]; rfl) c5 (argsL := [.ref b, .int (Int32.ofNat o), .ref s.heap.size, .int (Int32.ofNat 0), .int (Int32.ofNat len)]) (rest := []) rfl rfl (by show 2 * 0 + 0 ≤ _; decide) (hb hbytes d9) (⟨rfl, hA3, ba3, hne, l1, by rw [bs3]; simp, hp⟩)
  obtain ⟨rfl, B6, p6, f6⟩ := E6
  have c7 : Steps p.tables e below (s₁.setTop (entryFrame m #[.ref b, .int (Int32.ofNat o), .int (Int32.ofNat len)] 6)) (T6.setTop (mkF m 12 #[.val (.ref b), .val (.int (Int32.ofNat o)), .val (.int (Int32.ofNat len)), .val (.ref s.heap.size), .unset, .unset] [.int (Int32.ofNat len)])) := g6
  have c8 : Steps p.tables e below (s₁.setTop (entryFrame m #[.ref b, .int (Int32.ofNat o), .int (Int32.ofNat len)] 6)) (T6.setTop (mkF m 58 #[.val (.ref b), .val (.int (Int32.ofNat o)), .val (.int (Int32.ofNat len)), .val (.ref s.heap.size), .val (.int (Int32.ofNat len)), .unset] [.ref s.heap.size])) := c7.trans (by
    refine XS.istore X6.here hexec rfl (hb hbytes d12) rfl rfl ?_
    refine XS.iload X6.here hexec rfl (hb hbytes d14) rfl ?_
    refine XS.iloadN X6.here hexec rfl (hb hbytes d16) rfl ?_
    refine XS.icmpYes X6.here hexec rfl (pc0 := 17) rfl (hb hbytes d17) rfl (ii_eq_t rfl) (by decide) rfl ?_
    refine XS.aloadN X6.here hexec rfl (hb hbytes d57) rfl rfl ?_
    exact Steps.refl _)
  have X8 := X6.wide (L' := []) (cells' := 1) (slots' := len) (fun x hx hlt => by
    simp only [List.nil_append, copyLocs, List.mem_map, List.mem_range] at hx
    obtain ⟨i, -, rfl⟩ := hx
    exact absurd hlt (Nat.lt_irrefl _)) (Nat.le_refl _) (by omega)
  exact ⟨T6, some (.ref s.heap.size), _, _, _, X8, rfl, rfl, rfl, (fun h => by cases h), ⟨⟨rfl, B6, ba3.like (X3.warmed.alike.symm.trans X6.warmed.alike) p6.1 f6.1 f6.2.1 f6.2.2.1, f6.2.1.trans bv3, by rw [X6.warmed.alike.findClass, f6.1]; exact bf3, by rw [f6.2.2.1, bs3]; simp, fun j hj => by rw [f6.2.2.2 j, if_pos (by omega)]; rfl, kp3.put p6 (Nat.le_refl _)⟩, by rw [p6.2.2, bh3, hh0]; simp⟩, fun fs hl => c8.trans (X8.areturnOut hexec rfl hret rfl (hb hbytes d58) hl)⟩
end Cmp3
namespace CodL
def yN : MethodName := ⟨"java/lang/StringUTF16", "coderFromArrayLen", "([BI)B"⟩
abbrev yB : ByteArray := jdk_52_method_15_code
theorem d0 : decode yB 0 = .ok (.iload_n 1, 1) := by decide +kernel
theorem d1 : decode yB 1 = .ok (.aload_n 0, 1) := by decide +kernel
theorem d2 : decode yB 2 = .ok (.arraylength, 1) := by decide +kernel
theorem d3 : decode yB 3 = .ok (.isub, 1) := by decide +kernel
theorem d4 : decode yB 4 = .ok (.bipush 31, 2) := by decide +kernel
theorem d6 : decode yB 6 = .ok (.iushr, 1) := by decide +kernel
theorem d7 : decode yB 7 = .ok (.i2b, 1) := by decide +kernel
theorem d8 : decode yB 8 = .ok (.ireturn, 1) := by decide +kernel
def site : List Cond := []
def tab : Cond := tabOf yN yB 2 (some .byte) site
def P (d : Addr) (B : Cell) (args : Array Value) (s : State) : Prop := args = #[.ref d, .int (Int32.ofNat B.slots.size)] ∧ Arr .byte d B s
def E (r : Option Value) (s u : State) : Prop := XT.PureE (some (.int 0)) r s u
/-- an array as long as the number of chars: LATIN1 -/
theorem law (l : Launch) (d : Addr) (B : Cell) : Law l yN 2 2 0 0 yB 2 (some .byte) site (P d B) E [] 0 0 := by
  refine Law.of_walk (plainFor_of_name (by decide +kernel)) (by decide +kernel) (by decide +kernel) (by decide) (fun _ _ h => by rw [h.1]; rfl) (fun _ U U' hal hh h => ⟨h.1, h.2.mv hal hh⟩) (fun r U U' V V' h1 hal h2 h => XT.PureE.mv r U U' V V' h1 hal h2 h) ?_
  intro p e s m args below meth c s₁ X0 hexec hbytes hml hret hlk hnm hown hh0 W hP
  obtain ⟨rfl, hB⟩ := hP
  have hB0 := hB.mv X0.warmed.alike hh0
  have c1 : Steps p.tables e below (s₁.setTop (entryFrame m #[.ref d, .int (Int32.ofNat B.slots.size)] 2)) (s₁.setTop (mkF m 0 #[.val (.ref d), .val (.int (Int32.ofNat B.slots.size))] [])) := entry rfl
  have c2 : Steps p.tables e below (s₁.setTop (entryFrame m #[.ref d, .int (Int32.ofNat B.slots.size)] 2)) (s₁.setTop (mkF m 2 #[.val (.ref d), .val (.int (Int32.ofNat B.slots.size))] [.ref d, .int (Int32.ofNat B.slots.size)])) := c1.trans (by
    refine XS.iloadN X0.here hexec rfl (hb hbytes d0) rfl ?_
    refine XS.aloadN X0.here hexec rfl (hb hbytes d1) rfl rfl ?_
    exact Steps.refl _)
  have c3 : Steps p.tables e below (s₁.setTop (entryFrame m #[.ref d, .int (Int32.ofNat B.slots.size)] 2)) (s₁.setTop (mkF m 8 #[.val (.ref d), .val (.int (Int32.ofNat B.slots.size))] [.int (lo8 (ushr (Int32.ofNat B.slots.size - Int32.ofNat B.slots.size) 31))])) := c2.trans (by
    refine X0.alen hexec hB0 rfl rfl (hb hbytes d2) ?_
    refine XS.isub X0.here hexec rfl (hb hbytes d3) rfl ?_
    refine bipushV X0.here hexec rfl 31 (hb hbytes d4) (by decide) ?_
    refine iushr X0.here hexec rfl (hb hbytes d6) rfl ?_
    refine i2b X0.here hexec rfl (hb hbytes d7) rfl ?_
    exact Steps.refl _)
  have e0 : lo8 (ushr (Int32.ofNat B.slots.size - Int32.ofNat B.slots.size) 31) = 0 := by rw [Int32.sub_self]; decide
  rw [e0] at c3
  exact ⟨s₁, some (.int 0), _, _, _, X0, rfl, rfl, rfl, (fun h => by cases h), ⟨rfl, hh0⟩, fun fs hl => c3.trans (X0.ireturnOut hexec hret rfl (Or.inr (Or.inr (Or.inl rfl))) (hb hbytes d8) hl)⟩
end CodL
/-- the String at a is Latin-1 over a new byte[] (the heap's one new cell): the low bytes of the len chars of A from o on; every cell but a is kept -/
def Got (a : Addr) (D : Cell) (fV fC : Field) (A : Cell) (o len : Nat) (r : Option Value) (s u : State) : Prop := r = none ∧ ∃ D' V : Cell, Blank "java/lang/String" a D' u ∧ Same D D' [fV.slot, fC.slot] ∧ D'.slots[fV.slot]? = some (.ref s.heap.size) ∧ D'.slots[fC.slot]? = some (.int 0) ∧ Arr .byte s.heap.size V u ∧ V.vm = .none ∧ u.vm.findClass "[B" = some V.cls ∧ V.slots.size = len ∧ (∀ j, j < len → V.slots[j]? = some (.int (lo8 (cv A (o + j))))) ∧ (∀ (y : Addr) (c : Cell), y ≠ a → s.heap[y]? = some c → u.heap[y]? = some c) ∧ u.heap.size = s.heap.size + 1
theorem Got.mv {a : Addr} {D A : Cell} {fV fC : Field} {o len : Nat} : ∀ r (U U' V V' : State), U'.heap = U.heap → V.vm.Alike V'.vm → V'.heap = V.heap → Got a D fV fC A o len r U V → Got a D fV fC A o len r U' V' :=
  fun r U U' V V' h1 hal h2 ⟨e0, D', X, a1, a2, a3, a4, a5, a6, a7, a8, a9, a10, a11⟩ => ⟨e0, D', X, a1.mv hal h2, a2, by rw [h1]; exact a3, a4, by rw [h1]; exact a5.mv hal h2, a6, by rw [hal.findClass]; exact a7, a8, a9, by rw [h1, h2]; exact a10, by rw [h1, h2]; exact a11⟩
namespace New4
def yN : MethodName := ⟨"java/lang/String", "<init>", "([CIILjava/lang/Void;)V"⟩
abbrev yB : ByteArray := jdk_42_method_149_code
theorem d0 : decode yB 0 = .ok (.aload_n 0, 1) := by decide +kernel
theorem d1 : decode yB 1 = .ok (.invokespecial 1, 3) := by decide +kernel
theorem d4 : decode yB 4 = .ok (.iload_n 3, 1) := by decide +kernel
theorem d5 : decode yB 5 = .ok (.ifCond (.ne) 22, 3) := by decide +kernel
theorem d27 : decode yB 27 = .ok (.getstatic 38, 3) := by decide +kernel
theorem d30 : decode yB 30 = .ok (.ifCond (.eq) 28, 3) := by decide +kernel
theorem d33 : decode yB 33 = .ok (.aload_n 1, 1) := by decide +kernel
theorem d34 : decode yB 34 = .ok (.iload_n 2, 1) := by decide +kernel
theorem d35 : decode yB 35 = .ok (.iload_n 3, 1) := by decide +kernel
theorem d36 : decode yB 36 = .ok (.invokestatic 177, 3) := by decide +kernel
theorem d39 : decode yB 39 = .ok (.astore 5, 2) := by decide +kernel
theorem d41 : decode yB 41 = .ok (.aload_n 0, 1) := by decide +kernel
theorem d42 : decode yB 42 = .ok (.aload 5, 2) := by decide +kernel
theorem d44 : decode yB 44 = .ok (.iload_n 3, 1) := by decide +kernel
theorem d45 : decode yB 45 = .ok (.invokestatic 47, 3) := by decide +kernel
theorem d48 : decode yB 48 = .ok (.putfield 15, 3) := by decide +kernel
theorem d51 : decode yB 51 = .ok (.aload_n 0, 1) := by decide +kernel
theorem d52 : decode yB 52 = .ok (.aload 5, 2) := by decide +kernel
theorem d54 : decode yB 54 = .ok (.putfield 9, 3) := by decide +kernel
theorem d57 : decode yB 57 = .ok (.return_, 1) := by decide +kernel
def site : List Cond := [.fieldLink "java/lang/String" 38 "java/lang/String" "COMPACT_STRINGS" "Z", Cmp3.tab, CodL.tab, .laysFinal "java/lang/String" "java/lang/String" "value" "[B", .fieldLink "java/lang/String" 9 "java/lang/String" "value" "[B", .laysFinal "java/lang/String" "java/lang/String" "coder" "B", .fieldLink "java/lang/String" 15 "java/lang/String" "coder" "B"] ++ objW "java/lang/String" 1 ++ staticW "java/lang/String" 177 Cmp3.yN ++ staticW "java/lang/String" 47 CodL.yN
def tab : Cond := tabOf yN yB 6 none site
def P (a : Addr) (D : Cell) (fV fC : Field) (b : Addr) (A : Cell) (z : Int32) (o len : Nat) (args : Array Value) (s : State) : Prop := args = #[.ref a, .ref b, .int (Int32.ofNat o), .int (Int32.ofNat len), .null] ∧ Blank "java/lang/String" a D s ∧ Found "java/lang/String" "value" "[B" fV s ∧ Found "java/lang/String" "coder" "B" fC s ∧ Ch b A s ∧ StaticIs s "java/lang/String" "COMPACT_STRINGS" "Z" (.int z) ∧ ¬ z = 0 ∧ 0 < len ∧ o + len ≤ A.slots.size ∧ len ≤ 536870912 ∧ ∀ i, i < len → ¬ 255 < cv A (o + i)
def E (a : Addr) (D : Cell) (fV fC : Field) (A : Cell) (o len : Nat) (r : Option Value) (s u : State) : Prop := Got a D fV fC A o len r s u
/-- len > 0, no char of the range above 255: a Latin-1 String of their low bytes -/
theorem law (l : Launch) (a : Addr) (D : Cell) (fV fC : Field) (b : Addr) (A : Cell) (z : Int32) (o len : Nat) : Law l yN 5 4 2 35 yB 6 none site (P a D fV fC b A z o len) (E a D fV fC A o len) [⟨a, fC.slot⟩, ⟨a, fV.slot⟩] 1 len := by
  refine Law.of_walk (plainFor_of_name (by decide +kernel)) (by decide +kernel) (by decide +kernel) (by decide) (fun _ _ h => by rw [h.1]; rfl) (fun _ U U' hal hh h => ⟨h.1, h.2.1.mv hal hh, h.2.2.1.al hal, h.2.2.2.1.al hal, h.2.2.2.2.1.mv hal hh, h.2.2.2.2.2.1.there hal hh, h.2.2.2.2.2.2⟩) (fun r U U' V V' h1 hal h2 h => Got.mv r U U' V V' h1 hal h2 h) ?_
  intro p e s m args below meth c s₁ X0 hexec hbytes hml hret hlk hnm hown hh0 W hP
  obtain ⟨rfl, hB, f1, f2, hA, s1, hz, l0, l1, l2, hp⟩ := hP
  have a31 := hA.1.2.2.2
  have c1 : Steps p.tables e below (s₁.setTop (entryFrame m #[.ref a, .ref b, .int (Int32.ofNat o), .int (Int32.ofNat len), .null] 6)) (s₁.setTop (mkF m 0 #[.val (.ref a), .val (.ref b), .val (.int (Int32.ofNat o)), .val (.int (Int32.ofNat len)), .val .null, .unset] [])) := entry rfl
  have c2 : Steps p.tables e below (s₁.setTop (entryFrame m #[.ref a, .ref b, .int (Int32.ofNat o), .int (Int32.ofNat len), .null] 6)) (s₁.setTop (mkF m 1 #[.val (.ref a), .val (.ref b), .val (.int (Int32.ofNat o)), .val (.int (Int32.ofNat len)), .val .null, .unset] [.ref a])) := c1.trans (by
    refine XS.aloadN X0.here hexec rfl (hb hbytes d0) rfl rfl ?_
    exact Steps.refl _)
  obtain ⟨T3, X3, q3, st3⟩ := X0.oinit hexec hown (wks W (objW "java/lang/String" 1)) (g := (mkF m 1 #[.val (.ref a), .val (.ref b), .val (.int (Int32.ofNat o)), .val (.int (Int32.ofNat len)), .val .null, .unset] [.ref a])) rfl (by rw [hml]; rfl) (rest := []) rfl (hb hbytes d1) (W := 0) (by show 2 * 0 + 0 ≤ _; decide) (Nat.le_of_ble_eq_true rfl) (Nat.le_of_ble_eq_true rfl)
  have hh3 := q3.trans hh0
  have c4 : Steps p.tables e below (s₁.setTop (entryFrame m #[.ref a, .ref b, .int (Int32.ofNat o), .int (Int32.ofNat len), .null] 6)) (T3.setTop (mkF m 27 #[.val (.ref a), .val (.ref b), .val (.int (Int32.ofNat o)), .val (.int (Int32.ofNat len)), .val .null, .unset] [])) := (c2.trans (st3 _ (Steps.refl _))).trans (by
    refine XS.iloadN X3.here hexec rfl (hb hbytes d4) rfl ?_
    refine XS.ifYes X3.here hexec rfl (pc0 := 5) rfl (hb hbytes d5) rfl (i0_ne_t (nz32 (by omega) l0)) (by decide) rfl ?_
    exact Steps.refl _)
  obtain ⟨T5, X5, q5, st5⟩ := X3.sget hexec hown (wk W (.fieldLink "java/lang/String" 38 "java/lang/String" "COMPACT_STRINGS" "Z")) s1 (fun _ _ h => by rw [hh3]; exact h) (g := (mkF m 27 #[.val (.ref a), .val (.ref b), .val (.int (Int32.ofNat o)), .val (.int (Int32.ofNat len)), .val .null, .unset] [])) rfl (hb hbytes d27)
  have hh5 := q5.trans hh3
  have c6 : Steps p.tables e below (s₁.setTop (entryFrame m #[.ref a, .ref b, .int (Int32.ofNat o), .int (Int32.ofNat len), .null] 6)) (T5.setTop (mkF m 30 #[.val (.ref a), .val (.ref b), .val (.int (Int32.ofNat o)), .val (.int (Int32.ofNat len)), .val .null, .unset] [.int z])) := c4.trans (st5 _ (Steps.refl _))
  have c7 : Steps p.tables e below (s₁.setTop (entryFrame m #[.ref a, .ref b, .int (Int32.ofNat o), .int (Int32.ofNat len), .null] 6)) (T5.setTop (mkF m 36 #[.val (.ref a), .val (.ref b), .val (.int (Int32.ofNat o)), .val (.int (Int32.ofNat len)), .val .null, .unset] [.int (Int32.ofNat len), .int (Int32.ofNat o), .ref b])) := c6.trans (by
    refine XS.ifNo X5.here hexec rfl (hb hbytes d30) rfl (i0_eq_f hz) ?_
    refine XS.aloadN X5.here hexec rfl (hb hbytes d33) rfl rfl ?_
    refine XS.iloadN X5.here hexec rfl (hb hbytes d34) rfl ?_
    refine XS.iloadN X5.here hexec rfl (hb hbytes d35) rfl ?_
    exact Steps.refl _)
  obtain ⟨v8, T8, X8, E8, g8⟩ := X5.callS hexec (Cmp3.law l b A o len) hown (wks W (staticW "java/lang/String" 177 Cmp3.yN)) (wk W Cmp3.tab) (W := 0) (Nat.le_of_ble_eq_true rfl) (Nat.le_of_ble_eq_true rfl) (Nat.le_refl _) (by show 0 + len ≤ len; omega) (g := (mkF m 36 #[.val (.ref a), .val (.ref b), .val (.int (Int32.ofNat o)), .val (.int (Int32.ofNat len)), .val .null, .unset] [.int (Int32.ofNat len), .int (Int32.ofNat o), .ref b])) rfl (by rw [hml]; rfl) c7 (argsL := [.ref b, .int (Int32.ofNat o), .int (Int32.ofNat len)]) (rest := []) rfl rfl (by show 2 * 0 + 0 ≤ _; decide) (hb hbytes d36) (⟨rfl, hA.mv X5.warmed.alike hh5, l1, l2, hp⟩)
  obtain ⟨e8, z8⟩ := E8
  obtain ⟨rfl, N, n1, n2, n3, n4, n5, n6⟩ := NewArr.mv _ T5 s _ _ hh5.symm (Vm.Alike.refl _) rfl e8
  rw [hh5] at z8
  have hB1 := hB.keep X8.warmed.alike (n6 _ _ hB.1)
  have hne : s.heap.size ≠ a := (Nat.ne_of_lt (Array.getElem?_eq_some_iff.mp hB.1).1).symm
  have c9 : Steps p.tables e below (s₁.setTop (entryFrame m #[.ref a, .ref b, .int (Int32.ofNat o), .int (Int32.ofNat len), .null] 6)) (T8.setTop (mkF m 39 #[.val (.ref a), .val (.ref b), .val (.int (Int32.ofNat o)), .val (.int (Int32.ofNat len)), .val .null, .unset] [.ref s.heap.size])) := g8
  have c10 : Steps p.tables e below (s₁.setTop (entryFrame m #[.ref a, .ref b, .int (Int32.ofNat o), .int (Int32.ofNat len), .null] 6)) (T8.setTop (mkF m 45 #[.val (.ref a), .val (.ref b), .val (.int (Int32.ofNat o)), .val (.int (Int32.ofNat len)), .val .null, .val (.ref s.heap.size)] [.int (Int32.ofNat N.slots.size), .ref s.heap.size, .ref a])) := by
    have hc : Steps p.tables e below (s₁.setTop (entryFrame m #[.ref a, .ref b, .int (Int32.ofNat o), .int (Int32.ofNat len), .null] 6)) (T8.setTop (mkF m 45 #[.val (.ref a), .val (.ref b), .val (.int (Int32.ofNat o)), .val (.int (Int32.ofNat len)), .val .null, .val (.ref s.heap.size)] [.int (Int32.ofNat len), .ref s.heap.size, .ref a])) := c9.trans (by
      refine XS.astore X8.here hexec rfl (hb hbytes d39) rfl rfl rfl ?_
      refine XS.aloadN X8.here hexec rfl (hb hbytes d41) rfl rfl ?_
      refine XS.aload X8.here hexec rfl (hb hbytes d42) rfl rfl ?_
      refine XS.iloadN X8.here hexec rfl (hb hbytes d44) rfl ?_
      exact Steps.refl _)
    rw [n4]; exact hc
  obtain ⟨v11, T11, X11, E11, g11⟩ := X8.callS hexec (CodL.law l s.heap.size N) hown (wks W (staticW "java/lang/String" 47 CodL.yN)) (wk W CodL.tab) (W := 1) (Nat.le_of_ble_eq_true rfl) (Nat.le_of_ble_eq_true rfl) (Nat.le_refl _) (by show 0 + len + 0 ≤ len; omega) (g := (mkF m 45 #[.val (.ref a), .val (.ref b), .val (.int (Int32.ofNat o)), .val (.int (Int32.ofNat len)), .val .null, .val (.ref s.heap.size)] [.int (Int32.ofNat N.slots.size), .ref s.heap.size, .ref a])) rfl (by rw [hml]; rfl) c10 (argsL := [.ref s.heap.size, .int (Int32.ofNat N.slots.size)]) (rest := [.ref a]) rfl rfl (by show 2 * 0 + (1 + 0) ≤ _; decide) (hb hbytes d45) (⟨rfl, n1⟩)
  obtain ⟨rfl, q11⟩ := E11
  have hB11 := hB1.mv (X8.warmed.alike.symm.trans X11.warmed.alike) q11
  have c12 : Steps p.tables e below (s₁.setTop (entryFrame m #[.ref a, .ref b, .int (Int32.ofNat o), .int (Int32.ofNat len), .null] 6)) (T11.setTop (mkF m 48 #[.val (.ref a), .val (.ref b), .val (.int (Int32.ofNat o)), .val (.int (Int32.ofNat len)), .val .null, .val (.ref s.heap.size)] [.int 0, .ref a])) := g11
  obtain ⟨T13, X13, p13, bl13, sl13, st13⟩ := X11.finit hexec hown (wk W (.fieldLink "java/lang/String" 15 "java/lang/String" "coder" "B")) (Or.inr ⟨_, (wk W (.laysFinal "java/lang/String" "java/lang/String" "coder" "B"))⟩) (Or.inl ⟨rfl, hnm⟩) f2 (Or.inl rfl) hB11 (t := .byte) (by decide +kernel) rfl (g := (mkF m 48 #[.val (.ref a), .val (.ref b), .val (.int (Int32.ofNat o)), .val (.int (Int32.ofNat len)), .val .null, .val (.ref s.heap.size)] [.int 0, .ref a])) rfl (rest := []) rfl (hb hbytes d48)
  have c14 : Steps p.tables e below (s₁.setTop (entryFrame m #[.ref a, .ref b, .int (Int32.ofNat o), .int (Int32.ofNat len), .null] 6)) (T13.setTop (mkF m 54 #[.val (.ref a), .val (.ref b), .val (.int (Int32.ofNat o)), .val (.int (Int32.ofNat len)), .val .null, .val (.ref s.heap.size)] [.ref s.heap.size, .ref a])) := (c12.trans (st13 _ (Steps.refl _))).trans (by
    refine XS.aloadN X13.here hexec rfl (hb hbytes d51) rfl rfl ?_
    refine XS.aload X13.here hexec rfl (hb hbytes d52) rfl rfl ?_
    exact Steps.refl _)
  obtain ⟨T15, X15, p15, bl15, sl15, st15⟩ := X13.finit hexec hown (wk W (.fieldLink "java/lang/String" 9 "java/lang/String" "value" "[B")) (Or.inr ⟨_, (wk W (.laysFinal "java/lang/String" "java/lang/String" "value" "[B"))⟩) (Or.inl ⟨rfl, hnm⟩) f1 (Or.inl rfl) bl13 (t := (.array .byte)) (by decide +kernel) rfl (g := (mkF m 54 #[.val (.ref a), .val (.ref b), .val (.int (Int32.ofNat o)), .val (.int (Int32.ofNat len)), .val .null, .val (.ref s.heap.size)] [.ref s.heap.size, .ref a])) rfl (rest := []) rfl (hb hbytes d54)
  have c16 : Steps p.tables e below (s₁.setTop (entryFrame m #[.ref a, .ref b, .int (Int32.ofNat o), .int (Int32.ofNat len), .null] 6)) (T15.setTop (mkF m 57 #[.val (.ref a), .val (.ref b), .val (.int (Int32.ofNat o)), .val (.int (Int32.ofNat len)), .val .null, .val (.ref s.heap.size)] [])) := c14.trans (st15 _ (Steps.refl _))
  have ap := apart (Or.inr ⟨_, (wk W (.laysFinal "java/lang/String" "java/lang/String" "value" "[B"))⟩) (Or.inr ⟨_, (wk W (.laysFinal "java/lang/String" "java/lang/String" "coder" "B"))⟩) f1 f2 (t₁ := .array .byte) (t₂ := .byte) (by decide +kernel) (by decide +kernel) (by decide)
  have al := X8.warmed.alike.symm.trans X15.warmed.alike
  have n7 : T11.heap[s.heap.size]? = some N := by rw [q11]; exact n1.1
  exact ⟨T15, none, _, _, _, X15, by simp, rfl, by omega, (fun _ => rfl), ⟨rfl, _, N, bl15, ((Same.refl D _).set _ (by simp)).set _ (by simp), sl15, (Cell.slots_setSlot_ne _ ap).trans sl13, n1.keep al (p15.other hne (p13.other hne n7)), n2, by rw [al.findClass]; exact n3, n4, n5, fun y c h1 h2 => p15.other h1 (p13.other h1 (by rw [q11]; exact n6 y c h2)), by rw [p15.2.2, p13.2.2, q11]; exact z8⟩, fun fs hl => c16.trans (X15.returnOut hexec hret (hb hbytes d57) hl)⟩
end New4
namespace New1
def yN : MethodName := ⟨"java/lang/String", "<init>", "([C)V"⟩
abbrev yB : ByteArray := jdk_42_method_3_code
theorem d0 : decode yB 0 = .ok (.aload_n 0, 1) := by decide +kernel
theorem d1 : decode yB 1 = .ok (.aload_n 1, 1) := by decide +kernel
theorem d2 : decode yB 2 = .ok (.iconst 0, 1) := by decide +kernel
theorem d3 : decode yB 3 = .ok (.aload_n 1, 1) := by decide +kernel
theorem d4 : decode yB 4 = .ok (.arraylength, 1) := by decide +kernel
theorem d5 : decode yB 5 = .ok (.aconst_null, 1) := by decide +kernel
theorem d6 : decode yB 6 = .ok (.invokespecial 27, 3) := by decide +kernel
theorem d9 : decode yB 9 = .ok (.return_, 1) := by decide +kernel
def site : List Cond := [New4.tab] ++ initW "java/lang/String" 27 New4.yN
def tab : Cond := tabOf yN yB 2 none site
def P (a : Addr) (D : Cell) (fV fC : Field) (b : Addr) (A : Cell) (z : Int32) (args : Array Value) (s : State) : Prop := args = #[.ref a, .ref b] ∧ Blank "java/lang/String" a D s ∧ Found "java/lang/String" "value" "[B" fV s ∧ Found "java/lang/String" "coder" "B" fC s ∧ Ch b A s ∧ StaticIs s "java/lang/String" "COMPACT_STRINGS" "Z" (.int z) ∧ ¬ z = 0 ∧ 0 < A.slots.size ∧ A.slots.size ≤ 536870912 ∧ ∀ i, i < A.slots.size → ¬ 255 < cv A i
def E (a : Addr) (D : Cell) (fV fC : Field) (A : Cell) (r : Option Value) (s u : State) : Prop := Got a D fV fC A 0 A.slots.size r s u
/-- new String(chars), not empty, no char above 255: a Latin-1 String of their low bytes -/
theorem law (l : Launch) (a : Addr) (D : Cell) (fV fC : Field) (b : Addr) (A : Cell) (z : Int32) : Law l yN 2 1 3 52 yB 2 none site (P a D fV fC b A z) (E a D fV fC A) [⟨a, fC.slot⟩, ⟨a, fV.slot⟩] 1 A.slots.size := by
  refine Law.of_walk (plainFor_of_name (by decide +kernel)) (by decide +kernel) (by decide +kernel) (by decide) (fun _ _ h => by rw [h.1]; rfl) (fun _ U U' hal hh h => ⟨h.1, h.2.1.mv hal hh, h.2.2.1.al hal, h.2.2.2.1.al hal, h.2.2.2.2.1.mv hal hh, h.2.2.2.2.2.1.there hal hh, h.2.2.2.2.2.2⟩) (fun r U U' V V' h1 hal h2 h => Got.mv r U U' V V' h1 hal h2 h) ?_
  intro p e s m args below meth c s₁ X0 hexec hbytes hml hret hlk hnm hown hh0 W hP
  obtain ⟨rfl, hB, f1, f2, hA, s1, hz, l0, l2, hp⟩ := hP
  have c1 : Steps p.tables e below (s₁.setTop (entryFrame m #[.ref a, .ref b] 2)) (s₁.setTop (mkF m 0 #[.val (.ref a), .val (.ref b)] [])) := entry rfl
  have c2 : Steps p.tables e below (s₁.setTop (entryFrame m #[.ref a, .ref b] 2)) (s₁.setTop (mkF m 6 #[.val (.ref a), .val (.ref b)] [.null, .int (Int32.ofNat A.slots.size), .int 0, .ref b, .ref a])) := c1.trans (by
    refine XS.aloadN X0.here hexec rfl (hb hbytes d0) rfl rfl ?_
    refine XS.aloadN X0.here hexec rfl (hb hbytes d1) rfl rfl ?_
    refine iconstV X0.here hexec rfl 0 (hb hbytes d2) (by decide) ?_
    refine XS.aloadN X0.here hexec rfl (hb hbytes d3) rfl rfl ?_
    refine X0.alen hexec (hA.1.mv X0.warmed.alike hh0) rfl rfl (hb hbytes d4) ?_
    refine XS.aconstNull X0.here hexec rfl (hb hbytes d5) ?_
    exact Steps.refl _)
  obtain ⟨v3, T3, X3, E3, g3⟩ := X0.callN hexec (New4.law l a D fV fC b A z 0 A.slots.size) rfl hown (wks W (initW "java/lang/String" 27 New4.yN)) (W New4.tab (by simp only [site, List.mem_cons, List.mem_append, true_or, or_true])) (W := 0) (Nat.le_of_ble_eq_true rfl) (Nat.le_of_ble_eq_true rfl) (Nat.le_refl _) (by show 0 + A.slots.size ≤ A.slots.size; omega) (g := (mkF m 6 #[.val (.ref a), .val (.ref b)] [.null, .int (Int32.ofNat A.slots.size), .int (Int32.ofNat 0), .ref b, .ref a])) rfl (by rw [hml]; rfl) c2 (argsL := [.ref b, .int (Int32.ofNat 0), .int (Int32.ofNat A.slots.size), .null]) (rest := []) rfl rfl (by show 2 * 0 + 0 ≤ _; decide) (hb hbytes d6) (⟨rfl, hB.mv X0.warmed.alike hh0, f1.al X0.warmed.alike, f2.al X0.warmed.alike, hA.mv X0.warmed.alike hh0, s1.there X0.warmed.alike hh0, hz, l0, by omega, l2, fun i hi => by rw [Nat.zero_add]; exact hp i hi⟩)
  have e0 := Got.mv _ s₁ s _ _ hh0.symm (Vm.Alike.refl _) rfl E3
  obtain rfl := e0.1
  have c4 : Steps p.tables e below (s₁.setTop (entryFrame m #[.ref a, .ref b] 2)) (T3.setTop (mkF m 9 #[.val (.ref a), .val (.ref b)] [])) := g3
  exact ⟨T3, none, _, _, _, X3, by simp, rfl, by omega, (fun _ => rfl), e0, fun fs hl => c4.trans (X3.returnOut hexec hret (hb hbytes d9) hl)⟩
theorem pays {l : Launch} {R : Room} {p : Program} {e : Env} {below : List Frame} {s : State} {sargs : Array Value} {len W : Nat} (a : Addr) (D : Cell) (fV fC : Field) (b : Addr) (A : Cell) (z : Int32) (htab : tab.before sargs s = true) (hfr : 4 ≤ R.frames) (hlo : W + 65 ≤ R.locals) :
    Back l R p e below s sargs yN len W (fun A₁ a₁ => A₁.cells + 1 ≤ R.cells ∧ A₁.slots + A.slots.size ≤ R.slots ∧ P a D fV fC b A z a₁ A₁.U) (fun A₁ _ v₁ B₁ => E a D fV fC A v₁ A₁.U B₁.U ∧ B₁.locs = A₁.locs ++ [⟨a, fC.slot⟩, ⟨a, fV.slot⟩] ∧ B₁.cells = A₁.cells + 1 ∧ B₁.slots = A₁.slots + A.slots.size) :=
  (law l a D fV fC b A z).pays htab hfr (by omega)
end New1
/-- the byte, read back as charAt reads it, is the char -/
theorem lo8_mask {x : Int32} (h0 : ¬ x < 0) (h1 : ¬ 255 < x) : lo8 x &&& 255 = x := by
  have t : ∀ k : Fin 256, lo8 (Int32.ofNat k.val) &&& 255 = Int32.ofNat k.val := by decide +kernel
  rw [Int32.lt_iff_toInt_lt] at h0 h1
  have e0 : (0 : Int32).toInt = 0 := rfl
  have e1 : (255 : Int32).toInt = 255 := rfl
  obtain ⟨k, hk⟩ : ∃ k : Nat, x.toInt = k := ⟨x.toInt.toNat, by omega⟩
  have hx : x = Int32.ofNat k := Int32.toInt_inj.mp (by rw [hk, Int32.toInt_ofNat_small (by omega)])
  rw [hx]
  exact t ⟨k, by omega⟩
end StrChars
namespace StrChars.Road
open Jvm Sem ClassFile Op Lib Jvm.Stand Jvm.Free Jvm.Free.XT
open Jvm.Lib.Cold (StaticIs)
abbrev ST : String := "java/lang/String"
/-- every table word that New1's law asks, flat -/
abbrev words : List Jvm.Cond := [.code New1.yN New1.yB 2 none, .initialized ST, .methodLink ST 27 New4.yN, .instanceMethod New4.yN,
  .code New4.yN New4.yB 6 none, .fieldLink ST 38 ST "COMPACT_STRINGS" "Z", .laysFinal ST ST "value" "[B", .fieldLink ST 9 ST "value" "[B", .laysFinal ST ST "coder" "B", .fieldLink ST 15 ST "coder" "B",
  .methodLink ST 1 Lib.objectInit, .instanceMethod Lib.objectInit, .code Lib.objectInit ⟨#[0xb1]⟩ 1 none, .methodLink ST 177 Cmp3.yN, .static Cmp3.yN, .methodLink ST 47 CodL.yN, .static CodL.yN,
  .code Cmp3.yN Cmp3.yB 6 (some (.array .byte)), .initialized U16, .arrayClass .byte, .methodLink U16 115 Cmp5.yN, .static Cmp5.yN, .code Cmp5.yN Cmp5.yB 7 (some .int), .code CodL.yN CodL.yB 2 (some .byte)]
theorem tab_of {a : Array Value} {s : State} (h : ∀ w ∈ words, w.before a s = true) : New1.tab.before a s = true := by
  have h5 : Cmp5.tab.before a s = true := unparts (wk h (.code Cmp5.yN Cmp5.yB 7 (some .int))) (wks h (.initialized Cmp5.yN.cls :: Cmp5.site))
  have hc : CodL.tab.before a s = true := unparts (wk h (.code CodL.yN CodL.yB 2 (some .byte))) (wks h (.initialized CodL.yN.cls :: CodL.site))
  have q5 : ∀ w ∈ Cmp5.tab :: words, w.before a s = true := fun w hw => (List.mem_cons.mp hw).elim (fun e => e ▸ h5) (h w)
  have h3 : Cmp3.tab.before a s = true := unparts (wk q5 (.code Cmp3.yN Cmp3.yB 6 (some (.array .byte)))) (wks q5 (.initialized Cmp3.yN.cls :: Cmp3.site))
  have q3 : ∀ w ∈ Cmp3.tab :: CodL.tab :: words, w.before a s = true := fun w hw => (List.mem_cons.mp hw).elim (fun e => e ▸ h3) fun hw => (List.mem_cons.mp hw).elim (fun e => e ▸ hc) (h w)
  have h4 : New4.tab.before a s = true := unparts (wk q3 (.code New4.yN New4.yB 6 none)) (wks q3 (.initialized New4.yN.cls :: New4.site))
  have q4 : ∀ w ∈ New4.tab :: words, w.before a s = true := fun w hw => (List.mem_cons.mp hw).elim (fun e => e ▸ h4) (h w)
  exact unparts (wk q4 (.code New1.yN New1.yB 2 none)) (wks q4 (.initialized New1.yN.cls :: New1.site))
/-- the words ride from the start Z to the walk's own state -/
theorem moved {Z s : State} {a0 args : Array Value} (hZ : Z.Warmed39 s.vm) (hw : ∀ d ∈ words, d.before a0 Z = true) : ∀ d ∈ words, d.before args s = true := fun d hd => by
  have q := hw d hd
  have t : ∀ d ∈ words, d = .arrayClass .byte ∨ (d.onTables && d.keepsFace) = true := by decide +kernel
  rcases t d hd with rfl | t
  · exact RoadKit.mvA hZ q
  · exact RoadKit.mv hZ q t
/-- WHAT COMES BACK, over the tables of the start Z: h the heap at the call, h' behind it -/
def Q (Z : State) (x : Addr) (A : Cell) (h : Heap) (v : Option Value) (h' : Heap) (L : List Loc) : Prop := v = none ∧ (∀ y ∈ L, y.base = x) ∧ RoadKit.Keep h h' [x] ∧ h'.size = h.size + 1 ∧ RoadKit.Exa Z h' x ST ∧ RoadKit.Fld Z h' x ST "value" "[B" (.ref h.size) ∧ RoadKit.Fld Z h' x ST "coder" "B" (.int 0) ∧
  (∃ V : Cell, RoadKit.Arr Z h' h.size V .byte ∧ V.vm = .none ∧ Z.vm.findClass "[B" = some V.cls ∧ V.slots.size = A.slots.size ∧ ∀ j, j < A.slots.size → V.slots[j]? = some (.int (lo8 (cv A j)))) ∧
  ∀ (O n d : String) (w : Value), RoadKit.Fld Z h x O n d w → RoadKit.slotOf Z O n d ≠ RoadKit.slotOf Z ST "value" "[B" → RoadKit.slotOf Z O n d ≠ RoadKit.slotOf Z ST "coder" "B" → RoadKit.Fld Z h' x O n d w
/-- **new String(chars) AT A CALL, IN THE ROAD'S FORM**: for specialBack behind newO: x the fresh String, b the char[] with the cell A -/
theorem back {p : Program} {l : Launch} {e : Env} {R : Room} {s : State} {args : Array Value} {below : List Frame} {len W : Nat} {Z : State} {a0 : Array Value} {h : Heap} (hZ : Z.Warmed39 s.vm) (hw : ∀ d ∈ words, d.before a0 Z = true) {kI : Nat} (wi : (Jvm.Cond.instantiable ST kI).before a0 Z = true)
    {x b : Addr} {A : Cell} {z : Int32} {v0 c0 : Value} (E : RoadKit.Exa Z h x ST) (V : RoadKit.Fld Z h x ST "value" "[B" v0) (C : RoadKit.Fld Z h x ST "coder" "B" c0) (K : RoadKit.Arr Z h b A .char) (hty : Typed .char A) (S : RoadKit.Sta Z h ST "COMPACT_STRINGS" "Z" (.int z)) (hz : ¬ z = 0)
    (l0 : 0 < A.slots.size) (l2 : A.slots.size ≤ 536870912) (hp : ∀ i, i < A.slots.size → ¬ 255 < cv A i) (hfr : 4 ≤ R.frames) (hlo : W + 65 ≤ R.locals) :
    Back l R p e below s args New1.yN len W (fun P a => a = #[.ref x, .ref b] ∧ P.U.heap = h ∧ P.cells + 1 ≤ R.cells ∧ P.slots + A.slots.size ≤ R.slots)
      (fun P _ v B => ∃ L, Q Z x A h v B.U.heap L ∧ B.locs = P.locs ++ L ∧ B.cells = P.cells + 1 ∧ B.slots = P.slots + A.slots.size) := by
  intro m meth c P g ig mk a X hg hsize hdg hW hn hp'
  obtain ⟨rfl, rfl, r1, r2⟩ := hp'
  have al : Z.vm.Alike P.U.vm := hZ.alike.trans X.warmed.alike
  obtain ⟨D, cfV, kV, iV, fV, hD, gV, stV, knV, obV, asV, slV⟩ := id V
  obtain ⟨D', cfC, kC, iC, fC, hD', gC, stC, -, -, asC, slC⟩ := id C
  cases hD.symm.trans hD'
  obtain ⟨D2, kD, e1, e2, e3, e4, e5⟩ := id E
  cases hD.symm.trans e1
  obtain ⟨c2, k2, i1, i2, i3, -⟩ := Cond.instantiable_spec wi
  cases e2.symm.trans i1
  cases e3.symm.trans i2
  obtain ⟨kU, u1, u2⟩ := al.2.2 _ _ e3
  have hB : Blank ST x D P.U := ⟨hD, ⟨knV, fun q hq => by rw [hq] at obV; cases obV⟩, by rw [al.findClass]; exact e2, kU, u1, by rw [u2]; exact i3, by rw [u2]; exact e5 i3⟩
  have F1 : Found ST "value" "[B" fV P.U := ⟨SBG.found_only al ⟨cfV, kV, iV, gV⟩, stV⟩
  have F2 : Found ST "coder" "B" fC P.U := ⟨SBG.found_only al ⟨cfC, kC, iC, gC⟩, stC⟩
  have hA : Ch b A P.U := ⟨⟨K.1, State.isArrayOf_alike al K.2.1, K.2.2, by omega⟩, hty⟩
  have hS : StaticIs P.U ST "COMPACT_STRINGS" "Z" (.int z) := by
    obtain ⟨cfS, iS, kS, fS, st, cS, t1, t2, t3, t4, t5, t6, t7⟩ := S
    exact StaticIs.there (s := { Z with heap := P.U.heap }) ⟨cfS, iS, kS, fS, st, cS, t1, t2, t3, t4, t5, (fun q => by rw [q] at t6; cases t6), t7⟩ al rfl
  obtain ⟨v, B, X', ⟨⟨hv, E', V', q1, q2, q3, q4, q5, q6, q7, q8, q9, q10, q11⟩, hl, hc, hs⟩, st⟩ := New1.pays x D fV fC b A z (tab_of (moved hZ hw)) hfr hlo m meth c P g ig mk _ X hg hsize hdg hW hn ⟨r1, r2, rfl, hB, F1, F2, hA, hS, hz, l0, l2, hp⟩
  have al' : Z.vm.Alike B.U.vm := hZ.alike.trans X'.warmed.alike
  have hsz : E'.slots.size = D.slots.size := by
    obtain ⟨-, -, -, kB, w1, w2, w3⟩ := q1
    obtain ⟨kB', y1, y2⟩ := al'.2.2 _ _ e3
    rw [q2.2.1] at w1
    cases w1.symm.trans y1
    rw [w3, e5 i3, y2]
  refine ⟨v, B, X', ⟨_, ⟨hv, ?_, ⟨by omega, fun y cy hy hn' => q10 y cy (by simpa using hn') hy, fun y cy hy => ?_⟩, q11, ⟨E', _, q1.1, by rw [q2.2.1]; exact e2, by rw [q2.2.1]; exact e3, by rw [q2.1]; exact obV, fun _ => by rw [hsz]; exact e5 i3⟩,
    ⟨E', cfV, kV, iV, fV, q1.1, gV, stV, by rw [q2.1]; exact knV, by rw [q2.1]; exact obV, by rw [q2.2.1]; exact asV, q3⟩, ⟨E', cfC, kC, iC, fC, q1.1, gC, stC, by rw [q2.1]; exact knV, by rw [q2.1]; exact obV, by rw [q2.2.1]; exact asC, q4⟩,
    ⟨V', ⟨q5.1, State.isArrayOf_alike al'.symm q5.2.1, q5.2.2.1⟩, q6, by rw [← al'.findClass]; exact q7, q8, fun j hj => by have := q9 j hj; rwa [Nat.zero_add] at this⟩, fun O n d w F n1 n2 => ?_⟩, hl, hc, hs⟩, st⟩
  · intro y hy
    simp only [List.mem_cons, List.not_mem_nil, or_false] at hy
    rcases hy with rfl | rfl <;> rfl
  · by_cases q : y = x
    · subst q
      cases hD.symm.trans hy
      exact ⟨E', q1.1, q2.2.1, q2.1, hsz⟩
    · exact ⟨cy, q10 y cy q hy, rfl, rfl, rfl⟩
  · obtain ⟨D3, cf, k, i, f, g1, g2, g3, g4, g5, g6, g7⟩ := F
    cases hD.symm.trans g1
    simp only [RoadKit.slotOf, g2, gV, gC, Option.map_some, Option.getD_some] at n1 n2
    exact ⟨E', cf, k, i, f, q1.1, g2, g3, by rw [q2.1]; exact g4, by rw [q2.1]; exact g5, by rw [q2.2.1]; exact g6, by rw [q2.2.2 f.slot (by simp [n1, n2])]; exact g7⟩
end StrChars.Road
namespace StrChars.Road
open Jvm Sem ClassFile Op Lib Jvm.Stand Jvm.Free Jvm.Free.XT
/-- WHAT COMES BACK, the byte[] as a list of values -/
def QA (Z : State) (x : Addr) (zn : Int32) (cs : List Int32) (h : Heap) (v : Option Value) (h' : Heap) (L : List Loc) : Prop := v = none ∧ (∀ y ∈ L, y.base = x) ∧ RoadKit.Keep h h' [x] ∧ h'.size = h.size + 1 ∧ RoadKit.Exa Z h' x ST ∧ RoadKit.Fld Z h' x ST "value" "[B" (.ref h.size) ∧ RoadKit.Fld Z h' x ST "coder" "B" (.int 0) ∧
  (∃ kb, Z.vm.findClass "[B" = some kb ∧ RoadKit.Arv Z h' h.size kb .byte zn (cs.map fun c => .int (lo8 c)) (.int 0)) ∧
  ∀ (O n d : String) (w : Value), RoadKit.Fld Z h x O n d w → RoadKit.slotOf Z O n d ≠ RoadKit.slotOf Z ST "value" "[B" → RoadKit.slotOf Z O n d ≠ RoadKit.slotOf Z ST "coder" "B" → RoadKit.Fld Z h' x O n d w
/-- **new String(chars) AT A CALL, THE ARRAYS AS LISTS**: the char[] at b holds cs, not empty, no char above 255 -/
theorem backArv {p : Program} {l : Launch} {e : Env} {R : Room} {s : State} {args : Array Value} {below : List Frame} {len W : Nat} {Z : State} {a0 : Array Value} {h : Heap} (hZ : Z.Warmed39 s.vm) (hw : ∀ d ∈ words, d.before a0 Z = true) {kI : Nat} (wi : (Jvm.Cond.instantiable ST kI).before a0 Z = true)
    {x b : Addr} {k : ClassId} {zn z : Int32} {cs : List Int32} {dv v0 c0 : Value} (E : RoadKit.Exa Z h x ST) (V : RoadKit.Fld Z h x ST "value" "[B" v0) (C : RoadKit.Fld Z h x ST "coder" "B" c0) (K : RoadKit.Arv Z h b k .char zn (cs.map Value.int) dv) (S : RoadKit.Sta Z h ST "COMPACT_STRINGS" "Z" (.int z)) (hz : ¬ z = 0)
    (hlen : zn.toNatClampNeg = cs.length) (h0 : 0 < cs.length) (hbig : cs.length ≤ 536870912) (hall : ∀ c ∈ cs, ¬ 255 < c) (hfr : 4 ≤ R.frames) (hlo : W + 65 ≤ R.locals) :
    Back l R p e below s args New1.yN len W (fun P a => a = #[.ref x, .ref b] ∧ P.U.heap = h ∧ P.cells + 1 ≤ R.cells ∧ P.slots + cs.length ≤ R.slots)
      (fun P _ v B => ∃ L, QA Z x zn cs h v B.U.heap L ∧ B.locs = P.locs ++ L ∧ B.cells = P.cells + 1 ∧ B.slots = P.slots + cs.length) := by
  obtain ⟨A, K1, K2, K3, K4, K5, K6⟩ := K
  have e : A.slots.size = cs.length := K3.trans hlen
  have hat : ∀ (i : Nat) (hi : i < cs.length), A.slots[i]? = some (.int cs[i]) := fun i hi => by rw [K5 i (by omega)]; simp [List.getD_eq_getElem?_getD, hi]
  have hcv : ∀ (i : Nat) (hi : i < cs.length), cv A i = cs[i] := fun i hi => by unfold cv; rw [hat i hi]
  have hty : Typed .char A := fun i v hv => by
    have hi : i < A.slots.size := (Array.getElem?_eq_some_iff.mp hv).1
    have q := K5 i hi
    rw [hv] at q
    rw [Option.some.inj q]
    exact K6 i hi
  refine Back.mono (back hZ hw wi E V C K1 hty S hz (by omega) (by omega) (fun i hi => by rw [hcv i (by omega)]; exact hall _ (List.getElem_mem _)) hfr hlo) (fun P a hp => ⟨hp.1, hp.2.1, hp.2.2.1, by rw [e]; exact hp.2.2.2⟩) (fun P a v B hp hq => ?_)
  obtain ⟨L, ⟨q1, q2, q3, q4, q5, q6, q7, ⟨V', v1, v2, v3, v4, v5⟩, q9⟩, hl, hc, hs⟩ := hq
  refine ⟨L, ⟨q1, q2, q3, q4, q5, q6, q7, ⟨V'.cls, v3, V', v1, rfl, by rw [v4, e, hlen], K4, fun i hi => ?_, fun i hi => ?_⟩, q9⟩, hl, hc, by rw [hs, e]⟩
  · have hi' : i < cs.length := by omega
    rw [v5 i (by omega), hcv i hi']; simp [List.getD_eq_getElem?_getD, hi']
  · have hi' : i < cs.length := by omega
    simp only [List.getD_eq_getElem?_getD, List.getElem?_map, List.getElem?_eq_getElem hi', Option.map_some, Option.getD_some]
    exact fits_lo8 _
end StrChars.Road
namespace StrChars.Road
open Jvm Sem ClassFile Op Lib Jvm.Stand Jvm.Free Jvm.Free.XT
/-- WHAT COMES BACK, in the writer's own shape -/
def QV (Z : State) (x : Addr) (N : Int32) (bs : List Int32) (h : Heap) (n0 : Nat) (v : Option Value) (h' : Heap) (L : List Loc) : Prop := v = none ∧ RoadKit.Fr n0 L ∧ RoadKit.Keep h h' [x] ∧ RoadKit.Exa Z h' x ST ∧ RoadKit.Fld Z h' x ST "coder" "B" (.int 0) ∧
  ∃ (t : Addr) (kb : ClassId), n0 ≤ t ∧ h.size ≤ t ∧ ¬ t = x ∧ RoadKit.Fld Z h' x ST "value" "[B" (.ref t) ∧ RoadKit.Arv Z h' t kb .byte N (bs.map Value.int) (.int 0)
/-- **new String(chars) AT A CALL, FOR THE WRITER**: a char[] of n known ints, each 0 to 255 -/
theorem backV {p : Program} {l : Launch} {e : Env} {R : Room} {s : State} {args : Array Value} {below : List Frame} {len W : Nat} {Z : State} {a0 : Array Value} {h : Heap} (hZ : Z.Warmed39 s.vm) (hw : ∀ d ∈ words, d.before a0 Z = true) {kI : Nat} (wi : (Jvm.Cond.instantiable ST kI).before a0 Z = true)
    {x b : Addr} {kC : ClassId} {cs bs : List Int32} {d v0 c0 : Value} {z N : Int32} {n n0 : Nat} (hx0 : n0 ≤ x) (hh0 : n0 ≤ h.size) (E : RoadKit.Exa Z h x ST) (V : RoadKit.Fld Z h x ST "value" "[B" v0) (C : RoadKit.Fld Z h x ST "coder" "B" c0) (K : RoadKit.Arv Z h b kC .char N (cs.map Value.int) d) (S : RoadKit.Sta Z h ST "COMPACT_STRINGS" "Z" (.int z)) (hz : ¬ z = 0)
    (hn : cs.length = n) (hN : N = Int32.ofNat n) (l0 : 0 < n) (l2 : n ≤ 4000) (hp : ∀ c ∈ cs, ¬ c < 0 ∧ ¬ (255 : Int32) < c) (hb : bs = cs.map (fun c => c.toInt8.toInt32)) (hfr : 4 ≤ R.frames) (hlo : W + 65 ≤ R.locals) :
    Back l R p e below s args (⟨"java/lang/String", "<init>", "([C)V"⟩ : MethodName) len W (fun P a => a = #[.ref x, .ref b] ∧ P.U.heap = h ∧ P.cells + 1 ≤ R.cells ∧ P.slots + n ≤ R.slots)
      (fun P _ v B => ∃ L, QV Z x N bs h n0 v B.U.heap L ∧ B.locs = P.locs ++ L ∧ B.cells = P.cells + 1 ∧ B.slots = P.slots + n) := by
  subst hn hN hb
  refine Back.mono (backArv hZ hw wi E V C K S hz (n32 (by omega)) l0 (by omega) (fun c hc => (hp c hc).2) hfr hlo) (fun P a hp => hp) (fun P a v B hp hq => ?_)
  obtain ⟨L, ⟨q1, q2, q3, q4, q5, q6, q7, ⟨kb, v1, v2⟩, q9⟩, hl, hc, hs⟩ := hq
  exact ⟨L, ⟨q1, fun y hy => by rw [q2 y hy]; exact hx0, q3, q5, q7, h.size, kb, hh0, Nat.le_refl _, Nat.ne_of_gt E.lt, q6, by rw [List.map_map]; exact v2⟩, hl, hc, hs⟩
end StrChars.Road
namespace StrChars
open Jvm Sem ClassFile Op Lib Jvm.Stand Jvm.Free.XT Jvm.Free.ALB Jvm.Free.JM Jvm.Free
open Jvm.Lib.Cold (StaticIs)
def hi8 (x : Int32) : Int32 := lo8 (x >>> ((8 : Int32) &&& 31))
/-- what StringUTF16.getChar makes of two bytes -/
def pairCh (u v : Int32) : Int32 := (((u &&& 255) <<< ((0 : Int32) &&& 31)) ||| ((v &&& 255) <<< ((8 : Int32) &&& 31))).toUInt32.toUInt16.toUInt32.toInt32
theorem shr0 (c : Int32) : c >>> ((0 : Int32) &&& 31) = c := by
  have e : ((0 : Int32) &&& 31) = 0 := by decide
  rw [e]
  apply Int32.toBitVec_inj.mp
  rw [Int32.toBitVec_shiftRight]
  have e1 : ((0 : Int32).toBitVec.smod 32) = 0#32 := by decide
  rw [e1, BitVec.sshiftRight_eq']
  exact BitVec.sshiftRight_zero
theorem lo8_and (x : Int32) : (lo8 x &&& 255).toBitVec.toNat = x.toBitVec.toNat % 256 := by
  have h : (lo8 x).toBitVec = (x.toBitVec.signExtend 8).signExtend 32 := by rw [lo8, Int8.toBitVec_toInt32, Int32.toBitVec_toInt8]
  rw [Int32.toBitVec_and, BitVec.toNat_and, h]
  have e : ((x.toBitVec.signExtend 8).signExtend 32).toNat % 256 = x.toBitVec.toNat % 256 := by
    rw [BitVec.toNat_signExtend]
    have hlt := x.toBitVec.isLt
    simp only [BitVec.toNat_setWidth, BitVec.toNat_signExtend]
    split <;> split <;> omega
  rw [← e]
  exact Nat.and_two_pow_sub_one_eq_mod _ 8
theorem pair_says {c : Int32} (h0 : ¬ c < 0) (h1 : ¬ 65535 < c) : pairCh (lo8 c) (hi8 c) = c := by
  rw [Int32.lt_iff_toInt_lt] at h0 h1
  have e0 : (0 : Int32).toInt = 0 := rfl
  have e1 : (65535 : Int32).toInt = 65535 := rfl
  have hc : c.toInt = c.toBitVec.toNat := by
    have := c.toBitVec.isLt
    have e : c.toInt = c.toBitVec.toInt := rfl
    rw [e] at h0 h1
    rw [e]
    rw [BitVec.toInt_eq_toNat_cond] at h0 h1 ⊢
    split at h0 <;> split <;> omega
  have hn : c.toBitVec.toNat < 65536 := by omega
  have a1 := lo8_and c
  have a2 : (hi8 c &&& 255).toBitVec.toNat = c.toBitVec.toNat / 256 := by
    rw [hi8, lo8_and]
    have e : ((8 : Int32) &&& 31) = 8 := by decide
    rw [e, Int32.toBitVec_shiftRight]
    have e2 : ((8 : Int32).toBitVec.smod 32) = 8#32 := by decide
    rw [e2, BitVec.sshiftRight_eq', BitVec.toNat_sshiftRight_of_msb_false (by rw [BitVec.msb_eq_false_iff_two_mul_lt]; omega)]
    show c.toBitVec.toNat >>> 8 % 256 = _
    rw [Nat.shiftRight_eq_div_pow]
    omega
  unfold pairCh
  apply Int32.toBitVec_inj.mp
  apply BitVec.eq_of_toNat_eq
  have f0 : ((0 : Int32) &&& 31) = 0 := by decide
  have f8 : ((8 : Int32) &&& 31) = 8 := by decide
  rw [f0, f8]
  have g : (((lo8 c &&& 255) <<< (0 : Int32)) ||| ((hi8 c &&& 255) <<< (8 : Int32))).toBitVec.toNat = c.toBitVec.toNat := by
    rw [Int32.toBitVec_or, Int32.toBitVec_shiftLeft, Int32.toBitVec_shiftLeft]
    have s0 : ((0 : Int32).toBitVec.smod 32) = 0#32 := by decide
    have s8 : ((8 : Int32).toBitVec.smod 32) = 8#32 := by decide
    rw [s0, s8, BitVec.toNat_or]
    simp only [BitVec.shiftLeft_eq', BitVec.toNat_shiftLeft, a1, a2]
    show (c.toBitVec.toNat % 256) <<< 0 % 2 ^ 32 ||| (c.toBitVec.toNat / 256) <<< 8 % 2 ^ 32 = _
    rw [Nat.shiftLeft_zero, Nat.mod_eq_of_lt (show c.toBitVec.toNat % 256 < 2 ^ 32 by omega), Nat.mod_eq_of_lt (show (c.toBitVec.toNat / 256) <<< 8 < 2 ^ 32 by rw [Nat.shiftLeft_eq]; omega), Nat.or_comm, ← Nat.shiftLeft_add_eq_or_of_lt (by omega), Nat.shiftLeft_eq]
    omega
  show BitVec.toNat (((((lo8 c &&& 255) <<< (0 : Int32)) ||| ((hi8 c &&& 255) <<< (8 : Int32))).toBitVec.setWidth 16).setWidth 32) = _
  rw [BitVec.toNat_setWidth, BitVec.toNat_setWidth, g]
  omega
end StrChars
namespace StrChars
open Jvm Sem ClassFile Op Lib Jvm.Stand Jvm.Free.XT Jvm.Free.ALB Jvm.Free.JM Jvm.Free
open Jvm.Lib.Cold (StaticIs)
theorem shr1 {n : Nat} (h : 2 * n < 2 ^ 31) : Int32.ofNat (2 * n) >>> ((1 : Int32) &&& 31) = Int32.ofNat n := by
  have e : ((1 : Int32) &&& 31) = 1 := by decide
  rw [e]
  apply Int32.toBitVec_inj.mp
  rw [Int32.toBitVec_shiftRight]
  have e1 : ((1 : Int32).toBitVec.smod 32) = 1#32 := by decide
  have hm : (BitVec.ofNat 32 (2 * n)).toNat = 2 * n := by rw [BitVec.toNat_ofNat, Nat.mod_eq_of_lt (by omega)]
  rw [e1, BitVec.sshiftRight_eq']
  apply BitVec.eq_of_toNat_eq
  show ((BitVec.ofNat 32 (2 * n)).sshiftRight 1).toNat = (BitVec.ofNat 32 n).toNat
  rw [BitVec.toNat_sshiftRight_of_msb_false (by rw [BitVec.msb_eq_false_iff_two_mul_lt, hm]; omega), hm, BitVec.toNat_ofNat, Nat.shiftRight_eq_div_pow]
  omega
/-- charAt's cast of a byte read back -/
def chr8 (u : Int32) : Int32 := (u &&& 255).toUInt32.toUInt16.toUInt32.toInt32
theorem chr8_lo8 {c : Int32} (h0 : ¬ c < 0) (h1 : ¬ 255 < c) : chr8 (lo8 c) = c := by
  have t : ∀ k : Fin 256, (Int32.ofNat k.val).toUInt32.toUInt16.toUInt32.toInt32 = Int32.ofNat k.val := by decide +kernel
  unfold chr8
  rw [lo8_mask h0 h1]
  rw [Int32.lt_iff_toInt_lt] at h0 h1
  have e0 : (0 : Int32).toInt = 0 := rfl
  have e1 : (255 : Int32).toInt = 255 := rfl
  obtain ⟨k, hk⟩ : ∃ k : Nat, c.toInt = k := ⟨c.toInt.toNat, by omega⟩
  have hx : c = Int32.ofNat k := Int32.toInt_inj.mp (by rw [hk, Int32.toInt_ofNat_small (by omega)])
  rw [hx]
  exact t ⟨k, by omega⟩
theorem narrow_ch {c : Int32} (h0 : ¬ c < 0) (h1 : ¬ 65535 < c) : narrow .char (.int c) = .int c := by
  have q : narrow .char (.int (pairCh (lo8 c) (hi8 c))) = .int (pairCh (lo8 c) (hi8 c)) := narrow_c _
  rwa [pair_says h0 h1] at q
/-- the array's cell V codes the n chars f 0 .. f (n - 1) by the coder cd, as the JDK does: coder 1 just where some char is above 255 -/
def Cod (cd : Int32) (n : Nat) (f : Nat → Int32) (V : Cell) : Prop := (cd = 0 ∧ V.slots.size = n ∧ ∀ j, j < n → V.slots[j]? = some (.int (lo8 (f j))) ∧ ¬ 255 < f j) ∨ (cd = 1 ∧ V.slots.size = 2 * n ∧ (∀ j, j < n → V.slots[2 * j]? = some (.int (lo8 (f j))) ∧ V.slots[2 * j + 1]? = some (.int (hi8 (f j)))) ∧ ∃ j, j < n ∧ 255 < f j)
theorem Cod.cd {cd : Int32} {n : Nat} {f : Nat → Int32} {V : Cell} (h : Cod cd n f V) : cd = 0 ∨ cd = 1 := h.imp (fun q => q.1) fun q => q.1
theorem Cod.len {cd : Int32} {n : Nat} {f : Nat → Int32} {V : Cell} (h : Cod cd n f V) (hs : V.slots.size < 2 ^ 31) : Int32.ofNat V.slots.size >>> (cd &&& 31) = Int32.ofNat n := by
  rcases h with ⟨rfl, h, -⟩ | ⟨rfl, h, -⟩
  · rw [shr0, h]
  · rw [h, shr1 (by omega)]
/-- **x is a String of the n chars f 0 .. f (n - 1)**, Latin-1 or UTF-16; its array at t has the cell V -/
def Txt (x t : Addr) (V : Cell) (cd : Int32) (n : Nat) (f : Nat → Int32) (U : State) : Prop := Exact "java/lang/String" x U ∧ Has x "java/lang/String" "value" "[B" (.ref t) U ∧ Has x "java/lang/String" "coder" "B" (.int cd) U ∧ XT.Arr .byte t V U ∧ Cod cd n f V ∧ ∀ j, j < n → ¬ f j < 0 ∧ ¬ 65535 < f j
theorem Txt.mv {x t : Addr} {V : Cell} {cd : Int32} {n : Nat} {f : Nat → Int32} {U U' : State} (h : Txt x t V cd n f U) (hal : U.vm.Alike U'.vm) (hh : U'.heap = U.heap) : Txt x t V cd n f U' := ⟨h.1.mv hal hh, h.2.1.mv hal hh, h.2.2.1.mv hal hh, h.2.2.2.1.mv hal hh, h.2.2.2.2⟩
namespace Cdr
def yN : MethodName := ⟨"java/lang/String", "coder", "()B"⟩
abbrev yB : ByteArray := jdk_42_method_152_code
theorem d0 : decode yB 0 = .ok (.getstatic 38, 3) := by decide +kernel
theorem d3 : decode yB 3 = .ok (.ifCond (.eq) 10, 3) := by decide +kernel
theorem d6 : decode yB 6 = .ok (.aload_n 0, 1) := by decide +kernel
theorem d7 : decode yB 7 = .ok (.getfield 15, 3) := by decide +kernel
theorem d10 : decode yB 10 = .ok (.goto 4, 3) := by decide +kernel
theorem d14 : decode yB 14 = .ok (.ireturn, 1) := by decide +kernel
def site : List Cond := [.fieldLink "java/lang/String" 38 "java/lang/String" "COMPACT_STRINGS" "Z", .fieldLink "java/lang/String" 15 "java/lang/String" "coder" "B"]
def tab : Cond := tabOf yN yB 1 (some .byte) site
def P (x : Addr) (cd z : Int32) (args : Array Value) (s : State) : Prop := args = #[.ref x] ∧ Has x "java/lang/String" "coder" "B" (.int cd) s ∧ (cd = 0 ∨ cd = 1) ∧ StaticIs s "java/lang/String" "COMPACT_STRINGS" "Z" (.int z) ∧ ¬ z = 0
def E (cd : Int32) (r : Option Value) (s u : State) : Prop := XT.PureE (some (.int cd)) r s u
theorem law (l : Launch) (x : Addr) (cd z : Int32) : Law l yN 1 0 0 0 yB 1 (some .byte) site (P x cd z) (E cd) [] 0 0 := by
  refine Law.of_walk (plainFor_of_name (by decide +kernel)) (by decide +kernel) (by decide +kernel) (by decide) (fun _ _ h => by rw [h.1]; rfl) (fun _ U U' hal hh h => ⟨h.1, h.2.1.mv hal hh, h.2.2.1, h.2.2.2.1.there hal hh, h.2.2.2.2⟩) (fun r U U' V V' h1 hal h2 h => XT.PureE.mv r U U' V V' h1 hal h2 h) ?_
  intro p e s m args below meth c s₁ X0 hexec hbytes hml hret hlk hnm hown hh0 W hP
  obtain ⟨rfl, hx, hc, s1, hz⟩ := hP
  have c1 : Steps p.tables e below (s₁.setTop (entryFrame m #[.ref x] 1)) (s₁.setTop (mkF m 0 #[.val (.ref x)] [])) := entry rfl
  obtain ⟨T2, X2, q2, st2⟩ := X0.sget hexec hown (wk W (.fieldLink "java/lang/String" 38 "java/lang/String" "COMPACT_STRINGS" "Z")) s1 (fun _ _ h => by rw [hh0]; exact h) (g := (mkF m 0 #[.val (.ref x)] [])) rfl (hb hbytes d0)
  have hh2 := q2.trans hh0
  have c3 : Steps p.tables e below (s₁.setTop (entryFrame m #[.ref x] 1)) (T2.setTop (mkF m 7 #[.val (.ref x)] [.ref x])) := (c1.trans (st2 _ (Steps.refl _))).trans (by
    refine XS.ifNo X2.here hexec rfl (hb hbytes d3) rfl (i0_eq_f hz) ?_
    refine XS.aloadN X2.here hexec rfl (hb hbytes d6) rfl rfl ?_
    exact Steps.refl _)
  obtain ⟨T4, X4, q4, st4⟩ := X2.hget hexec hown (wk W (.fieldLink "java/lang/String" 15 "java/lang/String" "coder" "B")) (hx.mv X2.warmed.alike hh2) (g := (mkF m 7 #[.val (.ref x)] [.ref x])) rfl (rest := []) rfl (hb hbytes d7)
  have c5 : Steps p.tables e below (s₁.setTop (entryFrame m #[.ref x] 1)) (T4.setTop (mkF m 14 #[.val (.ref x)] [.int cd])) := (c3.trans (st4 _ (Steps.refl _))).trans (by
    refine XS.goto X4.here hexec rfl (pc0 := 10) rfl (hb hbytes d10) (by decide) rfl ?_
    exact Steps.refl _)
  exact ⟨T4, some (.int cd), _, _, _, X4, rfl, rfl, rfl, (fun h => by cases h), ⟨rfl, q4.trans hh2⟩, fun fs hl => c5.trans (X4.ireturnOut hexec hret (by rcases hc with rfl | rfl <;> rfl) (Or.inr (Or.inr (Or.inl rfl))) (hb hbytes d14) hl)⟩
end Cdr
namespace Len
def yN : MethodName := ⟨"java/lang/String", "length", "()I"⟩
abbrev yB : ByteArray := jdk_42_method_54_code
theorem d0 : decode yB 0 = .ok (.aload_n 0, 1) := by decide +kernel
theorem d1 : decode yB 1 = .ok (.getfield 9, 3) := by decide +kernel
theorem d4 : decode yB 4 = .ok (.arraylength, 1) := by decide +kernel
theorem d5 : decode yB 5 = .ok (.aload_n 0, 1) := by decide +kernel
theorem d6 : decode yB 6 = .ok (.invokevirtual 335, 3) := by decide +kernel
theorem d9 : decode yB 9 = .ok (.ishr, 1) := by decide +kernel
theorem d10 : decode yB 10 = .ok (.ireturn, 1) := by decide +kernel
def site : List Cond := [.fieldLink "java/lang/String" 9 "java/lang/String" "value" "[B", Cdr.tab] ++ virtW "java/lang/String" 335 "java/lang/String" Cdr.yN Cdr.yN
def tab : Cond := tabOf yN yB 1 (some .int) site
def P (x t : Addr) (V : Cell) (cd : Int32) (n : Nat) (f : Nat → Int32) (z : Int32) (args : Array Value) (s : State) : Prop := args = #[.ref x] ∧ Txt x t V cd n f s ∧ StaticIs s "java/lang/String" "COMPACT_STRINGS" "Z" (.int z) ∧ ¬ z = 0
def E (n : Nat) (r : Option Value) (s u : State) : Prop := XT.PureE (some (.int (Int32.ofNat n))) r s u
/-- length() of a String of n chars, in either coding -/
theorem law (l : Launch) (x t : Addr) (V : Cell) (cd : Int32) (n : Nat) (f : Nat → Int32) (z : Int32) : Law l yN 1 0 1 13 yB 1 (some .int) site (P x t V cd n f z) (E n) [] 0 0 := by
  refine Law.of_walk (plainFor_of_name (by decide +kernel)) (by decide +kernel) (by decide +kernel) (by decide) (fun _ _ h => by rw [h.1]; rfl) (fun _ U U' hal hh h => ⟨h.1, h.2.1.mv hal hh, h.2.2.1.there hal hh, h.2.2.2⟩) (fun r U U' V V' h1 hal h2 h => XT.PureE.mv r U U' V V' h1 hal h2 h) ?_
  intro p e s m args below meth c s₁ X0 hexec hbytes hml hret hlk hnm hown hh0 W hP
  obtain ⟨rfl, hx, s1, hz⟩ := hP
  have v31 := hx.2.2.2.1.2.2.2
  have c1 : Steps p.tables e below (s₁.setTop (entryFrame m #[.ref x] 1)) (s₁.setTop (mkF m 1 #[.val (.ref x)] [.ref x])) := Steps.trans (entry rfl) (by
    show Steps p.tables e below (s₁.setTop (mkF m 0 #[.val (.ref x)] [])) _
    refine XS.aloadN X0.here hexec rfl (hb hbytes d0) rfl rfl ?_
    exact Steps.refl _)
  obtain ⟨T2, X2, q2, st2⟩ := X0.hget hexec hown (wk W (.fieldLink "java/lang/String" 9 "java/lang/String" "value" "[B")) (hx.mv X0.warmed.alike hh0).2.1 (g := (mkF m 1 #[.val (.ref x)] [.ref x])) rfl (rest := []) rfl (hb hbytes d1)
  have hh2 := q2.trans hh0
  have hx2 := hx.mv X2.warmed.alike hh2
  have c3 : Steps p.tables e below (s₁.setTop (entryFrame m #[.ref x] 1)) (T2.setTop (mkF m 6 #[.val (.ref x)] [.ref x, .int (Int32.ofNat V.slots.size)])) := (c1.trans (st2 _ (Steps.refl _))).trans (by
    refine X2.alen hexec hx2.2.2.2.1 rfl rfl (hb hbytes d4) ?_
    refine XS.aloadN X2.here hexec rfl (hb hbytes d5) rfl rfl ?_
    exact Steps.refl _)
  obtain ⟨v4, T4, X4, E4, g4⟩ := X2.callV hexec (Cdr.law l x cd z) hown (wks W (virtW "java/lang/String" 335 "java/lang/String" Cdr.yN Cdr.yN)) rfl (by decide) (wk W Cdr.tab) (W := 1) (Nat.le_of_ble_eq_true rfl) (Nat.le_of_ble_eq_true rfl) (Nat.le_refl _) (Nat.le_refl _) (hx2.1.fc X2.warmed.alike) hx2.1.is (g := (mkF m 6 #[.val (.ref x)] [.ref x, .int (Int32.ofNat V.slots.size)])) rfl (by rw [hml]; rfl) c3 (argsL := []) (rest := [.int (Int32.ofNat V.slots.size)]) rfl rfl (by show 2 * 0 + (1 + 0) ≤ _; decide) (hb hbytes d6) (⟨rfl, hx2.2.2.1, hx.2.2.2.2.1.cd, s1.there X2.warmed.alike hh2, hz⟩)
  obtain ⟨rfl, q4⟩ := E4
  have c5 : Steps p.tables e below (s₁.setTop (entryFrame m #[.ref x] 1)) (T4.setTop (mkF m 10 #[.val (.ref x)] [.int (Int32.ofNat V.slots.size >>> (cd &&& 31))])) := Steps.trans g4 (by
    refine ishr X4.here hexec rfl (hb hbytes d9) rfl ?_
    exact Steps.refl _)
  rw [hx.2.2.2.2.1.len v31] at c5
  exact ⟨T4, some (.int (Int32.ofNat n)), _, _, _, X4, rfl, rfl, rfl, (fun h => by cases h), ⟨rfl, q4.trans hh2⟩, fun fs hl => c5.trans (X4.ireturnOut hexec hret rfl (Or.inl rfl) (hb hbytes d10) hl)⟩
theorem pays {l : Launch} {R : Room} {p : Program} {e : Env} {below : List Frame} {s : State} {sargs : Array Value} {len W : Nat} (x t : Addr) (V : Cell) (cd : Int32) (n : Nat) (f : Nat → Int32) (z : Int32) (htab : tab.before sargs s = true) (hfr : 2 ≤ R.frames) (hlo : W + 25 ≤ R.locals) :
    Back l R p e below s sargs yN len W (fun A₁ a₁ => A₁.cells + 0 ≤ R.cells ∧ A₁.slots + 0 ≤ R.slots ∧ P x t V cd n f z a₁ A₁.U) (fun A₁ _ v₁ B₁ => E n v₁ A₁.U B₁.U ∧ B₁.locs = A₁.locs ++ [] ∧ B₁.cells = A₁.cells + 0 ∧ B₁.slots = A₁.slots + 0) :=
  (law l x t V cd n f z).pays htab hfr (by omega)
end Len
namespace IsL
def yN : MethodName := ⟨"java/lang/String", "isLatin1", "()Z"⟩
abbrev yB : ByteArray := jdk_42_method_154_code
theorem d0 : decode yB 0 = .ok (.getstatic 38, 3) := by decide +kernel
theorem d3 : decode yB 3 = .ok (.ifCond (.eq) 14, 3) := by decide +kernel
theorem d6 : decode yB 6 = .ok (.aload_n 0, 1) := by decide +kernel
theorem d7 : decode yB 7 = .ok (.getfield 15, 3) := by decide +kernel
theorem d10 : decode yB 10 = .ok (.ifCond (.ne) 7, 3) := by decide +kernel
theorem d13 : decode yB 13 = .ok (.iconst 1, 1) := by decide +kernel
theorem d14 : decode yB 14 = .ok (.goto 4, 3) := by decide +kernel
theorem d17 : decode yB 17 = .ok (.iconst 0, 1) := by decide +kernel
theorem d18 : decode yB 18 = .ok (.ireturn, 1) := by decide +kernel
def site : List Cond := [.fieldLink "java/lang/String" 38 "java/lang/String" "COMPACT_STRINGS" "Z", .fieldLink "java/lang/String" 15 "java/lang/String" "coder" "B"]
def tab : Cond := tabOf yN yB 1 (some .boolean) site
def P (x : Addr) (cd z : Int32) (args : Array Value) (s : State) : Prop := args = #[.ref x] ∧ Has x "java/lang/String" "coder" "B" (.int cd) s ∧ (cd = 0 ∨ cd = 1) ∧ StaticIs s "java/lang/String" "COMPACT_STRINGS" "Z" (.int z) ∧ ¬ z = 0
def E (cd : Int32) (r : Option Value) (s u : State) : Prop := XT.PureE (some (.int (1 - cd))) r s u
theorem law (l : Launch) (x : Addr) (cd z : Int32) : Law l yN 1 0 0 0 yB 1 (some .boolean) site (P x cd z) (E cd) [] 0 0 := by
  refine Law.of_walk (plainFor_of_name (by decide +kernel)) (by decide +kernel) (by decide +kernel) (by decide) (fun _ _ h => by rw [h.1]; rfl) (fun _ U U' hal hh h => ⟨h.1, h.2.1.mv hal hh, h.2.2.1, h.2.2.2.1.there hal hh, h.2.2.2.2⟩) (fun r U U' V V' h1 hal h2 h => XT.PureE.mv r U U' V V' h1 hal h2 h) ?_
  intro p e s m args below meth c s₁ X0 hexec hbytes hml hret hlk hnm hown hh0 W hP
  obtain ⟨rfl, hx, hc, s1, hz⟩ := hP
  have c1 : Steps p.tables e below (s₁.setTop (entryFrame m #[.ref x] 1)) (s₁.setTop (mkF m 0 #[.val (.ref x)] [])) := entry rfl
  obtain ⟨T2, X2, q2, st2⟩ := X0.sget hexec hown (wk W (.fieldLink "java/lang/String" 38 "java/lang/String" "COMPACT_STRINGS" "Z")) s1 (fun _ _ h => by rw [hh0]; exact h) (g := (mkF m 0 #[.val (.ref x)] [])) rfl (hb hbytes d0)
  have hh2 := q2.trans hh0
  have c3 : Steps p.tables e below (s₁.setTop (entryFrame m #[.ref x] 1)) (T2.setTop (mkF m 7 #[.val (.ref x)] [.ref x])) := (c1.trans (st2 _ (Steps.refl _))).trans (by
    refine XS.ifNo X2.here hexec rfl (hb hbytes d3) rfl (i0_eq_f hz) ?_
    refine XS.aloadN X2.here hexec rfl (hb hbytes d6) rfl rfl ?_
    exact Steps.refl _)
  obtain ⟨T4, X4, q4, st4⟩ := X2.hget hexec hown (wk W (.fieldLink "java/lang/String" 15 "java/lang/String" "coder" "B")) (hx.mv X2.warmed.alike hh2) (g := (mkF m 7 #[.val (.ref x)] [.ref x])) rfl (rest := []) rfl (hb hbytes d7)
  have c5 : Steps p.tables e below (s₁.setTop (entryFrame m #[.ref x] 1)) (T4.setTop (mkF m 10 #[.val (.ref x)] [.int cd])) := c3.trans (st4 _ (Steps.refl _))
  have c6 : Steps p.tables e below (s₁.setTop (entryFrame m #[.ref x] 1)) (T4.setTop (mkF m 18 #[.val (.ref x)] [.int (1 - cd)])) := by
    rcases hc with rfl | rfl
    · exact c5.trans (by
        refine XS.ifNo X4.here hexec rfl (hb hbytes d10) rfl (i0_ne_f rfl) ?_
        refine iconstV X4.here hexec rfl 1 (hb hbytes d13) (by decide) ?_
        refine XS.goto X4.here hexec rfl (pc0 := 14) rfl (hb hbytes d14) (by decide) rfl ?_
        exact Steps.refl _)
    · exact c5.trans (by
        refine XS.ifYes X4.here hexec rfl (pc0 := 10) rfl (hb hbytes d10) rfl (i0_ne_t (by decide)) (by decide) rfl ?_
        refine iconstV X4.here hexec rfl 0 (hb hbytes d17) (by decide) ?_
        exact Steps.refl _)
  exact ⟨T4, some (.int (1 - cd)), _, _, _, X4, rfl, rfl, rfl, (fun h => by cases h), ⟨rfl, q4.trans hh2⟩, fun fs hl => c6.trans (X4.ireturnOut hexec hret (by rcases hc with rfl | rfl <;> rfl) (Or.inr (Or.inl rfl)) (hb hbytes d18) hl)⟩
end IsL
namespace LChA
def yN : MethodName := ⟨"java/lang/StringLatin1", "charAt", "([BI)C"⟩
abbrev yB : ByteArray := jdk_43_method_2_code
theorem d0 : decode yB 0 = .ok (.iload_n 1, 1) := by decide +kernel
theorem d1 : decode yB 1 = .ok (.aload_n 0, 1) := by decide +kernel
theorem d2 : decode yB 2 = .ok (.arraylength, 1) := by decide +kernel
theorem d3 : decode yB 3 = .ok (.invokestatic 9, 3) := by decide +kernel
theorem d6 : decode yB 6 = .ok (.aload_n 0, 1) := by decide +kernel
theorem d7 : decode yB 7 = .ok (.iload_n 1, 1) := by decide +kernel
theorem d8 : decode yB 8 = .ok (.baload, 1) := by decide +kernel
theorem d9 : decode yB 9 = .ok (.sipush 255, 3) := by decide +kernel
theorem d12 : decode yB 12 = .ok (.iand, 1) := by decide +kernel
theorem d13 : decode yB 13 = .ok (.i2c, 1) := by decide +kernel
theorem d14 : decode yB 14 = .ok (.ireturn, 1) := by decide +kernel
def site : List Cond := [JO.Str_checkIndex.tab] ++ staticW "java/lang/StringLatin1" 9 JO.Str_checkIndex.yN
def tab : Cond := tabOf yN yB 2 (some .char) site
def P (t : Addr) (V : Cell) (i : Nat) (u : Int32) (fm : Value) (args : Array Value) (s : State) : Prop := args = #[.ref t, .int (Int32.ofNat i)] ∧ XT.Arr .byte t V s ∧ V.slots[i]? = some (.int u) ∧ (StaticIs s "jdk/internal/util/Preconditions" "SIOOBE_FORMATTER" "Ljava/util/function/BiFunction;" fm ∧ fm.isRef = true)
def E (u : Int32) (r : Option Value) (s w : State) : Prop := XT.PureE (some (.int (chr8 u))) r s w
theorem law (l : Launch) (t : Addr) (V : Cell) (i : Nat) (u : Int32) (fm : Value) : Law l yN 2 2 2 27 yB 2 (some .char) site (P t V i u fm) (E u) [] 0 0 := by
  refine Law.of_walk (plainFor_of_name (by decide +kernel)) (by decide +kernel) (by decide +kernel) (by decide) (fun _ _ h => by rw [h.1]; rfl) (fun _ U U' hal hh h => ⟨h.1, h.2.1.mv hal hh, h.2.2.1, h.2.2.2.1.there hal hh, h.2.2.2.2⟩) (fun r U U' V V' h1 hal h2 h => XT.PureE.mv r U U' V V' h1 hal h2 h) ?_
  intro p e s m args below meth c s₁ X0 hexec hbytes hml hret hlk hnm hown hh0 W hP
  obtain ⟨rfl, hV, hu, s1, rf⟩ := hP
  have v31 := hV.2.2.2
  have hi : i < V.slots.size := (Array.getElem?_eq_some_iff.mp hu).1
  have c1 : Steps p.tables e below (s₁.setTop (entryFrame m #[.ref t, .int (Int32.ofNat i)] 2)) (s₁.setTop (mkF m 0 #[.val (.ref t), .val (.int (Int32.ofNat i))] [])) := entry rfl
  have c2 : Steps p.tables e below (s₁.setTop (entryFrame m #[.ref t, .int (Int32.ofNat i)] 2)) (s₁.setTop (mkF m 3 #[.val (.ref t), .val (.int (Int32.ofNat i))] [.int (Int32.ofNat V.slots.size), .int (Int32.ofNat i)])) := c1.trans (by
    refine XS.iloadN X0.here hexec rfl (hb hbytes d0) rfl ?_
    refine XS.aloadN X0.here hexec rfl (hb hbytes d1) rfl rfl ?_
    refine X0.alen hexec (hV.mv X0.warmed.alike hh0) rfl rfl (hb hbytes d2) ?_
    exact Steps.refl _)
  obtain ⟨v3, T3, X3, E3, g3⟩ := X0.callS hexec (JO.Str_checkIndex.law l (Int32.ofNat i) (Int32.ofNat V.slots.size) fm) hown (wks W (staticW "java/lang/StringLatin1" 9 JO.Str_checkIndex.yN)) (wk W JO.Str_checkIndex.tab) (W := 0) (Nat.le_of_ble_eq_true rfl) (Nat.le_of_ble_eq_true rfl) (Nat.le_refl _) (Nat.le_refl _) (g := (mkF m 3 #[.val (.ref t), .val (.int (Int32.ofNat i))] [.int (Int32.ofNat V.slots.size), .int (Int32.ofNat i)])) rfl (by rw [hml]; rfl) c2 (argsL := [.int (Int32.ofNat i), .int (Int32.ofNat V.slots.size)]) (rest := []) rfl rfl (by show 2 * 0 + 0 ≤ _; decide) (hb hbytes d3) (⟨rfl, rf, s1.there X0.warmed.alike hh0, Int32.ofNat_not_neg (by omega), lt32 v31 hi⟩)
  obtain ⟨rfl, q3⟩ := E3
  have hh3 := q3.trans hh0
  have c4 : Steps p.tables e below (s₁.setTop (entryFrame m #[.ref t, .int (Int32.ofNat i)] 2)) (T3.setTop (mkF m 14 #[.val (.ref t), .val (.int (Int32.ofNat i))] [.int (chr8 u)])) := Steps.trans g3 (by
    refine XS.aloadN X3.here hexec rfl (hb hbytes d6) rfl rfl ?_
    refine XS.iloadN X3.here hexec rfl (hb hbytes d7) rfl ?_
    refine X3.aget hexec (hV.mv X3.warmed.alike hh3) rfl hu rfl rfl (hb hbytes d8) ?_
    refine sipushV X3.here hexec rfl 255 (hb hbytes d9) (by decide) ?_
    refine XS.iand X3.here hexec rfl (hb hbytes d12) rfl ?_
    refine i2c X3.here hexec rfl (hb hbytes d13) rfl ?_
    exact Steps.refl _)
  exact ⟨T3, some (.int (chr8 u)), _, _, _, X3, rfl, rfl, rfl, (fun h => by cases h), ⟨rfl, hh3⟩, fun fs hl => c4.trans (X3.ireturnOut hexec hret (narrow_c _) (Or.inr (Or.inr (Or.inr (Or.inl rfl)))) (hb hbytes d14) hl)⟩
end LChA
end StrChars
namespace StrChars.Road
open Jvm Sem ClassFile Op Lib Jvm.Stand Jvm.Free Jvm.Free.XT
open Jvm.Lib.Cold (StaticIs)
theorem consq {a : Array Value} {s : State} {c : Jvm.Cond} {L : List Jvm.Cond} (h0 : c.before a s = true) (h : ∀ w ∈ L, w.before a s = true) : ∀ w ∈ c :: L, w.before a s = true := fun w hw => (List.mem_cons.mp hw).elim (fun e => e ▸ h0) (h w)
/-- the words of String.length(), either coding -/
abbrev wordsLen : List Jvm.Cond := [.code Len.yN Len.yB 1 (some .int), .initialized ST, .fieldLink ST 9 ST "value" "[B", .fieldLink ST 38 ST "COMPACT_STRINGS" "Z", .fieldLink ST 15 ST "coder" "B", .code Cdr.yN Cdr.yB 1 (some .byte), .methodLink ST 335 Cdr.yN, .declares Cdr.yN, .selects ST Cdr.yN Cdr.yN, .instanceMethod Cdr.yN]
theorem tabLen_of {a : Array Value} {s : State} (h : ∀ w ∈ wordsLen, w.before a s = true) : Len.tab.before a s = true := by
  have hc : Cdr.tab.before a s = true := unparts (wk h (.code Cdr.yN Cdr.yB 1 (some .byte))) (wks h (.initialized Cdr.yN.cls :: Cdr.site))
  have q := consq hc h
  exact unparts (wk q (.code Len.yN Len.yB 1 (some .int))) (wks q (.initialized Len.yN.cls :: Len.site))
theorem movedLen {Z s : State} {a0 args : Array Value} (hZ : Z.Warmed39 s.vm) (hw : ∀ d ∈ wordsLen, d.before a0 Z = true) : ∀ d ∈ wordsLen, d.before args s = true := fun d hd => by
  have q := hw d hd
  have t : ∀ d ∈ wordsLen, d = .arrayClass .byte ∨ (d.onTables && d.keepsFace) = true := by decide +kernel
  rcases t d hd with rfl | t
  · exact RoadKit.mvA hZ q
  · exact RoadKit.mv hZ q t
/-- the bytes of the chars cs, low before high -/
def wideBytes : List Int32 → List Value
  | [] => []
  | c :: cs => .int (lo8 c) :: .int (hi8 c) :: wideBytes cs
theorem wide_lo (d : Value) : ∀ (cs : List Int32) (j : Nat), j < cs.length → (wideBytes cs).getD (2 * j) d = .int (lo8 (cs.getD j 0))
  | [], j, h => absurd h (Nat.not_lt_zero j)
  | c :: cs, 0, _ => rfl
  | c :: cs, j + 1, h => by
    have q := wide_lo d cs j (by simpa using h)
    rw [show 2 * (j + 1) = 2 * j + 1 + 1 from by omega]
    simpa [wideBytes] using q
theorem wide_hi (d : Value) : ∀ (cs : List Int32) (j : Nat), j < cs.length → (wideBytes cs).getD (2 * j + 1) d = .int (hi8 (cs.getD j 0))
  | [], j, h => absurd h (Nat.not_lt_zero j)
  | c :: cs, 0, _ => rfl
  | c :: cs, j + 1, h => by
    have q := wide_hi d cs j (by simpa using h)
    rw [show 2 * (j + 1) + 1 = 2 * j + 1 + 1 + 1 from by omega]
    simpa [wideBytes] using q
theorem low_at (d : Value) (cs : List Int32) (j : Nat) (h : j < cs.length) : (cs.map fun c => Value.int (lo8 c)).getD j d = .int (lo8 (cs.getD j 0)) := by
  simp [List.getD_eq_getElem?_getD, h]
/-- an array of N2 bytes vs codes the chars cs by the coder cd -/
def CodA (cs : List Int32) (cd N2 : Int32) (vs : List Value) : Prop := (cd = 0 ∧ N2 = Int32.ofNat cs.length ∧ vs = (cs.map fun c => Value.int (lo8 c)) ∧ ∀ c ∈ cs, ¬ 255 < c) ∨ (cd = 1 ∧ N2 = Int32.ofNat (2 * cs.length) ∧ vs = wideBytes cs ∧ ∃ c ∈ cs, 255 < c)
theorem CodA.cod {cs : List Int32} {cd N2 : Int32} {vs : List Value} {V : Cell} (h : CodA cs cd N2 vs) (hn : 2 * cs.length < 2 ^ 31) (hs : V.slots.size = N2.toNatClampNeg) (hv : RoadKit.Has V vs (.int 0)) : Cod cd cs.length (fun j => cs.getD j 0) V := by
  rcases h with ⟨rfl, rfl, rfl, h⟩ | ⟨rfl, rfl, rfl, c, hc, hw⟩
  · rw [n32 (by omega)] at hs
    exact Or.inl ⟨rfl, hs, fun j hj => ⟨by rw [hv j (by omega), low_at _ _ _ hj], by
      have e : cs.getD j 0 = cs[j] := by simp [List.getD_eq_getElem?_getD, hj]
      show ¬ 255 < cs.getD j 0
      rw [e]; exact h _ (List.getElem_mem _)⟩⟩
  · rw [n32 (by omega)] at hs
    obtain ⟨j, hj, rfl⟩ := List.getElem_of_mem hc
    exact Or.inr ⟨rfl, hs, fun j hj => ⟨by rw [hv _ (by omega), wide_lo _ _ _ hj], by rw [hv _ (by omega), wide_hi _ _ _ hj]⟩, j, hj, by
      have e : cs.getD j 0 = cs[j] := by simp [List.getD_eq_getElem?_getD, hj]
      show 255 < cs.getD j 0
      rw [e]; exact hw⟩
/-- an object of exactly java/lang/String, its two fields found: as the laws ask it -/
theorem strObj {Z U : State} {a0 : Array Value} {kI : Nat} (wi : (Jvm.Cond.instantiable ST kI).before a0 Z = true) (al : Z.vm.Alike U.vm) {x : Addr} {v0 c0 : Value} (E : RoadKit.Exa Z U.heap x ST) (V : RoadKit.Fld Z U.heap x ST "value" "[B" v0) (C : RoadKit.Fld Z U.heap x ST "coder" "B" c0) :
    ∃ (D : Cell) (fV fC : Field), Blank ST x D U ∧ Found ST "value" "[B" fV U ∧ Found ST "coder" "B" fC U ∧ D.slots[fV.slot]? = some v0 ∧ D.slots[fC.slot]? = some c0 ∧ RoadKit.slotOf Z ST "value" "[B" = fV.slot ∧ RoadKit.slotOf Z ST "coder" "B" = fC.slot := by
  obtain ⟨D, cfV, kV, iV, fV, hD, gV, stV, knV, obV, asV, slV⟩ := V
  obtain ⟨D', cfC, kC, iC, fC, hD', gC, stC, -, -, asC, slC⟩ := C
  cases hD.symm.trans hD'
  obtain ⟨D2, kD, e1, e2, e3, e4, e5⟩ := E
  cases hD.symm.trans e1
  obtain ⟨c2, k2, i1, i2, i3, -⟩ := Cond.instantiable_spec wi
  cases e2.symm.trans i1
  cases e3.symm.trans i2
  obtain ⟨kU, u1, u2⟩ := al.2.2 _ _ e3
  exact ⟨D, fV, fC, ⟨hD, ⟨knV, fun q hq => by rw [hq] at obV; cases obV⟩, by rw [al.findClass]; exact e2, kU, u1, by rw [u2]; exact i3, by rw [u2]; exact e5 i3⟩, ⟨SBG.found_only al ⟨cfV, kV, iV, gV⟩, stV⟩, ⟨SBG.found_only al ⟨cfC, kC, iC, gC⟩, stC⟩, slV, slC, by simp [RoadKit.slotOf, gV], by simp [RoadKit.slotOf, gC]⟩
theorem sta_is {Z U : State} (al : Z.vm.Alike U.vm) {C n d : String} {v : Value} (S : RoadKit.Sta Z U.heap C n d v) : StaticIs U C n d v := by
  obtain ⟨cfS, iS, kS, fS, st, cS, t1, t2, t3, t4, t5, t6, t7⟩ := S
  exact StaticIs.there (s := { Z with heap := U.heap }) ⟨cfS, iS, kS, fS, st, cS, t1, t2, t3, t4, t5, (fun q => by rw [q] at t6; cases t6), t7⟩ al rfl
/-- **length() OF SUCH A STRING** -/
theorem lenW {p : Program} {l : Launch} {e : Env} {R : Room} {s : State} {args : Array Value} {below : List Frame} {len W : Nat} {Z : State} {a0 : Array Value} {h : Heap} (hZ : Z.Warmed39 s.vm) (hw : ∀ d ∈ wordsLen, d.before a0 Z = true) {kI : Nat} (wi : (Jvm.Cond.instantiable ST kI).before a0 Z = true)
    {x t : Addr} {kb : ClassId} {cs : List Int32} {cd N2 z : Int32} {vs : List Value} (E : RoadKit.Exa Z h x ST) (V : RoadKit.Fld Z h x ST "value" "[B" (.ref t)) (C : RoadKit.Fld Z h x ST "coder" "B" (.int cd)) (K : RoadKit.Arv Z h t kb .byte N2 vs (.int 0)) (hc : CodA cs cd N2 vs) (hb : ∀ c ∈ cs, ¬ c < 0 ∧ ¬ (65535 : Int32) < c)
    (S : RoadKit.Sta Z h ST "COMPACT_STRINGS" "Z" (.int z)) (hz : ¬ z = 0) (l2 : cs.length ≤ 4000) (hfr : 2 ≤ R.frames) (hlo : W + 25 ≤ R.locals) :
    Back l R p e below s args (⟨"java/lang/String", "length", "()I"⟩ : MethodName) len W (fun P a => a = #[.ref x] ∧ P.U.heap = h ∧ P.cells + 0 ≤ R.cells ∧ P.slots + 0 ≤ R.slots)
      (fun P _ v B => ∃ L, (v = some (.int (Int32.ofNat cs.length)) ∧ L = [] ∧ B.U.heap = h) ∧ B.locs = P.locs ++ L ∧ B.cells = P.cells + 0 ∧ B.slots = P.slots + 0) := by
  obtain ⟨A, K1, K2, K3, K4, K5, K6⟩ := K
  have hcod := hc.cod (by omega) K3 K5
  intro m meth c P g ig mk a X hg hsize hdg hW hn hp'
  obtain ⟨rfl, rfl, r1, r2⟩ := hp'
  have al : Z.vm.Alike P.U.vm := hZ.alike.trans X.warmed.alike
  obtain ⟨D, fV, fC, hB, F1, F2, g1, g2, -, -⟩ := strObj wi al E V C
  have hx : Txt x t A cd cs.length (fun j => cs.getD j 0) P.U := ⟨⟨_, hB.2.2.1, D, hB.1, rfl, by cases q : D.vm <;> first | rfl | exact absurd q (hB.2.1.2 _)⟩, Has.of hB F1 g1, Has.of hB F2 g2, ⟨K1.1, State.isArrayOf_alike al K1.2.1, K1.2.2, by rcases hcod with ⟨-, q, -⟩ | ⟨-, q, -⟩ <;> omega⟩, hcod, fun j hj => by
    have e : cs.getD j 0 = cs[j] := by simp [List.getD_eq_getElem?_getD, hj]
    show ¬ cs.getD j 0 < 0 ∧ ¬ 65535 < cs.getD j 0
    rw [e]; exact hb _ (List.getElem_mem _)⟩
  obtain ⟨v, B, X', ⟨⟨hv, hh⟩, hl, hk, hs⟩, st⟩ := Len.pays x t A cd cs.length (fun j => cs.getD j 0) z (tabLen_of (movedLen hZ hw)) hfr hlo m meth c P g ig mk _ X hg hsize hdg hW hn ⟨r1, r2, rfl, hx, sta_is al S, hz⟩
  exact ⟨v, B, X', ⟨[], ⟨hv, rfl, hh⟩, hl, hk, hs⟩, st⟩
end StrChars.Road
namespace StrChars.Road
open Jvm Sem ClassFile Op Lib Jvm.Stand Jvm.Free Jvm.Free.XT
open Jvm.Lib.Cold (StaticIs)
/-- the road's facts of a String, as the laws ask it -/
theorem txt_of {Z U : State} {a0 : Array Value} {kI : Nat} (wi : (Jvm.Cond.instantiable ST kI).before a0 Z = true) (al : Z.vm.Alike U.vm) {x t : Addr} {kb : ClassId} {cs : List Int32} {cd N2 : Int32} {vs : List Value} (E : RoadKit.Exa Z U.heap x ST) (V : RoadKit.Fld Z U.heap x ST "value" "[B" (.ref t)) (C : RoadKit.Fld Z U.heap x ST "coder" "B" (.int cd)) (K : RoadKit.Arv Z U.heap t kb .byte N2 vs (.int 0)) (hc : CodA cs cd N2 vs) (hb : ∀ c ∈ cs, ¬ c < 0 ∧ ¬ (65535 : Int32) < c) (l2 : cs.length ≤ 4000) :
    ∃ A, Txt x t A cd cs.length (fun j => cs.getD j 0) U := by
  obtain ⟨A, K1, K2, K3, K4, K5, K6⟩ := K
  have hcod := hc.cod (by omega) K3 K5
  obtain ⟨D, fV, fC, hB, F1, F2, g1, g2, -, -⟩ := strObj wi al E V C
  exact ⟨A, ⟨_, hB.2.2.1, D, hB.1, rfl, by cases q : D.vm <;> first | rfl | exact absurd q (hB.2.1.2 _)⟩, Has.of hB F1 g1, Has.of hB F2 g2, ⟨K1.1, State.isArrayOf_alike al K1.2.1, K1.2.2, by rcases hcod with ⟨-, q, -⟩ | ⟨-, q, -⟩ <;> omega⟩, hcod, fun j hj => by
    have e : cs.getD j 0 = cs[j] := by simp [List.getD_eq_getElem?_getD, hj]
    show ¬ cs.getD j 0 < 0 ∧ ¬ 65535 < cs.getD j 0
    rw [e]; exact hb _ (List.getElem_mem _)⟩
end StrChars.Road
namespace StrChars
open Jvm Sem ClassFile Op Lib Jvm.Stand Jvm.Free.XT Jvm.Free.ALB Jvm.Free.JM Jvm.Free
open Jvm.Lib.Cold (StaticIs)
namespace ChN
def yN : MethodName := ⟨"java/lang/String", "charAt", "(I)C"⟩
abbrev yB : ByteArray := jdk_42_method_56_code
theorem d0 : decode yB 0 = .ok (.aload_n 0, 1) := by decide +kernel
theorem d1 : decode yB 1 = .ok (.invokevirtual 492, 3) := by decide +kernel
theorem d4 : decode yB 4 = .ok (.ifCond (.eq) 12, 3) := by decide +kernel
theorem d7 : decode yB 7 = .ok (.aload_n 0, 1) := by decide +kernel
theorem d8 : decode yB 8 = .ok (.getfield 9, 3) := by decide +kernel
theorem d11 : decode yB 11 = .ok (.iload_n 1, 1) := by decide +kernel
theorem d12 : decode yB 12 = .ok (.invokestatic 495, 3) := by decide +kernel
theorem d15 : decode yB 15 = .ok (.ireturn, 1) := by decide +kernel
def site : List Cond := [.fieldLink "java/lang/String" 9 "java/lang/String" "value" "[B", IsL.tab, LChA.tab] ++ virtW "java/lang/String" 492 "java/lang/String" IsL.yN IsL.yN ++ staticW "java/lang/String" 495 LChA.yN
def tab : Cond := tabOf yN yB 2 (some .char) site
def P (x t : Addr) (V : Cell) (n : Nat) (f : Nat → Int32) (z : Int32) (fm : Value) (i : Nat) (args : Array Value) (s : State) : Prop := args = #[.ref x, .int (Int32.ofNat i)] ∧ Txt x t V 0 n f s ∧ i < n ∧ StaticIs s "java/lang/String" "COMPACT_STRINGS" "Z" (.int z) ∧ ¬ z = 0 ∧ StaticIs s "jdk/internal/util/Preconditions" "SIOOBE_FORMATTER" "Ljava/util/function/BiFunction;" fm ∧ fm.isRef = true
def E (f : Nat → Int32) (i : Nat) (r : Option Value) (s u : State) : Prop := XT.PureE (some (.int (f i))) r s u
/-- charAt(i) of a Latin-1 String of n chars, i < n: f i -/
theorem law (l : Launch) (x t : Addr) (V : Cell) (n : Nat) (f : Nat → Int32) (z : Int32) (fm : Value) (i : Nat) : Law l yN 2 1 3 40 yB 2 (some .char) site (P x t V n f z fm i) (E f i) [] 0 0 := by
  refine Law.of_walk (plainFor_of_name (by decide +kernel)) (by decide +kernel) (by decide +kernel) (by decide) (fun _ _ h => by rw [h.1]; rfl) (fun _ U U' hal hh h => ⟨h.1, h.2.1.mv hal hh, h.2.2.1, h.2.2.2.1.there hal hh, h.2.2.2.2.1, h.2.2.2.2.2.1.there hal hh, h.2.2.2.2.2.2⟩) (fun r U U' V V' h1 hal h2 h => XT.PureE.mv r U U' V V' h1 hal h2 h) ?_
  intro p e s m args below meth c s₁ X0 hexec hbytes hml hret hlk hnm hown hh0 W hP
  obtain ⟨rfl, hx, hi, s1, hz, s3, rf⟩ := hP
  have v31 := hx.2.2.2.1.2.2.2
  have hr := hx.2.2.2.2.2 i hi
  have hx0 := hx.mv X0.warmed.alike hh0
  have c1 : Steps p.tables e below (s₁.setTop (entryFrame m #[.ref x, .int (Int32.ofNat i)] 2)) (s₁.setTop (mkF m 1 #[.val (.ref x), .val (.int (Int32.ofNat i))] [.ref x])) := Steps.trans (entry rfl) (by
    show Steps p.tables e below (s₁.setTop (mkF m 0 #[.val (.ref x), .val (.int (Int32.ofNat i))] [])) _
    refine XS.aloadN X0.here hexec rfl (hb hbytes d0) rfl rfl ?_
    exact Steps.refl _)
  obtain ⟨v2, T2, X2, E2, g2⟩ := X0.callV hexec (IsL.law l x 0 z) hown (wks W (virtW "java/lang/String" 492 "java/lang/String" IsL.yN IsL.yN)) rfl (by decide) (wk W IsL.tab) (W := 0) (Nat.le_of_ble_eq_true rfl) (Nat.le_of_ble_eq_true rfl) (Nat.le_refl _) (Nat.le_refl _) (hx0.1.fc X0.warmed.alike) hx0.1.is (g := (mkF m 1 #[.val (.ref x), .val (.int (Int32.ofNat i))] [.ref x])) rfl (by rw [hml]; rfl) c1 (argsL := []) (rest := []) rfl rfl (by show 2 * 0 + 0 ≤ _; decide) (hb hbytes d1) (⟨rfl, hx0.2.2.1, hx.2.2.2.2.1.cd, s1.there X0.warmed.alike hh0, hz⟩)
  obtain ⟨rfl, q2⟩ := E2
  have hh2 := q2.trans hh0
  have hx2 := hx.mv X2.warmed.alike hh2
  obtain ⟨-, k1, k2⟩ | ⟨k0, -⟩ := hx.2.2.2.2.1
  · have c3 : Steps p.tables e below (s₁.setTop (entryFrame m #[.ref x, .int (Int32.ofNat i)] 2)) (T2.setTop (mkF m 8 #[.val (.ref x), .val (.int (Int32.ofNat i))] [.ref x])) := Steps.trans g2 (by
      refine XS.ifNo X2.here hexec rfl (hb hbytes d4) rfl (i0_eq_f (by decide)) ?_
      refine XS.aloadN X2.here hexec rfl (hb hbytes d7) rfl rfl ?_
      exact Steps.refl _)
    obtain ⟨T4, X4, q4, st4⟩ := X2.hget hexec hown (wk W (.fieldLink "java/lang/String" 9 "java/lang/String" "value" "[B")) hx2.2.1 (g := (mkF m 8 #[.val (.ref x), .val (.int (Int32.ofNat i))] [.ref x])) rfl (rest := []) rfl (hb hbytes d8)
    have hh4 := q4.trans hh2
    have c5 : Steps p.tables e below (s₁.setTop (entryFrame m #[.ref x, .int (Int32.ofNat i)] 2)) (T4.setTop (mkF m 12 #[.val (.ref x), .val (.int (Int32.ofNat i))] [.int (Int32.ofNat i), .ref t])) := (c3.trans (st4 _ (Steps.refl _))).trans (by
      refine XS.iloadN X4.here hexec rfl (hb hbytes d11) rfl ?_
      exact Steps.refl _)
    obtain ⟨v6, T6, X6, E6, g6⟩ := X4.callS hexec (LChA.law l t V i (lo8 (f i)) fm) hown (wks W (staticW "java/lang/String" 495 LChA.yN)) (wk W LChA.tab) (W := 0) (Nat.le_of_ble_eq_true rfl) (Nat.le_of_ble_eq_true rfl) (Nat.le_refl _) (Nat.le_refl _) (g := (mkF m 12 #[.val (.ref x), .val (.int (Int32.ofNat i))] [.int (Int32.ofNat i), .ref t])) rfl (by rw [hml]; rfl) c5 (argsL := [.ref t, .int (Int32.ofNat i)]) (rest := []) rfl rfl (by show 2 * 0 + 0 ≤ _; decide) (hb hbytes d12) (⟨rfl, hx.2.2.2.1.mv X4.warmed.alike hh4, (k2 i hi).1, s3.there X4.warmed.alike hh4, rf⟩)
    obtain ⟨rfl, q6⟩ := E6
    rw [chr8_lo8 hr.1 (k2 i hi).2] at g6
    exact ⟨T6, some (.int (f i)), _, _, _, X6, rfl, rfl, rfl, (fun h => by cases h), ⟨rfl, q6.trans hh4⟩, fun fs hl => Steps.trans g6 (X6.ireturnOut hexec hret (narrow_ch hr.1 hr.2) (Or.inr (Or.inr (Or.inr (Or.inl rfl)))) (hb hbytes d15) hl)⟩
  · exact absurd k0 (by decide)
theorem pays {l : Launch} {R : Room} {p : Program} {e : Env} {below : List Frame} {s : State} {sargs : Array Value} {len W : Nat} (x t : Addr) (V : Cell) (n : Nat) (f : Nat → Int32) (z : Int32) (fm : Value) (i : Nat) (htab : tab.before sargs s = true) (hfr : 4 ≤ R.frames) (hlo : W + 53 ≤ R.locals) :
    Back l R p e below s sargs yN len W (fun A₁ a₁ => A₁.cells + 0 ≤ R.cells ∧ A₁.slots + 0 ≤ R.slots ∧ P x t V n f z fm i a₁ A₁.U) (fun A₁ _ v₁ B₁ => E f i v₁ A₁.U B₁.U ∧ B₁.locs = A₁.locs ++ [] ∧ B₁.cells = A₁.cells + 0 ∧ B₁.slots = A₁.slots + 0) :=
  (law l x t V n f z fm i).pays htab hfr (by omega)
end ChN
end StrChars
namespace StrChars.Road
open Jvm Sem ClassFile Op Lib Jvm.Stand Jvm.Free Jvm.Free.XT
open Jvm.Lib.Cold (StaticIs)
/-- the words of String.charAt(int), the Latin-1 road alone -/
abbrev wordsChN : List Jvm.Cond := [.code ChN.yN ChN.yB 2 (some .char), .initialized ST, .fieldLink ST 9 ST "value" "[B", .fieldLink ST 38 ST "COMPACT_STRINGS" "Z", .fieldLink ST 15 ST "coder" "B", .code IsL.yN IsL.yB 1 (some .boolean), .methodLink ST 492 IsL.yN, .declares IsL.yN, .selects ST IsL.yN IsL.yN, .instanceMethod IsL.yN,
  .methodLink ST 495 LChA.yN, .static LChA.yN, .code LChA.yN LChA.yB 2 (some .char), .initialized "java/lang/StringLatin1", .methodLink "java/lang/StringLatin1" 9 JO.Str_checkIndex.yN, .static JO.Str_checkIndex.yN, .code JO.Str_checkIndex.yN JO.Str_checkIndex.yB 2 none,
  .fieldLink ST 1053 "jdk/internal/util/Preconditions" "SIOOBE_FORMATTER" "Ljava/util/function/BiFunction;", .methodLink ST 1059 JC.PreCheck.yN, .static JC.PreCheck.yN, .code JC.PreCheck.yN JC.PreCheck.yB 3 (some .int), .initialized "jdk/internal/util/Preconditions"]
theorem tabChN_of {a : Array Value} {s : State} (h : ∀ w ∈ wordsChN, w.before a s = true) : ChN.tab.before a s = true := by
  have hp : JC.PreCheck.tab.before a s = true := unparts (wk h (.code JC.PreCheck.yN JC.PreCheck.yB 3 (some .int))) (wks h (.initialized JC.PreCheck.yN.cls :: JC.PreCheck.site))
  have qk := consq hp h
  have hk : JO.Str_checkIndex.tab.before a s = true := unparts (wk qk (.code JO.Str_checkIndex.yN JO.Str_checkIndex.yB 2 none)) (wks qk (.initialized JO.Str_checkIndex.yN.cls :: JO.Str_checkIndex.site))
  have ql := consq hk h
  have hl : LChA.tab.before a s = true := unparts (wk ql (.code LChA.yN LChA.yB 2 (some .char))) (wks ql (.initialized LChA.yN.cls :: LChA.site))
  have hi : IsL.tab.before a s = true := unparts (wk h (.code IsL.yN IsL.yB 1 (some .boolean))) (wks h (.initialized IsL.yN.cls :: IsL.site))
  have q := consq hi (consq hl h)
  exact unparts (wk q (.code ChN.yN ChN.yB 2 (some .char))) (wks q (.initialized ChN.yN.cls :: ChN.site))
theorem movedChN {Z s : State} {a0 args : Array Value} (hZ : Z.Warmed39 s.vm) (hw : ∀ d ∈ wordsChN, d.before a0 Z = true) : ∀ d ∈ wordsChN, d.before args s = true := fun d hd => by
  have t : ∀ d ∈ wordsChN, (d.onTables && d.keepsFace) = true := by decide +kernel
  exact RoadKit.mv hZ (hw d hd) (t d hd)
/-- **charAt(i) OF A LATIN-1 STRING**, i < n: the char -/
theorem chN {p : Program} {l : Launch} {e : Env} {R : Room} {s : State} {args : Array Value} {below : List Frame} {len W : Nat} {Z : State} {a0 : Array Value} {h : Heap} (hZ : Z.Warmed39 s.vm) (hw : ∀ d ∈ wordsChN, d.before a0 Z = true) {kI : Nat} (wi : (Jvm.Cond.instantiable ST kI).before a0 Z = true)
    {x t : Addr} {kb : ClassId} {cs : List Int32} {N2 z : Int32} {vs : List Value} {fm : Value} {i : Nat} {j : Int32} (E : RoadKit.Exa Z h x ST) (V : RoadKit.Fld Z h x ST "value" "[B" (.ref t)) (C : RoadKit.Fld Z h x ST "coder" "B" (.int 0)) (K : RoadKit.Arv Z h t kb .byte N2 vs (.int 0)) (hc : CodA cs 0 N2 vs) (hb : ∀ c ∈ cs, ¬ c < 0 ∧ ¬ (65535 : Int32) < c)
    (S : RoadKit.Sta Z h ST "COMPACT_STRINGS" "Z" (.int z)) (hz : ¬ z = 0) (F : RoadKit.Sta Z h "jdk/internal/util/Preconditions" "SIOOBE_FORMATTER" "Ljava/util/function/BiFunction;" fm) (rf : fm.isRef = true) (l2 : cs.length ≤ 4000) (hi : i < cs.length) (hj : j = Int32.ofNat i) (hfr : 4 ≤ R.frames) (hlo : W + 53 ≤ R.locals) :
    Back l R p e below s args (⟨"java/lang/String", "charAt", "(I)C"⟩ : MethodName) len W (fun P a => a = #[.ref x, .int j] ∧ P.U.heap = h ∧ P.cells + 0 ≤ R.cells ∧ P.slots + 0 ≤ R.slots)
      (fun P _ v B => ∃ L, (v = some (.int (cs.getD i 0)) ∧ L = [] ∧ B.U.heap = h) ∧ B.locs = P.locs ++ L ∧ B.cells = P.cells + 0 ∧ B.slots = P.slots + 0) := by
  subst hj
  intro m meth c P g ig mk a X hg hsize hdg hW hn hp'
  obtain ⟨rfl, rfl, r1, r2⟩ := hp'
  have al : Z.vm.Alike P.U.vm := hZ.alike.trans X.warmed.alike
  obtain ⟨A, hx⟩ := txt_of wi al E V C K hc hb l2
  obtain ⟨v, B, X', ⟨⟨hv, hh⟩, hl, hk, hs⟩, st⟩ := ChN.pays x t A cs.length (fun j => cs.getD j 0) z fm i (tabChN_of (movedChN hZ hw)) hfr hlo m meth c P g ig mk _ X hg hsize hdg hW hn ⟨r1, r2, rfl, hx, hi, sta_is al S, hz, sta_is al F, rf⟩
  exact ⟨v, B, X', ⟨[], ⟨hv, rfl, hh⟩, hl, hk, hs⟩, st⟩
/-- what backV says of its String, as the contracts of this text ask it: cs's low bytes, coder 0 -/
theorem codOf {cs : List Int32} {n : Nat} (hn : cs.length = n) (hb : ∀ c ∈ cs, ¬ 255 < c) : CodA cs 0 (Int32.ofNat n) ((cs.map lo8).map Value.int) := Or.inl ⟨rfl, by rw [hn], by simp [List.map_map, Function.comp_def], hb⟩
end StrChars.Road
end Jvm.Pilot.@@N@@
namespace Jvm.Pilot.@@N@@
open Jvm Jvm.ClassFile Sem Op Lib Jvm.Free Jvm.Stand Jvm.LawKit Jvm.RoadKit Jvm.Own Bundle Jvm.Pilot.@@N@@.Jvm.D
/-- at a there stands a String that spells cs -/
def Str (Z : State) (h : Heap) (a : Addr) (cs : List Int32) : Prop := Exa Z h a "java/lang/String" ∧ (∀ c ∈ cs, ¬ c < 0 ∧ ¬ (65535 : Int32) < c) ∧ cs.length ≤ 4000 ∧ ∃ (t : Addr) (kb : ClassId) (cd N2 : Int32) (vs : List Value), Fld Z h a "java/lang/String" "value" "[B" (.ref t) ∧ Fld Z h a "java/lang/String" "coder" "B" (.int cd) ∧ Arv Z h t kb .byte N2 vs (.int 0) ∧ StrChars.Road.CodA cs cd N2 vs
section OwnS
variable {p : Program} {l : Launch} {e : Env} {R : Room} {s : State} {m : MethodId} {args : Array Value} {below : List Frame} {meth : Method} {c : Code} {T : State} {locs : List Loc} {cells slots : Nat} {Z : State} {a0 : Array Value} {h h' : Heap} {E : Outcome → State → Prop} {a : Addr} {cs : List Int32}
theorem Str.exa (A : Str Z h a cs) : Exa Z h a "java/lang/String" := A.1
theorem Str.lt (A : Str Z h a cs) : a < h.size := A.1.lt
theorem Str.ext (A : Str Z h a cs) (X : Ext h h') : Str Z h' a cs := by
  obtain ⟨h1, h2, h3, t, kb, cd, N2, vs, h4, h5, h6, h7⟩ := A
  exact ⟨h1.ext X, h2, h3, t, kb, cd, N2, vs, h4.ext X, h5.ext X, h6.ext X, h7⟩
theorem Str.keep0 (A : Str Z h a cs) (K : Keep h h' []) : Str Z h' a cs := by
  obtain ⟨h1, h2, h3, t, kb, cd, N2, vs, h4, h5, h6, h7⟩ := A
  exact ⟨h1.keep K, h2, h3, t, kb, cd, N2, vs, h4.keep K nin0, h5.keep K nin0, h6.keep K nin0, h7⟩
theorem Str.keep1 {w : Addr} {C : String} {n : Nat} (A : Str Z h a cs) (K : Keep h h' [w]) (hne : a ≠ w) (Ew : Exa Z h w C) (wi : (Jvm.Cond.instantiable C n).before a0 Z = true) : Str Z h' a cs := by
  obtain ⟨h1, h2, h3, t, kb, cd, N2, vs, h4, h5, h6, h7⟩ := A
  have ht : t ≠ w := by
    obtain ⟨cl, A', -⟩ := h6
    exact Ne.symm (ne_arr Ew wi A')
  exact ⟨h1.keep K, h2, h3, t, kb, cd, N2, vs, h4.keep K (ninS hne nin0), h5.keep K (ninS hne nin0), h6.keep K (ninS ht nin0), h7⟩
theorem Str.of {cs' : List Int32} (A : Str Z h a cs) (q : cs = cs') : Str Z h a cs' := q ▸ A
theorem narC {c : Int32} (h1 : ¬ c < 0) (h2 : ¬ (65535 : Int32) < c) : nar .char c = c := by
  have e := c_i2c c
  have e0 : (0 : Int32).toInt = 0 := rfl
  have e1 : (65535 : Int32).toInt = 65535 := rfl
  rw [Int32.lt_iff_toInt_lt] at h1 h2
  show c.toUInt32.toUInt16.toUInt32.toInt32 = c
  apply Int32.toInt_inj.mp
  omega
theorem le255 {c : Int32} (h : ¬ (255 : Int32) < c) : ¬ (65535 : Int32) < c := by
  have e0 : (255 : Int32).toInt = 255 := rfl
  have e1 : (65535 : Int32).toInt = 65535 := rfl
  rw [Int32.lt_iff_toInt_lt] at h ⊢
  omega
/-- new String(char[]) over known chars, each 0 to 255 -/
theorem goNewS {own : String} {idx : Nat} {x b : Addr} {kC : ClassId} {vs : List Value} {d v0 c0 : Value} {z N : Int32} {n0 : Nat} (n W : Nat) (X : Stand p l e R s m args below meth c T locs cells slots) (hx : p.tables.exec = Jvm.exec) (hZ : Z.Warmed39 s.vm) (hown : s.vm.findClass own = some m.cls) (hws : ∀ d ∈ StrChars.Road.words, d.before a0 Z = true)
    (w1 : (Jvm.Cond.methodLink own idx (⟨"java/lang/String", "<init>", "([C)V"⟩ : MethodName)).before a0 Z = true) (w2 : (Jvm.Cond.instanceMethod (⟨"java/lang/String", "<init>", "([C)V"⟩ : MethodName)).before a0 Z = true) (w4 : (Jvm.Cond.code (⟨"java/lang/String", "<init>", "([C)V"⟩ : MethodName) StrChars.New1.yB 2 none).before a0 Z = true) (wi : (Jvm.Cond.instantiable "java/lang/String" 4).before a0 Z = true)
    (hx0 : n0 ≤ x) (hh0 : n0 ≤ h.size) (Ex : Exa Z h x "java/lang/String") (V : Fld Z h x "java/lang/String" "value" "[B" v0) (C : Fld Z h x "java/lang/String" "coder" "B" c0) (K : Arv Z h b kC .char N vs d) (hvs : vs = cs.map Value.int) (S : Sta Z h "java/lang/String" "COMPACT_STRINGS" "Z" (.int z)) (hz : ¬ z = 0)
    (hn : cs.length = n) (hN : N = Int32.ofNat n) (l0 : 0 < n) (l2 : n ≤ 4000) (hp : ∀ c ∈ cs, ¬ c < 0 ∧ ¬ (255 : Int32) < c) (eT : T.heap = h) {g : JFrame} (hg : g.method = m) (hsize : g.locals.size = c.maxLocals) (rest : List Value) (hlen : ∀ sig, parseMethodDescriptor "([C)V" = some sig → [Value.ref b].length = sig.parameters.length) (hstack : g.stack = .ref b :: .ref x :: rest)
    (hW : 2 * g.monitorRoom + (rest.map fun v => v.category).sum ≤ W) (hd : decode c.code g.pc = .ok (.invokespecial idx, 3)) (hfr : 4 ≤ R.frames) (hlo : W + 65 ≤ R.locals) (hc : cells + 1 ≤ R.cells) (hs : slots + n ≤ R.slots)
    (k : ∀ T' L, Stand p l e R s m args below meth c T' (locs ++ L) (cells + 1) (slots + n) → Fr n0 L → Keep h T'.heap [x] → Str Z T'.heap x cs → Goes p e below E T' { g with pc := g.pc + 3, stack := rest }) : Goes p e below E T g := by
  subst hvs
  obtain ⟨v, vm₁, ⟨T', L', k', n'⟩, -, X', ⟨L, ⟨q0, q1, q2, q3, q4, t, kb, -, -, -, q5, q6⟩, r1, r2, r3⟩, st⟩ := X.specialBack hx (y := (⟨"java/lang/String", "<init>", "([C)V"⟩ : MethodName)) rfl hown (mvT hZ w1) (mvT hZ w2) (mvT hZ w4) (by decide) (StrChars.Road.backV (W := W) (n := n) hZ hws (kI := 4) wi (bs := cs.map (fun c => c.toInt8.toInt32)) hx0 hh0 Ex V C K S hz hn hN l0 l2 hp rfl hfr hlo) hg hsize (Steps.refl _) (a := x) (argsL := [.ref b]) (rest := rest) hlen hstack hW hd (fun _ _ => ⟨rfl, eT, hc, hs⟩)
  dsimp only [Pt.U, Pt.locs, Pt.cells, Pt.slots] at X' r1 r2 r3 st q2 q3 q4 q5 q6
  subst r1 r2 r3 q0
  refine Goes.of (fun _ => st.trans) (k T' L X' q1 q2 ⟨q3, fun c hc => ⟨(hp c hc).1, le255 (hp c hc).2⟩, by omega, t, kb, 0, N, _, q5, q4, q6, ?_⟩)
  rw [hN]
  exact StrChars.Road.codOf hn (fun c hc => (hp c hc).2)
theorem Str.latin (A : Str Z h a cs) (hp : ∀ c ∈ cs, ¬ (255 : Int32) < c) : ∃ (t : Addr) (kb : ClassId) (N2 : Int32) (vs : List Value), Fld Z h a "java/lang/String" "value" "[B" (.ref t) ∧ Fld Z h a "java/lang/String" "coder" "B" (.int 0) ∧ Arv Z h t kb .byte N2 vs (.int 0) ∧ StrChars.Road.CodA cs 0 N2 vs := by
  obtain ⟨-, -, -, t, kb, cd, N2, vs, h4, h5, h6, h7⟩ := A
  rcases h7 with ⟨rfl, r⟩ | ⟨rfl, -, -, c, hc, hw⟩
  · exact ⟨t, kb, N2, vs, h4, h5, h6, Or.inl ⟨rfl, r⟩⟩
  · exact absurd hw (hp c hc)
/-- length() -/
theorem goLenS {own : String} {idx : Nat} {x : Addr} {z : Int32} (W : Nat) (X : Stand p l e R s m args below meth c T locs cells slots) (hx : p.tables.exec = Jvm.exec) (hZ : Z.Warmed39 s.vm) (hown : s.vm.findClass own = some m.cls) (hlw : ∀ d ∈ StrChars.Road.wordsLen, d.before a0 Z = true)
    (w1 : (Jvm.Cond.methodLink own idx (⟨"java/lang/String", "length", "()I"⟩ : MethodName)).before a0 Z = true) (w2 : (Jvm.Cond.declares (⟨"java/lang/String", "length", "()I"⟩ : MethodName)).before a0 Z = true) (w3 : (Jvm.Cond.selects "java/lang/String" (⟨"java/lang/String", "length", "()I"⟩ : MethodName) (⟨"java/lang/String", "length", "()I"⟩ : MethodName)).before a0 Z = true) (w4 : (Jvm.Cond.instanceMethod (⟨"java/lang/String", "length", "()I"⟩ : MethodName)).before a0 Z = true) (wi : (Jvm.Cond.instantiable "java/lang/String" 4).before a0 Z = true)
    (A : Str Z h x cs) (S : Sta Z h "java/lang/String" "COMPACT_STRINGS" "Z" (.int z)) (hz : ¬ z = 0) (eT : T.heap = h) {g : JFrame} (hg : g.method = m) (hsize : g.locals.size = c.maxLocals) (rest : List Value) (hlen : ∀ sig, parseMethodDescriptor "()I" = some sig → ([] : List Value).length = sig.parameters.length) (hstack : g.stack = .ref x :: rest)
    (hW : 2 * g.monitorRoom + (rest.map fun v => v.category).sum ≤ W) (hd : decode c.code g.pc = .ok (.invokevirtual idx, 3)) (hfr : 2 ≤ R.frames) (hlo : W + 25 ≤ R.locals) (hc : cells ≤ R.cells) (hs : slots ≤ R.slots)
    (k : ∀ T', Stand p l e R s m args below meth c T' locs cells slots → T'.heap = h → Goes p e below E T' { g with pc := g.pc + 3, stack := .int (Int32.ofNat cs.length) :: rest }) : Goes p e below E T g := by
  obtain ⟨cq, kq, qa, qb, qc⟩ := isOf hZ eT A.1
  obtain ⟨E1, b1, l1, t1, kb1, cd1, n1, vs1, V1, C1, K1, D1⟩ := A
  obtain ⟨v, vm₁, ⟨T', L', k', n'⟩, -, X', ⟨L, ⟨q0, q1, q2⟩, r1, r2, r3⟩, st⟩ := X.virtualBack hx (y := (⟨"java/lang/String", "length", "()I"⟩ : MethodName)) (z := (⟨"java/lang/String", "length", "()I"⟩ : MethodName)) hown (mvT hZ w1) (mvT hZ w2) (notFace_of_selects (args := #[]) (mvT hZ w3)) (mvT hZ w3) (mvT hZ w4) (by decide) (StrChars.Road.lenW (W := W) hZ hlw (kI := 4) wi E1 V1 C1 K1 D1 b1 S hz l1 hfr hlo) qa qc hg hsize (Steps.refl _) (argsL := []) (rest := rest) hlen hstack hW hd (fun _ _ => ⟨rfl, eT, hc, hs⟩)
  dsimp only [Pt.U, Pt.locs, Pt.cells, Pt.slots] at X' r1 r2 r3 st q2
  subst r1 r2 r3 q1 q0
  rw [List.append_nil] at X'
  exact Goes.of (fun _ => st.trans) (k T' X' q2)
/-- charAt(i) over chars 0 to 255 -/
theorem goChS {own : String} {idx : Nat} {x : Addr} {z j : Int32} {fm : Value} (i W : Nat) (X : Stand p l e R s m args below meth c T locs cells slots) (hx : p.tables.exec = Jvm.exec) (hZ : Z.Warmed39 s.vm) (hown : s.vm.findClass own = some m.cls) (hcw : ∀ d ∈ StrChars.Road.wordsChN, d.before a0 Z = true)
    (w1 : (Jvm.Cond.methodLink own idx (⟨"java/lang/String", "charAt", "(I)C"⟩ : MethodName)).before a0 Z = true) (w2 : (Jvm.Cond.declares (⟨"java/lang/String", "charAt", "(I)C"⟩ : MethodName)).before a0 Z = true) (w3 : (Jvm.Cond.selects "java/lang/String" (⟨"java/lang/String", "charAt", "(I)C"⟩ : MethodName) (⟨"java/lang/String", "charAt", "(I)C"⟩ : MethodName)).before a0 Z = true) (w4 : (Jvm.Cond.instanceMethod (⟨"java/lang/String", "charAt", "(I)C"⟩ : MethodName)).before a0 Z = true) (wi : (Jvm.Cond.instantiable "java/lang/String" 4).before a0 Z = true)
    (A : Str Z h x cs) (hp : ∀ c ∈ cs, ¬ (255 : Int32) < c) (S : Sta Z h "java/lang/String" "COMPACT_STRINGS" "Z" (.int z)) (hz : ¬ z = 0) (F : Sta Z h "jdk/internal/util/Preconditions" "SIOOBE_FORMATTER" "Ljava/util/function/BiFunction;" fm) (rf : fm.isRef = true) (hi : i < cs.length) (hj : j = Int32.ofNat i) (eT : T.heap = h) {g : JFrame} (hg : g.method = m) (hsize : g.locals.size = c.maxLocals) (rest : List Value) (hlen : ∀ sig, parseMethodDescriptor "(I)C" = some sig → [Value.int j].length = sig.parameters.length) (hstack : g.stack = .int j :: .ref x :: rest)
    (hW : 2 * g.monitorRoom + (rest.map fun v => v.category).sum ≤ W) (hd : decode c.code g.pc = .ok (.invokevirtual idx, 3)) (hfr : 4 ≤ R.frames) (hlo : W + 53 ≤ R.locals) (hc : cells ≤ R.cells) (hs : slots ≤ R.slots)
    (k : ∀ T', Stand p l e R s m args below meth c T' locs cells slots → T'.heap = h → Goes p e below E T' { g with pc := g.pc + 3, stack := .int (cs.getD i 0) :: rest }) : Goes p e below E T g := by
  obtain ⟨cq, kq, qa, qb, qc⟩ := isOf hZ eT A.1
  obtain ⟨t1, kb1, n1, vs1, V1, C1, K1, D1⟩ := A.latin hp
  obtain ⟨E1, b1, l1, -⟩ := A
  obtain ⟨v, vm₁, ⟨T', L', k', n'⟩, -, X', ⟨L, ⟨q0, q1, q2⟩, r1, r2, r3⟩, st⟩ := X.virtualBack hx (y := (⟨"java/lang/String", "charAt", "(I)C"⟩ : MethodName)) (z := (⟨"java/lang/String", "charAt", "(I)C"⟩ : MethodName)) hown (mvT hZ w1) (mvT hZ w2) (notFace_of_selects (args := #[]) (mvT hZ w3)) (mvT hZ w3) (mvT hZ w4) (by decide) (StrChars.Road.chN (W := W) hZ hcw (kI := 4) wi E1 V1 C1 K1 D1 b1 S hz F rf l1 hi hj hfr hlo) qa qc hg hsize (Steps.refl _) (argsL := [.int j]) (rest := rest) hlen hstack hW hd (fun _ _ => ⟨rfl, eT, hc, hs⟩)
  dsimp only [Pt.U, Pt.locs, Pt.cells, Pt.slots] at X' r1 r2 r3 st q2
  subst r1 r2 r3 q1 q0
  rw [List.append_nil] at X'
  exact Goes.of (fun _ => st.trans) (k T' X' q2)
end OwnS
end Jvm.Pilot.@@N@@
namespace Jvm.Pilot.@@N@@
open Jvm Jvm.ClassFile Sem Op Lib Jvm.Free Jvm.Stand Jvm.LawKit Jvm.RoadKit Jvm.Own Bundle Jvm.Pilot.@@N@@.Jvm.D
theorem ef_3n4 (m : MethodId) (x0 : Addr) (x1 : Addr) (x2 : Int32) (x3 : Int32) : entryFrame m #[(.ref x0), (.ref x1), (.int x2), (.int x3), .null] 6 = mkF m 0 #[.val (.ref x0), .val (.ref x1), .val (.int x2), .val (.int x3), .val .null, .unset] [] := by first | (simp [entryFrame, mkF, argsToLocals, Value.category]; done) | rfl
theorem d3_0 : decode jdk_42_method_149_code 0 = .ok (.aload_n 0, 1) := by decide +kernel
theorem d3_1 : decode jdk_42_method_149_code 1 = .ok (.invokespecial 1, 3) := by decide +kernel
theorem d3_4 : decode jdk_42_method_149_code 4 = .ok (.iload_n 3, 1) := by decide +kernel
theorem d3_5 : decode jdk_42_method_149_code 5 = .ok (.ifCond .ne 22, 3) := by decide +kernel
theorem d3_8 : decode jdk_42_method_149_code 8 = .ok (.aload_n 0, 1) := by decide +kernel
theorem d3_9 : decode jdk_42_method_149_code 9 = .ok (.ldc 7, 2) := by decide +kernel
theorem d3_11 : decode jdk_42_method_149_code 11 = .ok (.getfield 9, 3) := by decide +kernel
theorem d3_14 : decode jdk_42_method_149_code 14 = .ok (.putfield 9, 3) := by decide +kernel
theorem d3_17 : decode jdk_42_method_149_code 17 = .ok (.aload_n 0, 1) := by decide +kernel
theorem d3_18 : decode jdk_42_method_149_code 18 = .ok (.ldc 7, 2) := by decide +kernel
theorem d3_20 : decode jdk_42_method_149_code 20 = .ok (.getfield 15, 3) := by decide +kernel
theorem d3_23 : decode jdk_42_method_149_code 23 = .ok (.putfield 15, 3) := by decide +kernel
theorem d3_26 : decode jdk_42_method_149_code 26 = .ok (.return_, 1) := by decide +kernel
theorem pn_java_lang_String : plainName "java/lang/String" = true := by first | (simp [plainName, overriddenIn]; done) | decide +kernel
theorem ef_2 (m : MethodId) (x0 : Addr) (x1 : Addr) : entryFrame m #[(.ref x0), (.ref x1)] 2 = mkF m 0 #[.val (.ref x0), .val (.ref x1)] [] := by first | (simp [entryFrame, mkF, argsToLocals, Value.category]; done) | rfl
theorem d2_0 : decode jdk_42_method_3_code 0 = .ok (.aload_n 0, 1) := by decide +kernel
theorem d2_1 : decode jdk_42_method_3_code 1 = .ok (.aload_n 1, 1) := by decide +kernel
theorem d2_2 : decode jdk_42_method_3_code 2 = .ok (.iconst 0, 1) := by decide +kernel
theorem d2_3 : decode jdk_42_method_3_code 3 = .ok (.aload_n 1, 1) := by decide +kernel
theorem d2_4 : decode jdk_42_method_3_code 4 = .ok (.arraylength, 1) := by decide +kernel
theorem d2_5 : decode jdk_42_method_3_code 5 = .ok (.aconst_null, 1) := by decide +kernel
theorem d2_6 : decode jdk_42_method_3_code 6 = .ok (.invokespecial 27, 3) := by decide +kernel
theorem pd___CIILjava_lang_Void__V : parseMethodDescriptor "([CIILjava/lang/Void;)V" = some ⟨[(.array .char), .int, .int, (.object "java/lang/Void")], none⟩ := by decide +kernel
theorem d2_9 : decode jdk_42_method_3_code 9 = .ok (.return_, 1) := by decide +kernel
theorem ef_1 (m : MethodId) (x0 : Int32) : entryFrame m #[(.int x0)] 3 = mkF m 0 #[.val (.int x0), .unset, .unset] [] := by first | (simp [entryFrame, mkF, argsToLocals, Value.category]; done) | rfl
theorem d1_0 : decode method_3_code 0 = .ok (.iload_n 0, 1) := by decide +kernel
theorem d1_1 : decode method_3_code 1 = .ok (.bipush 8, 2) := by decide +kernel
theorem d1_3 : decode method_3_code 3 = .ok (.iushr, 1) := by decide +kernel
theorem d1_4 : decode method_3_code 4 = .ok (.iconst 3, 1) := by decide +kernel
theorem d1_5 : decode method_3_code 5 = .ok (.iand, 1) := by decide +kernel
theorem d1_6 : decode method_3_code 6 = .ok (.istore_n 1, 1) := by decide +kernel
theorem d1_7 : decode method_3_code 7 = .ok (.iload_n 1, 1) := by decide +kernel
theorem d1_8 : decode method_3_code 8 = .ok (.ifCond .ne 10, 3) := by decide +kernel
theorem d1_11 : decode method_3_code 11 = .ok (.iload_n 0, 1) := by decide +kernel
theorem d1_12 : decode method_3_code 12 = .ok (.sipush 255, 3) := by decide +kernel
theorem d1_15 : decode method_3_code 15 = .ok (.iand, 1) := by decide +kernel
theorem d1_16 : decode method_3_code 16 = .ok (.i2c, 1) := by decide +kernel
theorem d1_17 : decode method_3_code 17 = .ok (.ireturn, 1) := by decide +kernel
theorem d1_18 : decode method_3_code 18 = .ok (.iload_n 0, 1) := by decide +kernel
theorem d1_19 : decode method_3_code 19 = .ok (.bipush 10, 2) := by decide +kernel
theorem d1_21 : decode method_3_code 21 = .ok (.iushr, 1) := by decide +kernel
theorem d1_22 : decode method_3_code 22 = .ok (.bipush 13, 2) := by decide +kernel
theorem d1_24 : decode method_3_code 24 = .ok (.irem, 1) := by decide +kernel
theorem d1_25 : decode method_3_code 25 = .ok (.istore_n 2, 1) := by decide +kernel
theorem d1_26 : decode method_3_code 26 = .ok (.ldc 36, 2) := by decide +kernel
theorem d1_28 : decode method_3_code 28 = .ok (.iload_n 2, 1) := by decide +kernel
theorem d1_29 : decode method_3_code 29 = .ok (.invokevirtual 38, 3) := by decide +kernel
theorem pd__I_C : parseMethodDescriptor "(I)C" = some ⟨[.int], some .char⟩ := by decide +kernel
theorem d1_32 : decode method_3_code 32 = .ok (.ireturn, 1) := by decide +kernel
theorem pn_com_example_medianode_medianode_core_DecimalsIsPlainPinLaw : plainName "com/example/medianode/medianode/core/DecimalsIsPlainPinLaw" = true := by first | (simp [plainName, overriddenIn]; done) | decide +kernel
theorem d5_6 : decode prog_6_method_2_code 6 = .ok (.iload_n 3, 1) := by decide +kernel
theorem d5_7 : decode prog_6_method_2_code 7 = .ok (.aload_n 0, 1) := by decide +kernel
theorem d5_8 : decode prog_6_method_2_code 8 = .ok (.invokevirtual 7, 3) := by decide +kernel
theorem pd___I : parseMethodDescriptor "()I" = some ⟨[], some .int⟩ := by decide +kernel
theorem d5_11 : decode prog_6_method_2_code 11 = .ok (.if_icmp .ge 69, 3) := by decide +kernel
theorem d5_80 : decode prog_6_method_2_code 80 = .ok (.iload_n 1, 1) := by decide +kernel
theorem d5_81 : decode prog_6_method_2_code 81 = .ok (.ifCond .le 12, 3) := by decide +kernel
theorem d5_84 : decode prog_6_method_2_code 84 = .ok (.iload_n 2, 1) := by decide +kernel
theorem d5_85 : decode prog_6_method_2_code 85 = .ok (.iconst 1, 1) := by decide +kernel
theorem d5_86 : decode prog_6_method_2_code 86 = .ok (.if_icmp .gt 7, 3) := by decide +kernel
theorem d5_93 : decode prog_6_method_2_code 93 = .ok (.iconst 0, 1) := by decide +kernel
theorem d5_94 : decode prog_6_method_2_code 94 = .ok (.ireturn, 1) := by decide +kernel
theorem d5_89 : decode prog_6_method_2_code 89 = .ok (.iconst 1, 1) := by decide +kernel
theorem d5_90 : decode prog_6_method_2_code 90 = .ok (.goto 4, 3) := by decide +kernel
theorem d5_14 : decode prog_6_method_2_code 14 = .ok (.aload_n 0, 1) := by decide +kernel
theorem d5_15 : decode prog_6_method_2_code 15 = .ok (.iload_n 3, 1) := by decide +kernel
theorem d5_16 : decode prog_6_method_2_code 16 = .ok (.invokevirtual 13, 3) := by decide +kernel
theorem d5_19 : decode prog_6_method_2_code 19 = .ok (.istore 4, 2) := by decide +kernel
theorem d5_21 : decode prog_6_method_2_code 21 = .ok (.iload 4, 2) := by decide +kernel
theorem d5_23 : decode prog_6_method_2_code 23 = .ok (.bipush 48, 2) := by decide +kernel
theorem d5_25 : decode prog_6_method_2_code 25 = .ok (.if_icmp .lt 16, 3) := by decide +kernel
theorem d5_41 : decode prog_6_method_2_code 41 = .ok (.iload 4, 2) := by decide +kernel
theorem d5_43 : decode prog_6_method_2_code 43 = .ok (.bipush 46, 2) := by decide +kernel
theorem d5_45 : decode prog_6_method_2_code 45 = .ok (.if_icmp .ne 9, 3) := by decide +kernel
theorem d5_48 : decode prog_6_method_2_code 48 = .ok (.iinc 2 1, 3) := by decide +kernel
theorem d5_51 : decode prog_6_method_2_code 51 = .ok (.goto 23, 3) := by decide +kernel
theorem d5_74 : decode prog_6_method_2_code 74 = .ok (.iinc 3 1, 3) := by decide +kernel
theorem d5_77 : decode prog_6_method_2_code 77 = .ok (.goto (-71), 3) := by decide +kernel
theorem d5_54 : decode prog_6_method_2_code 54 = .ok (.iload_n 3, 1) := by decide +kernel
theorem d5_55 : decode prog_6_method_2_code 55 = .ok (.ifCond .gt 17, 3) := by decide +kernel
theorem d5_72 : decode prog_6_method_2_code 72 = .ok (.iconst 0, 1) := by decide +kernel
theorem d5_73 : decode prog_6_method_2_code 73 = .ok (.ireturn, 1) := by decide +kernel
theorem d5_58 : decode prog_6_method_2_code 58 = .ok (.iload 4, 2) := by decide +kernel
theorem d5_60 : decode prog_6_method_2_code 60 = .ok (.bipush 43, 2) := by decide +kernel
theorem d5_62 : decode prog_6_method_2_code 62 = .ok (.if_icmp .eq 12, 3) := by decide +kernel
theorem d5_65 : decode prog_6_method_2_code 65 = .ok (.iload 4, 2) := by decide +kernel
theorem d5_67 : decode prog_6_method_2_code 67 = .ok (.bipush 45, 2) := by decide +kernel
theorem d5_69 : decode prog_6_method_2_code 69 = .ok (.if_icmp .eq 5, 3) := by decide +kernel
theorem d5_28 : decode prog_6_method_2_code 28 = .ok (.iload 4, 2) := by decide +kernel
theorem d5_30 : decode prog_6_method_2_code 30 = .ok (.bipush 57, 2) := by decide +kernel
theorem d5_32 : decode prog_6_method_2_code 32 = .ok (.if_icmp .gt 9, 3) := by decide +kernel
theorem d5_35 : decode prog_6_method_2_code 35 = .ok (.iinc 1 1, 3) := by decide +kernel
theorem d5_38 : decode prog_6_method_2_code 38 = .ok (.goto 36, 3) := by decide +kernel
theorem ef_5 (m : MethodId) (x0 : Addr) : entryFrame m #[(.ref x0)] 5 = mkF m 0 #[.val (.ref x0), .unset, .unset, .unset, .unset] [] := by first | (simp [entryFrame, mkF, argsToLocals, Value.category]; done) | rfl
theorem d5_0 : decode prog_6_method_2_code 0 = .ok (.iconst 0, 1) := by decide +kernel
theorem d5_1 : decode prog_6_method_2_code 1 = .ok (.istore_n 1, 1) := by decide +kernel
theorem d5_2 : decode prog_6_method_2_code 2 = .ok (.iconst 0, 1) := by decide +kernel
theorem d5_3 : decode prog_6_method_2_code 3 = .ok (.istore_n 2, 1) := by decide +kernel
theorem d5_4 : decode prog_6_method_2_code 4 = .ok (.iconst 0, 1) := by decide +kernel
theorem d5_5 : decode prog_6_method_2_code 5 = .ok (.istore_n 3, 1) := by decide +kernel
theorem pn_com_example_medianode_medianode_core_Decimals : plainName "com/example/medianode/medianode/core/Decimals" = true := by first | (simp [plainName, overriddenIn]; done) | decide +kernel
theorem ef_17 (m : MethodId) (x0 : Int32) : entryFrame m #[(.int x0)] 1 = mkF m 0 #[.val (.int x0)] [] := by first | (simp [entryFrame, mkF, argsToLocals, Value.category]; done) | rfl
theorem d17_0 : decode method_4_code 0 = .ok (.iload_n 0, 1) := by decide +kernel
theorem d17_1 : decode method_4_code 1 = .ok (.bipush 48, 2) := by decide +kernel
theorem d17_3 : decode method_4_code 3 = .ok (.if_icmp .lt 13, 3) := by decide +kernel
theorem d17_16 : decode method_4_code 16 = .ok (.iconst 0, 1) := by decide +kernel
theorem d17_17 : decode method_4_code 17 = .ok (.ireturn, 1) := by decide +kernel
theorem d17_6 : decode method_4_code 6 = .ok (.iload_n 0, 1) := by decide +kernel
theorem d17_7 : decode method_4_code 7 = .ok (.bipush 57, 2) := by decide +kernel
theorem d17_9 : decode method_4_code 9 = .ok (.if_icmp .gt 7, 3) := by decide +kernel
theorem d17_12 : decode method_4_code 12 = .ok (.iconst 1, 1) := by decide +kernel
theorem d17_13 : decode method_4_code 13 = .ok (.goto 4, 3) := by decide +kernel
theorem ef_18 (m : MethodId) (x0 : Int32) : entryFrame m #[(.int x0)] 1 = mkF m 0 #[.val (.int x0)] [] := by first | (simp [entryFrame, mkF, argsToLocals, Value.category]; done) | rfl
theorem d18_0 : decode method_5_code 0 = .ok (.iload_n 0, 1) := by decide +kernel
theorem d18_1 : decode method_5_code 1 = .ok (.invokestatic 25, 3) := by decide +kernel
theorem pd__C_Z : parseMethodDescriptor "(C)Z" = some ⟨[.char], some .boolean⟩ := by decide +kernel
theorem d18_4 : decode method_5_code 4 = .ok (.ifCond .ne 9, 3) := by decide +kernel
theorem d18_7 : decode method_5_code 7 = .ok (.iload_n 0, 1) := by decide +kernel
theorem d18_8 : decode method_5_code 8 = .ok (.bipush 46, 2) := by decide +kernel
theorem d18_10 : decode method_5_code 10 = .ok (.if_icmp .ne 7, 3) := by decide +kernel
theorem d18_13 : decode method_5_code 13 = .ok (.iconst 1, 1) := by decide +kernel
theorem d18_14 : decode method_5_code 14 = .ok (.goto 4, 3) := by decide +kernel
theorem d18_18 : decode method_5_code 18 = .ok (.ireturn, 1) := by decide +kernel
theorem d18_17 : decode method_5_code 17 = .ok (.iconst 0, 1) := by decide +kernel
theorem ef_8 (m : MethodId) (x0 : Int32) : entryFrame m #[(.int x0)] 1 = mkF m 0 #[.val (.int x0)] [] := by first | (simp [entryFrame, mkF, argsToLocals, Value.category]; done) | rfl
theorem d8_0 : decode method_6_code 0 = .ok (.iload_n 0, 1) := by decide +kernel
theorem d8_1 : decode method_6_code 1 = .ok (.ifCond .eq 7, 3) := by decide +kernel
theorem d8_8 : decode method_6_code 8 = .ok (.iconst 0, 1) := by decide +kernel
theorem d8_9 : decode method_6_code 9 = .ok (.ireturn, 1) := by decide +kernel
theorem d8_4 : decode method_6_code 4 = .ok (.iconst 1, 1) := by decide +kernel
theorem d8_5 : decode method_6_code 5 = .ok (.goto 4, 3) := by decide +kernel
theorem ef_0 (m : MethodId) (x0 : Int32) (x1 : Int32) (x2 : Int32) (x3 : Int32) (x4 : Int32) : entryFrame m #[(.int x0), (.int x1), (.int x2), (.int x3), (.int x4)] maxLocals = mkF m 0 #[.val (.int x0), .val (.int x1), .val (.int x2), .val (.int x3), .val (.int x4), .unset, .unset, .unset, .unset, .unset, .unset, .unset, .unset, .unset, .unset, .unset] [] := by first | (simp [entryFrame, mkF, argsToLocals, Value.category, maxLocals]; done) | rfl
theorem pd___C_V : parseMethodDescriptor "([C)V" = some ⟨[(.array .char)], none⟩ := by decide +kernel
theorem pd__Ljava_lang_String__Z : parseMethodDescriptor "(Ljava/lang/String;)Z" = some ⟨[(.object "java/lang/String")], some .boolean⟩ := by decide +kernel
theorem pd__Z_I : parseMethodDescriptor "(Z)I" = some ⟨[.boolean], some .int⟩ := by decide +kernel
def EL : List (String × Nat) := [("com/example/medianode/medianode/core/DecimalsIsPlainPinLaw", 36), ("java/lang/String", 7)]
theorem hELof {Z : State} {a0 : Array Value} (hw : ∀ d ∈ tables_1, d.before a0 Z = true) : EW Z a0 EL := EW.cons (hw _ (List.mem_of_getElem? (i := 83) rfl)) (by decide) (EW.cons (hw _ (List.mem_of_getElem? (i := 19) rfl)) (by decide) (EW.nil))
theorem wSof {Z : State} {a0 : Array Value} (hw : ∀ d ∈ tables_1, d.before a0 Z = true) : ∀ a ∈ Bundle.stringAtoms, a.before a0 Z = true := by
  intro a ha
  simp only [Bundle.stringAtoms, Bundle.sN, List.mem_cons, List.not_mem_nil, or_false] at ha
  rcases ha with rfl | rfl | rfl | rfl | rfl | rfl | rfl
  · exact (hw _ (List.mem_of_getElem? (i := 7) rfl))
  · exact (hw _ (List.mem_of_getElem? (i := 6) rfl))
  · exact (hw _ (List.mem_of_getElem? (i := 20) rfl))
  · exact (hw _ (List.mem_of_getElem? (i := 21) rfl))
  · exact (hw _ (List.mem_of_getElem? (i := 22) rfl))
  · exact (hw _ (List.mem_of_getElem? (i := 23) rfl))
  · exact (hw _ (List.mem_of_getElem? (i := 24) rfl))
theorem hwsOf {Z : State} {a0 : Array Value} (hw : ∀ d ∈ tables_1, d.before a0 Z = true) : ∀ d ∈ StrChars.Road.words, d.before a0 Z = true := fun d hd => hw d ((by decide +kernel : ∀ d ∈ StrChars.Road.words, d ∈ tables_1) d hd)
theorem chr8 (x : Int32) : ¬ (x &&& (255 : Int32)).toUInt32.toUInt16.toUInt32.toInt32 < 0 ∧ ¬ (255 : Int32) < (x &&& (255 : Int32)).toUInt32.toUInt16.toUInt32.toInt32 := by
  rw [i2c_mask]
  have e := c_mask x 255 8 (by decide) (by decide)
  have e0 : (0 : Int32).toInt = 0 := rfl
  have e1 : (255 : Int32).toInt = 255 := rfl
  rw [Int32.lt_iff_toInt_lt, Int32.lt_iff_toInt_lt]
  omega
theorem c5 (i : Int32) (h0 : 0 ≤ i.toInt) (h1 : i.toInt < 5) : i = (0 : Int32) ∨ i = (1 : Int32) ∨ i = (2 : Int32) ∨ i = (3 : Int32) ∨ i = (4 : Int32) := by
  have e0 : (0 : Int32).toInt = 0 := rfl
  have e1 : (1 : Int32).toInt = 1 := rfl
  have e2 : (2 : Int32).toInt = 2 := rfl
  have e3 : (3 : Int32).toInt = 3 := rfl
  have e4 : (4 : Int32).toInt = 4 := rfl
  simp only [← Int32.toInt_inj]
  omega
theorem hlwOf {Z : State} {a0 : Array Value} (hw : ∀ d ∈ tables_1, d.before a0 Z = true) : ∀ d ∈ StrChars.Road.wordsLen, d.before a0 Z = true := fun d hd => hw d ((by decide +kernel : ∀ d ∈ StrChars.Road.wordsLen, d ∈ tables_1) d hd)
theorem hchOf {Z : State} {a0 : Array Value} (hw : ∀ d ∈ tables_1, d.before a0 Z = true) : ∀ d ∈ StrChars.Road.wordsChN, d.before a0 Z = true := fun d hd => hw d ((by decide +kernel : ∀ d ∈ StrChars.Road.wordsChN, d ∈ tables_1) d hd)
def digits13 : List Int32 := [48, 49, 50, 51, 52, 53, 54, 55, 56, 57, 46, 43, 45]
theorem d13 : ∀ c ∈ digits13, ¬ c < 0 ∧ ¬ (255 : Int32) < c := by decide
def plainGo : Nat → Int32 → Int32 → List Int32 → Int32
  | _, d, q, [] => if (0 : Int32) < d then (if (1 : Int32) < q then (0 : Int32) else (1 : Int32)) else (0 : Int32)
  | k, d, q, c :: r =>
    if c < (48 : Int32) then (if c = (46 : Int32) then plainGo (k + 1) d (q + (1 : Int32)) r else if (0 : Int32) < Int32.ofNat k then (0 : Int32) else if c = (43 : Int32) then plainGo (k + 1) d q r else if c = (45 : Int32) then plainGo (k + 1) d q r else (0 : Int32))
    else if (57 : Int32) < c then (if c = (46 : Int32) then plainGo (k + 1) d (q + (1 : Int32)) r else if (0 : Int32) < Int32.ofNat k then (0 : Int32) else if c = (43 : Int32) then plainGo (k + 1) d q r else if c = (45 : Int32) then plainGo (k + 1) d q r else (0 : Int32))
    else plainGo (k + 1) (d + (1 : Int32)) q r
theorem ofNat_lt {a b : Nat} (ha : a ≤ 4000) (hb : b ≤ 4000) : Int32.ofNat a < Int32.ofNat b ↔ a < b := by
  rw [Int32.lt_iff_toInt_lt, Int32.toInt_ofNat_of_lt (by omega), Int32.toInt_ofNat_of_lt (by omega)]
  omega
theorem mod13 (x : Int32) : 0 ≤ (((x.toUInt32 >>> ((10 : Int32) &&& 31).toUInt32).toInt32) - (((x.toUInt32 >>> ((10 : Int32) &&& 31).toUInt32).toInt32) / (13 : Int32)) * (13 : Int32)).toInt ∧ (((x.toUInt32 >>> ((10 : Int32) &&& 31).toUInt32).toInt32) - (((x.toUInt32 >>> ((10 : Int32) &&& 31).toUInt32).toInt32) / (13 : Int32)) * (13 : Int32)).toInt < 13 := by
  have e := c_iushr x 10 10 (by decide) (by decide)
  rw [rem_pos (k := 13) (by omega) rfl]
  omega
theorem k13 {k : Int32} (h : 0 ≤ k.toInt ∧ k.toInt < 13) : k = Int32.ofNat k.toInt.toNat := by
  apply Int32.toInt_inj.mp
  rw [Int32.toInt_ofNat_of_lt (by omega)]
  omega
theorem get13 (i : Nat) (hi : i < 13) : ¬ digits13.getD i 0 < 0 ∧ ¬ (255 : Int32) < digits13.getD i 0 := by
  have : digits13.getD i 0 ∈ digits13 := by
    rw [List.getD_eq_getElem?_getD, List.getElem?_eq_getElem (show i < digits13.length from hi)]
    exact List.getElem_mem _
  exact d13 _ this
theorem strLit {Z : State} {h : Heap} {a t : Addr} {kb : ClassId} (Ex : Exa Z h a "java/lang/String") (Fv : Fld Z h a "java/lang/String" "value" "[B" (.ref t)) (Fc : Fld Z h a "java/lang/String" "coder" "B" (.int 0)) (V : Arv Z h t kb .byte (13 : Int32) [.int 48, .int 49, .int 50, .int 51, .int 52, .int 53, .int 54, .int 55, .int 56, .int 57, .int 46, .int 43, .int 45] (.int 0)) : Str Z h a digits13 :=
  ⟨Ex, fun c hc => ⟨(d13 c hc).1, le255 (d13 c hc).2⟩, by decide, t, kb, 0, 13, _, Fv, Fc, V, Or.inl ⟨rfl, rfl, rfl, fun c hc => (d13 c hc).2⟩⟩
theorem st4 {a d q k : Value} {v : Int32} {s4 : Slot} (h : One s4) : storeLocals #[.val a, .val d, .val q, .val k, s4] 4 (.int v) = some #[.val a, .val d, .val q, .val k, .val (.int v)] := by
  rcases h with rfl | ⟨w, rfl, hw⟩
  · rfl
  · cases w <;> first | rfl | (simp [Value.category] at hw)
theorem drop_cons {cs r : List Int32} {c : Int32} {k : Nat} (h : cs.drop k = c :: r) : k < cs.length ∧ cs.getD k 0 = c ∧ cs.drop (k + 1) = r := by
  have hk : k < cs.length := by
    rcases Nat.lt_or_ge k cs.length with q | q
    · exact q
    · rw [List.drop_eq_nil_of_le q] at h; cases h
  rw [List.drop_eq_getElem_cons hk] at h
  injection h with h1 h2
  exact ⟨hk, by rw [List.getD_eq_getElem?_getD, List.getElem?_eq_getElem hk]; exact h1, h2⟩
def digS (c : Int32) : Int32 := (if c < (48 : Int32) then (0 : Int32) else (if (57 : Int32) < c then (0 : Int32) else (1 : Int32)))
def bodyS (c : Int32) : Int32 := if digS c = (0 : Int32) then (if c = (46 : Int32) then (1 : Int32) else (0 : Int32)) else (1 : Int32)
def ptS (c : Int32) : Int32 := if c = (46 : Int32) then (1 : Int32) else (0 : Int32)
def fstS (c : Int32) : Int32 := if (digS c) = (0 : Int32) then (if c = (46 : Int32) then (1 : Int32) else (if c = (43 : Int32) then (1 : Int32) else (if c = (45 : Int32) then (1 : Int32) else (0 : Int32)))) else (1 : Int32)
theorem oneD (c : Int32) : (if (if (digS c) = (0 : Int32) then (0 : Int32) else (1 : Int32)) = (0 : Int32) then (0 : Int32) else (1 : Int32)) = digS c := by
  unfold digS; by_cases h1 : c < (48 : Int32) <;> by_cases h2 : (57 : Int32) < c <;> simp [h1, h2]
theorem oneP (c : Int32) : (if (if c = (46 : Int32) then (1 : Int32) else (0 : Int32)) = (0 : Int32) then (0 : Int32) else (1 : Int32)) = ptS c := by
  unfold ptS; by_cases h1 : c = (46 : Int32) <;> simp [h1]
theorem one0 : (if (0 : Int32) = (0 : Int32) then (0 : Int32) else (1 : Int32)) = 0 := rfl
theorem dig_dot : digS 46 = 0 := by decide
theorem go_body (k : Nat) (d q c : Int32) (r : List Int32) (hk : (0 : Int32) < Int32.ofNat k) : plainGo k d q (c :: r) = if bodyS c = (0 : Int32) then (0 : Int32) else plainGo (k + 1) (d + digS c) (q + ptS c) r := by
  by_cases h46 : c = (46 : Int32)
  · subst h46
    simp +decide [plainGo, bodyS, digS, ptS]
  · by_cases h1 : c < (48 : Int32)
    · simp [plainGo, bodyS, digS, ptS, h1, h46, hk]
    · by_cases h2 : (57 : Int32) < c
      · simp [plainGo, bodyS, digS, ptS, h1, h2, h46, hk]
      · simp [plainGo, bodyS, digS, ptS, h1, h2, h46]
theorem go_fst (d q c : Int32) (r : List Int32) : plainGo 0 d q (c :: r) = if fstS c = (0 : Int32) then (0 : Int32) else plainGo 1 (d + digS c) (q + ptS c) r := by
  by_cases h46 : c = (46 : Int32)
  · subst h46
    simp +decide [plainGo, fstS, digS, ptS]
  · by_cases h43 : c = (43 : Int32)
    · subst h43
      simp +decide [plainGo, fstS, digS, ptS]
    · by_cases h45 : c = (45 : Int32)
      · subst h45
        simp +decide [plainGo, fstS, digS, ptS]
      · by_cases h1 : c < (48 : Int32)
        · simp +decide [plainGo, fstS, digS, ptS, h1, h46, h43, h45]
        · by_cases h2 : (57 : Int32) < c
          · simp +decide [plainGo, fstS, digS, ptS, h1, h2, h46, h43, h45]
          · simp [plainGo, fstS, digS, ptS, h1, h2, h46]
theorem fin0  : (plainGo 0 (0 : Int32) (0 : Int32) ([] : List Int32)) = (if (0 : Int32) < ((((if (0 : Int32) = (0 : Int32) then (0 : Int32) else (1 : Int32)) + (if (0 : Int32) = (0 : Int32) then (0 : Int32) else (1 : Int32))) + (if (0 : Int32) = (0 : Int32) then (0 : Int32) else (1 : Int32))) + (if (0 : Int32) = (0 : Int32) then (0 : Int32) else (1 : Int32))) then (if (1 : Int32) < ((((if (0 : Int32) = (0 : Int32) then (0 : Int32) else (1 : Int32)) + (if (0 : Int32) = (0 : Int32) then (0 : Int32) else (1 : Int32))) + (if (0 : Int32) = (0 : Int32) then (0 : Int32) else (1 : Int32))) + (if (0 : Int32) = (0 : Int32) then (0 : Int32) else (1 : Int32))) then (0 : Int32) else (1 : Int32)) else (0 : Int32)) := by
  decide
theorem fin1 (c1 : Int32) : (plainGo 0 (0 : Int32) (0 : Int32) ([c1] : List Int32)) = (if (if (digS c1) = (0 : Int32) then (if c1 = (46 : Int32) then (1 : Int32) else (if c1 = (43 : Int32) then (1 : Int32) else (if c1 = (45 : Int32) then (1 : Int32) else (0 : Int32)))) else (1 : Int32)) = (0 : Int32) then (0 : Int32) else (if (0 : Int32) < ((((if (if (digS c1) = (0 : Int32) then (0 : Int32) else (1 : Int32)) = (0 : Int32) then (0 : Int32) else (1 : Int32)) + (if (0 : Int32) = (0 : Int32) then (0 : Int32) else (1 : Int32))) + (if (0 : Int32) = (0 : Int32) then (0 : Int32) else (1 : Int32))) + (if (0 : Int32) = (0 : Int32) then (0 : Int32) else (1 : Int32))) then (if (1 : Int32) < ((((if (if c1 = (46 : Int32) then (1 : Int32) else (0 : Int32)) = (0 : Int32) then (0 : Int32) else (1 : Int32)) + (if (0 : Int32) = (0 : Int32) then (0 : Int32) else (1 : Int32))) + (if (0 : Int32) = (0 : Int32) then (0 : Int32) else (1 : Int32))) + (if (0 : Int32) = (0 : Int32) then (0 : Int32) else (1 : Int32))) then (0 : Int32) else (1 : Int32)) else (0 : Int32))) := by
  rw [go_fst]
  simp only [oneD, oneP, one0]
  simp only [show ∀ c, (if (digS c) = (0 : Int32) then (if c = (46 : Int32) then (1 : Int32) else (if c = (43 : Int32) then (1 : Int32) else (if c = (45 : Int32) then (1 : Int32) else (0 : Int32)))) else (1 : Int32)) = fstS c from fun _ => rfl]
  by_cases b1 : fstS c1 = (0 : Int32) <;> simp [plainGo, b1]
theorem fin2 (c1 c2 : Int32) : (plainGo 0 (0 : Int32) (0 : Int32) ([c1, c2] : List Int32)) = (if (if (bodyS c2) = (0 : Int32) then (0 : Int32) else (if (digS c1) = (0 : Int32) then (if c1 = (46 : Int32) then (1 : Int32) else (if c1 = (43 : Int32) then (1 : Int32) else (if c1 = (45 : Int32) then (1 : Int32) else (0 : Int32)))) else (1 : Int32))) = (0 : Int32) then (0 : Int32) else (if (0 : Int32) < ((((if (if (digS c1) = (0 : Int32) then (0 : Int32) else (1 : Int32)) = (0 : Int32) then (0 : Int32) else (1 : Int32)) + (if (if (digS c2) = (0 : Int32) then (0 : Int32) else (1 : Int32)) = (0 : Int32) then (0 : Int32) else (1 : Int32))) + (if (0 : Int32) = (0 : Int32) then (0 : Int32) else (1 : Int32))) + (if (0 : Int32) = (0 : Int32) then (0 : Int32) else (1 : Int32))) then (if (1 : Int32) < ((((if (if c1 = (46 : Int32) then (1 : Int32) else (0 : Int32)) = (0 : Int32) then (0 : Int32) else (1 : Int32)) + (if (if c2 = (46 : Int32) then (1 : Int32) else (0 : Int32)) = (0 : Int32) then (0 : Int32) else (1 : Int32))) + (if (0 : Int32) = (0 : Int32) then (0 : Int32) else (1 : Int32))) + (if (0 : Int32) = (0 : Int32) then (0 : Int32) else (1 : Int32))) then (0 : Int32) else (1 : Int32)) else (0 : Int32))) := by
  rw [go_fst, go_body _ _ _ _ _ (by decide)]
  simp only [oneD, oneP, one0]
  simp only [show ∀ c, (if (digS c) = (0 : Int32) then (if c = (46 : Int32) then (1 : Int32) else (if c = (43 : Int32) then (1 : Int32) else (if c = (45 : Int32) then (1 : Int32) else (0 : Int32)))) else (1 : Int32)) = fstS c from fun _ => rfl]
  by_cases b1 : fstS c1 = (0 : Int32) <;> by_cases b2 : bodyS c2 = (0 : Int32) <;> simp [plainGo, b1, b2]
theorem fin3 (c1 c2 c3 : Int32) : (plainGo 0 (0 : Int32) (0 : Int32) ([c1, c2, c3] : List Int32)) = (if (if (bodyS c3) = (0 : Int32) then (0 : Int32) else (if (bodyS c2) = (0 : Int32) then (0 : Int32) else (if (digS c1) = (0 : Int32) then (if c1 = (46 : Int32) then (1 : Int32) else (if c1 = (43 : Int32) then (1 : Int32) else (if c1 = (45 : Int32) then (1 : Int32) else (0 : Int32)))) else (1 : Int32)))) = (0 : Int32) then (0 : Int32) else (if (0 : Int32) < ((((if (if (digS c1) = (0 : Int32) then (0 : Int32) else (1 : Int32)) = (0 : Int32) then (0 : Int32) else (1 : Int32)) + (if (if (digS c2) = (0 : Int32) then (0 : Int32) else (1 : Int32)) = (0 : Int32) then (0 : Int32) else (1 : Int32))) + (if (if (digS c3) = (0 : Int32) then (0 : Int32) else (1 : Int32)) = (0 : Int32) then (0 : Int32) else (1 : Int32))) + (if (0 : Int32) = (0 : Int32) then (0 : Int32) else (1 : Int32))) then (if (1 : Int32) < ((((if (if c1 = (46 : Int32) then (1 : Int32) else (0 : Int32)) = (0 : Int32) then (0 : Int32) else (1 : Int32)) + (if (if c2 = (46 : Int32) then (1 : Int32) else (0 : Int32)) = (0 : Int32) then (0 : Int32) else (1 : Int32))) + (if (if c3 = (46 : Int32) then (1 : Int32) else (0 : Int32)) = (0 : Int32) then (0 : Int32) else (1 : Int32))) + (if (0 : Int32) = (0 : Int32) then (0 : Int32) else (1 : Int32))) then (0 : Int32) else (1 : Int32)) else (0 : Int32))) := by
  rw [go_fst, go_body _ _ _ _ _ (by decide), go_body _ _ _ _ _ (by decide)]
  simp only [oneD, oneP, one0]
  simp only [show ∀ c, (if (digS c) = (0 : Int32) then (if c = (46 : Int32) then (1 : Int32) else (if c = (43 : Int32) then (1 : Int32) else (if c = (45 : Int32) then (1 : Int32) else (0 : Int32)))) else (1 : Int32)) = fstS c from fun _ => rfl]
  by_cases b1 : fstS c1 = (0 : Int32) <;> by_cases b2 : bodyS c2 = (0 : Int32) <;> by_cases b3 : bodyS c3 = (0 : Int32) <;> simp [plainGo, b1, b2, b3]
theorem fin4 (c1 c2 c3 c4 : Int32) : (plainGo 0 (0 : Int32) (0 : Int32) ([c1, c2, c3, c4] : List Int32)) = (if (if (bodyS c4) = (0 : Int32) then (0 : Int32) else (if (bodyS c3) = (0 : Int32) then (0 : Int32) else (if (bodyS c2) = (0 : Int32) then (0 : Int32) else (if (digS c1) = (0 : Int32) then (if c1 = (46 : Int32) then (1 : Int32) else (if c1 = (43 : Int32) then (1 : Int32) else (if c1 = (45 : Int32) then (1 : Int32) else (0 : Int32)))) else (1 : Int32))))) = (0 : Int32) then (0 : Int32) else (if (0 : Int32) < ((((if (if (digS c1) = (0 : Int32) then (0 : Int32) else (1 : Int32)) = (0 : Int32) then (0 : Int32) else (1 : Int32)) + (if (if (digS c2) = (0 : Int32) then (0 : Int32) else (1 : Int32)) = (0 : Int32) then (0 : Int32) else (1 : Int32))) + (if (if (digS c3) = (0 : Int32) then (0 : Int32) else (1 : Int32)) = (0 : Int32) then (0 : Int32) else (1 : Int32))) + (if (if (digS c4) = (0 : Int32) then (0 : Int32) else (1 : Int32)) = (0 : Int32) then (0 : Int32) else (1 : Int32))) then (if (1 : Int32) < ((((if (if c1 = (46 : Int32) then (1 : Int32) else (0 : Int32)) = (0 : Int32) then (0 : Int32) else (1 : Int32)) + (if (if c2 = (46 : Int32) then (1 : Int32) else (0 : Int32)) = (0 : Int32) then (0 : Int32) else (1 : Int32))) + (if (if c3 = (46 : Int32) then (1 : Int32) else (0 : Int32)) = (0 : Int32) then (0 : Int32) else (1 : Int32))) + (if (if c4 = (46 : Int32) then (1 : Int32) else (0 : Int32)) = (0 : Int32) then (0 : Int32) else (1 : Int32))) then (0 : Int32) else (1 : Int32)) else (0 : Int32))) := by
  rw [go_fst, go_body _ _ _ _ _ (by decide), go_body _ _ _ _ _ (by decide), go_body _ _ _ _ _ (by decide)]
  simp only [oneD, oneP, one0]
  simp only [show ∀ c, (if (digS c) = (0 : Int32) then (if c = (46 : Int32) then (1 : Int32) else (if c = (43 : Int32) then (1 : Int32) else (if c = (45 : Int32) then (1 : Int32) else (0 : Int32)))) else (1 : Int32)) = fstS c from fun _ => rfl]
  by_cases b1 : fstS c1 = (0 : Int32) <;> by_cases b2 : bodyS c2 = (0 : Int32) <;> by_cases b3 : bodyS c3 = (0 : Int32) <;> by_cases b4 : bodyS c4 = (0 : Int32) <;> simp [plainGo, b1, b2, b3, b4]
set_option maxRecDepth 65536 in
set_option maxHeartbeats 40000000 in
theorem rm_sinit40 (l : Launch) (Z : State) (a0 : Array Value) (hw : ∀ d ∈ tables_1, d.before a0 Z = true) (a b : Addr) (h0 : Heap) (n0 : Nat) (O0 : Old Z n0 h0) (g_a : n0 ≤ a) (Ex : Exa Z h0 a "java/lang/String") (Fv : Fld Z h0 a "java/lang/String" "value" "[B" .null) (Fc : Fld Z h0 a "java/lang/String" "coder" "B" (.int (0 : Int32))) :
    RmH l (⟨"java/lang/String", "<init>", "([CIILjava/lang/Void;)V"⟩ : MethodName) jdk_42_method_149_code 6 none ({ frames := 1, cells := 4, slots := 8, locals := 12 } : Room) [] Z EL #[(.ref a), (.ref b), (.int (0 : Int32)), (.int (0 : Int32)), .null] h0 (fun v h L => v = none ∧ Fr n0 L ∧ Keep h0 h [a] ∧ Str Z h a []) := by
  refine RmH.of (plainFor_of_name pn_java_lang_String) ?_
  intro p e s m below meth cod T X hx hZ hby hml hown hnm hret hlk eT0 hS hk HC
  have hEL := hELof hw
  have wS := wSof hw
  have hown : s.vm.findClass "java/lang/String" = some m.cls := hown
  have hnm : meth.name = "<init>" := hnm
  have N0 := Fr.nil n0
  have Kp := Keep.refl h0 [a]
  have Sf0 : Safe Z EL s.vm h0 a := safeNull hZ.alike Ex Fv
  refine Goes.cast (ef_3n4 m a b (0 : Int32) (0 : Int32)) ?_
  show Goes p e below _ T (mkF m 0 #[.val (.ref a), .val (.ref b), .val (.int (0 : Int32)), .val (.int (0 : Int32)), .val .null, .unset] [])
  refine Goes.of (fun _ => XS.aloadN X.here hx rfl (hb hby d3_0) rfl rfl) ?_
  show Goes p e below _ T (mkF m 1 #[.val (.ref a), .val (.ref b), .val (.int (0 : Int32)), .val (.int (0 : Int32)), .val .null, .unset] [(.ref a)])
  refine goInitO 0 X hx hZ hown (hw _ (List.mem_of_getElem? (i := 16) rfl)) (hw _ (List.mem_of_getElem? (i := 17) rfl)) (hw _ (List.mem_of_getElem? (i := 18) rfl)) eT0 (g := (mkF m 1 #[.val (.ref a), .val (.ref b), .val (.int (0 : Int32)), .val (.int (0 : Int32)), .val .null, .unset] [(.ref a)])) rfl (by rw [hml]; rfl) rfl (hb hby d3_1) (by decide) (by show 2 * 0 + _ ≤ _; exact Nat.le_of_eq rfl) (by decide) ?_
  intro T1 X1 eT1
  show Goes p e below _ T1 (mkF m 4 #[.val (.ref a), .val (.ref b), .val (.int (0 : Int32)), .val (.int (0 : Int32)), .val .null, .unset] [])
  refine Goes.of (fun _ => XS.iloadN X1.here hx rfl (hb hby d3_4) rfl) ?_
  show Goes p e below _ T1 (mkF m 5 #[.val (.ref a), .val (.ref b), .val (.int (0 : Int32)), .val (.int (0 : Int32)), .val .null, .unset] [(.int (0 : Int32))])
  refine Goes.of (fun _ => XS.ifNo X1.here hx rfl (hb hby d3_5) rfl ((if0 _ _).trans (teq (by decide)).2)) ?_
  show Goes p e below _ T1 (mkF m 8 #[.val (.ref a), .val (.ref b), .val (.int (0 : Int32)), .val (.int (0 : Int32)), .val .null, .unset] [])
  refine Goes.of (fun _ => XS.aloadN X1.here hx rfl (hb hby d3_8) rfl rfl) ?_
  show Goes p e below _ T1 (mkF m 9 #[.val (.ref a), .val (.ref b), .val (.int (0 : Int32)), .val (.int (0 : Int32)), .val .null, .unset] [(.ref a)])
  refine goLdcC (z := (0 : Int32)) (vs := []) 0 X1 hS hk hEL (by decide) HC hx hZ hown (hw _ (List.mem_of_getElem? (i := 19) rfl)) wS eT1 (by decide) (by decide) (by decide) (g := (mkF m 9 #[.val (.ref a), .val (.ref b), .val (.int (0 : Int32)), .val (.int (0 : Int32)), .val .null, .unset] [(.ref a)])) rfl (hb hby d3_9) (by decide) (by decide) (by decide) (by decide) ?_
  intro s2 T2 h2 kk2 d2 kd2 X2 eT2 E2 hS hk hZ hown HC CH2 Es2 Fc2 Fv2 Vd2 hs2
  have Sg_a := CH2.safe Ex.lt Sf0
  have Ex := Ex.ext E2
  have Fv := Fv.ext E2
  have Fc := Fc.ext E2
  have Kp := Kp.ext E2
  have O0 := O0.ext E2
  have ne_a_s2 : a ≠ s2 := (hs2 a Sg_a).1
  have ne_a_d2 : a ≠ d2 := (hs2 a Sg_a).2
  show Goes p e below _ T2 (mkF m 11 #[.val (.ref a), .val (.ref b), .val (.int (0 : Int32)), .val (.int (0 : Int32)), .val .null, .unset] [(.ref s2), (.ref a)])
  refine goGet X2 hx hZ hown (host := "") (Or.inl (hw _ (List.mem_of_getElem? (i := 25) rfl))) Via.refl eT2 Fv2 (g := (mkF m 11 #[.val (.ref a), .val (.ref b), .val (.int (0 : Int32)), .val (.int (0 : Int32)), .val .null, .unset] [(.ref s2), (.ref a)])) rfl rfl (hb hby d3_11) ?_
  intro T3 X3 eT3
  show Goes p e below _ T3 (mkF m 14 #[.val (.ref a), .val (.ref b), .val (.int (0 : Int32)), .val (.int (0 : Int32)), .val .null, .unset] [(.ref d2), (.ref a)])
  have Sf_a := Sg_a
  refine goPut (ty := (.array .byte)) X3 hx hZ hown (host := "") (Or.inl (hw _ (List.mem_of_getElem? (i := 25) rfl))) Via.refl eT3 Fv Ex (Or.inr ⟨(hw _ (List.mem_of_getElem? (i := 21) rfl)), rfl, hnm⟩) (hw _ (List.mem_of_getElem? (i := 6) rfl)) (by decide) rfl rfl (g := (mkF m 14 #[.val (.ref a), .val (.ref b), .val (.int (0 : Int32)), .val (.int (0 : Int32)), .val .null, .unset] [(.ref d2), (.ref a)])) rfl rfl (hb hby d3_14) ?_
  intro T4 h4 X4 eT4 W4
  have Fv := Fld.same W4 Fv
  have N4 := Fr.snoc X4 N0 g_a
  have Ex := Ex.wr W4
  have Fc := Fc.other W4 (Or.inr (slot_ne (Or.inr (hw _ (List.mem_of_getElem? (i := 22) rfl))) (Or.inr (hw _ (List.mem_of_getElem? (i := 21) rfl))) (by decide) (t := .byte) (t' := (.array .byte)) (by decide) (by decide)))
  have Es2 := Es2.wr W4
  have Fc2 := Fc2.other W4 (Or.inl (Ne.symm ne_a_s2))
  have Fv2 := Fv2.other W4 (Or.inl (Ne.symm ne_a_s2))
  have Vd2 := Vd2.other W4 (Ne.symm ne_a_d2)
  have Kp := Kp.wr W4 (Or.inl (List.mem_of_getElem? (i := 0) rfl))
  have Sg_a := Safe.wr W4 Sf_a HC.1 Sg_a
  have HC := HC.trans (CHr.wr W4 Sf_a HC.1)
  have hk := Nat.le_trans hk (Nat.le_of_eq (Wr.size W4).symm)
  have O0 := O0.wr W4 g_a
  show Goes p e below _ T4 (mkF m 17 #[.val (.ref a), .val (.ref b), .val (.int (0 : Int32)), .val (.int (0 : Int32)), .val .null, .unset] [])
  refine Goes.of (fun _ => XS.aloadN X4.here hx rfl (hb hby d3_17) rfl rfl) ?_
  show Goes p e below _ T4 (mkF m 18 #[.val (.ref a), .val (.ref b), .val (.int (0 : Int32)), .val (.int (0 : Int32)), .val .null, .unset] [(.ref a)])
  refine goLdcC (z := (0 : Int32)) (vs := []) 0 X4 hS hk hEL (by decide) HC hx hZ hown (hw _ (List.mem_of_getElem? (i := 19) rfl)) wS eT4 (by decide) (by decide) (by decide) (g := (mkF m 18 #[.val (.ref a), .val (.ref b), .val (.int (0 : Int32)), .val (.int (0 : Int32)), .val .null, .unset] [(.ref a)])) rfl (hb hby d3_18) (by decide) (by decide) (by decide) (by decide) ?_
  intro s5 T5 h5 kk5 d5 kd5 X5 eT5 E5 hS hk hZ hown HC CH5 Es5 Fc5 Fv5 Vd5 hs5
  have Sg_a := CH5.safe Ex.lt Sg_a
  have Ex := Ex.ext E5
  have Fv := Fv.ext E5
  have Fc := Fc.ext E5
  have Es2 := Es2.ext E5
  have Fc2 := Fc2.ext E5
  have Fv2 := Fv2.ext E5
  have Vd2 := Vd2.ext E5
  have Kp := Kp.ext E5
  have O0 := O0.ext E5
  have ne_a_s5 : a ≠ s5 := (hs5 a Sg_a).1
  have ne_a_d5 : a ≠ d5 := (hs5 a Sg_a).2
  show Goes p e below _ T5 (mkF m 20 #[.val (.ref a), .val (.ref b), .val (.int (0 : Int32)), .val (.int (0 : Int32)), .val .null, .unset] [(.ref s5), (.ref a)])
  refine goGet X5 hx hZ hown (host := "") (Or.inl (hw _ (List.mem_of_getElem? (i := 26) rfl))) Via.refl eT5 Fc5 (g := (mkF m 20 #[.val (.ref a), .val (.ref b), .val (.int (0 : Int32)), .val (.int (0 : Int32)), .val .null, .unset] [(.ref s5), (.ref a)])) rfl rfl (hb hby d3_20) ?_
  intro T6 X6 eT6
  show Goes p e below _ T6 (mkF m 23 #[.val (.ref a), .val (.ref b), .val (.int (0 : Int32)), .val (.int (0 : Int32)), .val .null, .unset] [(.int (0 : Int32)), (.ref a)])
  have Sf_a := Sg_a
  refine goPut (ty := .byte) X6 hx hZ hown (host := "") (Or.inl (hw _ (List.mem_of_getElem? (i := 26) rfl))) Via.refl eT6 Fc Ex (Or.inr ⟨(hw _ (List.mem_of_getElem? (i := 22) rfl)), rfl, hnm⟩) (hw _ (List.mem_of_getElem? (i := 6) rfl)) (by decide) rfl rfl (g := (mkF m 23 #[.val (.ref a), .val (.ref b), .val (.int (0 : Int32)), .val (.int (0 : Int32)), .val .null, .unset] [(.int (0 : Int32)), (.ref a)])) rfl rfl (hb hby d3_23) ?_
  intro T7 h7 X7 eT7 W7
  have Fc := Fld.same W7 Fc
  have N7 := Fr.snoc X7 N4 g_a
  have Ex := Ex.wr W7
  have Fv := Fv.other W7 (Or.inr (slot_ne (Or.inr (hw _ (List.mem_of_getElem? (i := 21) rfl))) (Or.inr (hw _ (List.mem_of_getElem? (i := 22) rfl))) (by decide) (t := (.array .byte)) (t' := .byte) (by decide) (by decide)))
  have Es2 := Es2.wr W7
  have Fc2 := Fc2.other W7 (Or.inl (Ne.symm ne_a_s2))
  have Fv2 := Fv2.other W7 (Or.inl (Ne.symm ne_a_s2))
  have Vd2 := Vd2.other W7 (Ne.symm ne_a_d2)
  have Es5 := Es5.wr W7
  have Fc5 := Fc5.other W7 (Or.inl (Ne.symm ne_a_s5))
  have Fv5 := Fv5.other W7 (Or.inl (Ne.symm ne_a_s5))
  have Vd5 := Vd5.other W7 (Ne.symm ne_a_d5)
  have Kp := Kp.wr W7 (Or.inl (List.mem_of_getElem? (i := 0) rfl))
  have Sg_a := Safe.wr W7 Sf_a HC.1 Sg_a
  have HC := HC.trans (CHr.wr W7 Sf_a HC.1)
  have hk := Nat.le_trans hk (Nat.le_of_eq (Wr.size W7).symm)
  have O0 := O0.wr W7 g_a
  show Goes p e below _ T7 (mkF m 26 #[.val (.ref a), .val (.ref b), .val (.int (0 : Int32)), .val (.int (0 : Int32)), .val .null, .unset] [])
  exact retVoidW X7 hS hk hZ hEL HC hx hret hlk (hb hby d3_26) eT7 (by decide) (by decide) ⟨rfl, N7, Kp, Ex, (fun _ q => nomatch q), (by decide), d2, _, 0, 0, [], Fv, Fc, Vd2, Or.inl ⟨rfl, rfl, rfl, (fun _ q => nomatch q)⟩⟩
set_option maxRecDepth 65536 in
set_option maxHeartbeats 40000000 in
theorem rm_sinit0 (l : Launch) (Z : State) (a0 : Array Value) (hw : ∀ d ∈ tables_1, d.before a0 Z = true) (a b : Addr) (kb : ClassId) (vs : List Value) (dv : Value) (h0 : Heap) (n0 : Nat) (O0 : Old Z n0 h0) (g_a : n0 ≤ a) (Ex : Exa Z h0 a "java/lang/String") (Fv : Fld Z h0 a "java/lang/String" "value" "[B" .null) (Fc : Fld Z h0 a "java/lang/String" "coder" "B" (.int (0 : Int32))) (hab : a ≠ b) (Vb : Arv Z h0 b kb .char (0 : Int32) vs dv) :
    RmH l (⟨"java/lang/String", "<init>", "([C)V"⟩ : MethodName) jdk_42_method_3_code 2 none ({ frames := 2, cells := 4, slots := 8, locals := 29 } : Room) [] Z EL #[(.ref a), (.ref b)] h0 (fun v h L => v = none ∧ Fr n0 L ∧ Keep h0 h [a] ∧ Str Z h a []) := by
  refine RmH.of (plainFor_of_name pn_java_lang_String) ?_
  intro p e s m below meth cod T X hx hZ hby hml hown hnm hret hlk eT0 hS hk HC
  have hEL := hELof hw
  have wS := wSof hw
  have hown : s.vm.findClass "java/lang/String" = some m.cls := hown
  have hnm : meth.name = "<init>" := hnm
  have N0 := Fr.nil n0
  have Kp := Keep.refl h0 [a]
  refine Goes.cast (ef_2 m a b) ?_
  show Goes p e below _ T (mkF m 0 #[.val (.ref a), .val (.ref b)] [])
  refine Goes.of (fun _ => XS.aloadN X.here hx rfl (hb hby d2_0) rfl rfl) ?_
  show Goes p e below _ T (mkF m 1 #[.val (.ref a), .val (.ref b)] [(.ref a)])
  refine Goes.of (fun _ => XS.aloadN X.here hx rfl (hb hby d2_1) rfl rfl) ?_
  show Goes p e below _ T (mkF m 2 #[.val (.ref a), .val (.ref b)] [(.ref b), (.ref a)])
  refine Goes.of (fun _ => XS.iconst X.here hx rfl (hb hby d2_2)) ?_
  show Goes p e below _ T (mkF m 3 #[.val (.ref a), .val (.ref b)] [(.int (0 : Int32)), (.ref b), (.ref a)])
  refine Goes.of (fun _ => XS.aloadN X.here hx rfl (hb hby d2_3) rfl rfl) ?_
  show Goes p e below _ T (mkF m 4 #[.val (.ref a), .val (.ref b)] [(.ref b), (.int (0 : Int32)), (.ref b), (.ref a)])
  refine goLen X hx hZ eT0 Vb (g := (mkF m 4 #[.val (.ref a), .val (.ref b)] [(.ref b), (.int (0 : Int32)), (.ref b), (.ref a)])) rfl rfl (hb hby d2_4) ?_
  show Goes p e below _ T (mkF m 5 #[.val (.ref a), .val (.ref b)] [(.int (0 : Int32)), (.int (0 : Int32)), (.ref b), (.ref a)])
  refine Goes.of (fun _ => XS.aconstNull X.here hx rfl (hb hby d2_5)) ?_
  show Goes p e below _ T (mkF m 6 #[.val (.ref a), .val (.ref b)] [.null, (.int (0 : Int32)), (.int (0 : Int32)), (.ref b), (.ref a)])
  refine goSpecialW 0 X hS hk hEL HC hx hZ rfl hown (hw _ (List.mem_of_getElem? (i := 12) rfl)) (hw _ (List.mem_of_getElem? (i := 13) rfl)) (hw _ (List.mem_of_getElem? (i := 7) rfl)) (hw _ (List.mem_of_getElem? (i := 15) rfl)) (by decide) (rm_sinit40 l Z a0 hw a b h0 n0 O0 g_a Ex Fv Fc) eT0 (g := (mkF m 6 #[.val (.ref a), .val (.ref b)] [.null, (.int (0 : Int32)), (.int (0 : Int32)), (.ref b), (.ref a)])) rfl (by rw [hml]; rfl) a [(.ref b), (.int (0 : Int32)), (.int (0 : Int32)), .null] [] (lenOf pd___CIILjava_lang_Void__V rfl) rfl rfl (by show 2 * 0 + _ ≤ _; exact Nat.le_of_eq rfl) (hb hby d2_6) (by decide) (by decide) (by decide) (by decide) ?_
  intro v2 T2 L2 kk2 X2 hS hk hZ hown HC q2
  obtain ⟨rfl, Nq2, Kq2, Ss2⟩ := q2
  have N2 := Fr.app N0 Nq2
  have Ex := Ex.keep Kq2
  have Vb := Vb.keep Kq2 (ninS (Ne.symm hab) nin0)
  have Kp := Kp.trans Kq2 (allS (Or.inl (List.mem_of_getElem? (i := 0) rfl)) all0)
  have O0 := O0.keep Kq2 (allS g_a all0)
  show Goes p e below _ T2 (mkF m 9 #[.val (.ref a), .val (.ref b)] [])
  exact retVoidW X2 hS hk hZ hEL HC hx hret hlk (hb hby d2_9) (rfl : T2.heap = _) (by decide) (by decide) ⟨rfl, N2, Kp, Ss2⟩
set_option maxRecDepth 65536 in
set_option maxHeartbeats 40000000 in
theorem rm_pick (l : Launch) (Z : State) (a0 : Array Value) (hw : ∀ d ∈ tables_1, d.before a0 Z = true) (x : Int32) (cz : Int32) (fm : Value) (h0 : Heap) (n0 : Nat) (O0 : Old Z n0 h0) (Sc : Sta Z Z.heap "java/lang/String" "COMPACT_STRINGS" "Z" (.int cz)) (hcz : ¬ cz = 0) (Sf : Sta Z Z.heap "jdk/internal/util/Preconditions" "SIOOBE_FORMATTER" "Ljava/util/function/BiFunction;" fm) (hfm : fm.isRef = true) :
    RmH l (⟨"com/example/medianode/medianode/core/DecimalsIsPlainPinLaw", "pick", "(I)C"⟩ : MethodName) method_3_code 3 (some .char) ({ frames := 4, cells := 2, slots := 56, locals := 53 } : Room) [] Z EL #[(.int x)] h0 (fun v h L => ∃ c, v = some (.int c) ∧ Fr n0 L ∧ Keep h0 h [] ∧ (¬ c < 0 ∧ ¬ (255 : Int32) < c)) := by
  refine RmH.of (plainFor_of_name pn_com_example_medianode_medianode_core_DecimalsIsPlainPinLaw) ?_
  intro p e s m below meth cod T X hx hZ hby hml hown hnm hret hlk eT0 hS hk HC
  have hEL := hELof hw
  have wS := wSof hw
  have hown : s.vm.findClass "com/example/medianode/medianode/core/DecimalsIsPlainPinLaw" = some m.cls := hown
  have hnm : meth.name = "pick" := hnm
  have N0 := Fr.nil n0
  have Kp := Keep.refl h0 []
  refine Goes.cast (ef_1 m x) ?_
  show Goes p e below _ T (mkF m 0 #[.val (.int x), .unset, .unset] [])
  refine Goes.of (fun _ => XS.iloadN X.here hx rfl (hb hby d1_0) rfl) ?_
  show Goes p e below _ T (mkF m 1 #[.val (.int x), .unset, .unset] [(.int x)])
  refine Goes.of (fun _ => XS.bipush X.here hx rfl (hb hby d1_1)) ?_
  show Goes p e below _ T (mkF m 3 #[.val (.int x), .unset, .unset] [(.int (8 : Int32)), (.int x)])
  refine Goes.of (fun _ => XS.iushr X.here hx rfl (hb hby d1_3) rfl) ?_
  show Goes p e below _ T (mkF m 4 #[.val (.int x), .unset, .unset] [(.int ((x.toUInt32 >>> ((8 : Int32) &&& 31).toUInt32).toInt32))])
  refine Goes.of (fun _ => XS.iconst X.here hx rfl (hb hby d1_4)) ?_
  show Goes p e below _ T (mkF m 5 #[.val (.int x), .unset, .unset] [(.int (3 : Int32)), (.int ((x.toUInt32 >>> ((8 : Int32) &&& 31).toUInt32).toInt32))])
  refine Goes.of (fun _ => XS.iand X.here hx rfl (hb hby d1_5) rfl) ?_
  show Goes p e below _ T (mkF m 6 #[.val (.int x), .unset, .unset] [(.int (((x.toUInt32 >>> ((8 : Int32) &&& 31).toUInt32).toInt32) &&& (3 : Int32)))])
  refine Goes.of (fun _ => XS.istoreN X.here hx rfl (hb hby d1_6) rfl (l' := #[.val (.int x), .val (.int (((x.toUInt32 >>> ((8 : Int32) &&& 31).toUInt32).toInt32) &&& (3 : Int32))), .unset]) rfl) ?_
  show Goes p e below _ T (mkF m 7 #[.val (.int x), .val (.int (((x.toUInt32 >>> ((8 : Int32) &&& 31).toUInt32).toInt32) &&& (3 : Int32))), .unset] [])
  refine Goes.of (fun _ => XS.iloadN X.here hx rfl (hb hby d1_7) rfl) ?_
  show Goes p e below _ T (mkF m 8 #[.val (.int x), .val (.int (((x.toUInt32 >>> ((8 : Int32) &&& 31).toUInt32).toInt32) &&& (3 : Int32))), .unset] [(.int (((x.toUInt32 >>> ((8 : Int32) &&& 31).toUInt32).toInt32) &&& (3 : Int32)))])
  by_cases hpc8 : (((x.toUInt32 >>> ((8 : Int32) &&& 31).toUInt32).toInt32) &&& (3 : Int32)) = (0 : Int32)
  · refine Goes.of (fun _ => XS.ifNo X.here hx rfl (hb hby d1_8) rfl ((if0 _ _).trans (teq hpc8).2)) ?_
    show Goes p e below _ T (mkF m 11 #[.val (.int x), .val (.int (((x.toUInt32 >>> ((8 : Int32) &&& 31).toUInt32).toInt32) &&& (3 : Int32))), .unset] [])
    refine Goes.of (fun _ => XS.iloadN X.here hx rfl (hb hby d1_11) rfl) ?_
    show Goes p e below _ T (mkF m 12 #[.val (.int x), .val (.int (((x.toUInt32 >>> ((8 : Int32) &&& 31).toUInt32).toInt32) &&& (3 : Int32))), .unset] [(.int x)])
    refine Goes.of (fun _ => XS.sipush X.here hx rfl (hb hby d1_12)) ?_
    show Goes p e below _ T (mkF m 15 #[.val (.int x), .val (.int (((x.toUInt32 >>> ((8 : Int32) &&& 31).toUInt32).toInt32) &&& (3 : Int32))), .unset] [(.int (255 : Int32)), (.int x)])
    refine Goes.of (fun _ => XS.iand X.here hx rfl (hb hby d1_15) rfl) ?_
    show Goes p e below _ T (mkF m 16 #[.val (.int x), .val (.int (((x.toUInt32 >>> ((8 : Int32) &&& 31).toUInt32).toInt32) &&& (3 : Int32))), .unset] [(.int (x &&& (255 : Int32)))])
    refine Goes.of (fun _ => XS.i2c X.here hx rfl (hb hby d1_16) rfl) ?_
    show Goes p e below _ T (mkF m 17 #[.val (.int x), .val (.int (((x.toUInt32 >>> ((8 : Int32) &&& 31).toUInt32).toInt32) &&& (3 : Int32))), .unset] [(.int ((x &&& (255 : Int32)).toUInt32.toUInt16.toUInt32.toInt32))])
    exact retZW (t := .char) X hS hk hZ hEL HC hx hret hlk (by simp) (hb hby d1_17) eT0 (by decide) (by decide) ⟨_, rfl, N0, Kp, by show ¬ nar .char _ < 0 ∧ _; rw [narC (chr8 _).1 (le255 (chr8 _).2)]; exact chr8 _⟩
  · refine Goes.of (fun _ => XS.ifYes X.here hx rfl (pc0 := 8) (pc' := 18) rfl (hb hby d1_8) rfl ((if0 _ _).trans (feq hpc8).2) (by decide) (by decide)) ?_
    show Goes p e below _ T (mkF m 18 #[.val (.int x), .val (.int (((x.toUInt32 >>> ((8 : Int32) &&& 31).toUInt32).toInt32) &&& (3 : Int32))), .unset] [])
    refine Goes.of (fun _ => XS.iloadN X.here hx rfl (hb hby d1_18) rfl) ?_
    show Goes p e below _ T (mkF m 19 #[.val (.int x), .val (.int (((x.toUInt32 >>> ((8 : Int32) &&& 31).toUInt32).toInt32) &&& (3 : Int32))), .unset] [(.int x)])
    refine Goes.of (fun _ => XS.bipush X.here hx rfl (hb hby d1_19)) ?_
    show Goes p e below _ T (mkF m 21 #[.val (.int x), .val (.int (((x.toUInt32 >>> ((8 : Int32) &&& 31).toUInt32).toInt32) &&& (3 : Int32))), .unset] [(.int (10 : Int32)), (.int x)])
    refine Goes.of (fun _ => XS.iushr X.here hx rfl (hb hby d1_21) rfl) ?_
    show Goes p e below _ T (mkF m 22 #[.val (.int x), .val (.int (((x.toUInt32 >>> ((8 : Int32) &&& 31).toUInt32).toInt32) &&& (3 : Int32))), .unset] [(.int ((x.toUInt32 >>> ((10 : Int32) &&& 31).toUInt32).toInt32))])
    refine Goes.of (fun _ => XS.bipush X.here hx rfl (hb hby d1_22)) ?_
    show Goes p e below _ T (mkF m 24 #[.val (.int x), .val (.int (((x.toUInt32 >>> ((8 : Int32) &&& 31).toUInt32).toInt32) &&& (3 : Int32))), .unset] [(.int (13 : Int32)), (.int ((x.toUInt32 >>> ((10 : Int32) &&& 31).toUInt32).toInt32))])
    refine Goes.of (fun _ => XS.irem X.here hx rfl (hb hby d1_24) rfl (by decide)) ?_
    show Goes p e below _ T (mkF m 25 #[.val (.int x), .val (.int (((x.toUInt32 >>> ((8 : Int32) &&& 31).toUInt32).toInt32) &&& (3 : Int32))), .unset] [(.int (((x.toUInt32 >>> ((10 : Int32) &&& 31).toUInt32).toInt32) - (((x.toUInt32 >>> ((10 : Int32) &&& 31).toUInt32).toInt32) / (13 : Int32)) * (13 : Int32)))])
    refine Goes.of (fun _ => XS.istoreN X.here hx rfl (hb hby d1_25) rfl (l' := #[.val (.int x), .val (.int (((x.toUInt32 >>> ((8 : Int32) &&& 31).toUInt32).toInt32) &&& (3 : Int32))), .val (.int (((x.toUInt32 >>> ((10 : Int32) &&& 31).toUInt32).toInt32) - (((x.toUInt32 >>> ((10 : Int32) &&& 31).toUInt32).toInt32) / (13 : Int32)) * (13 : Int32)))]) rfl) ?_
    show Goes p e below _ T (mkF m 26 #[.val (.int x), .val (.int (((x.toUInt32 >>> ((8 : Int32) &&& 31).toUInt32).toInt32) &&& (3 : Int32))), .val (.int (((x.toUInt32 >>> ((10 : Int32) &&& 31).toUInt32).toInt32) - (((x.toUInt32 >>> ((10 : Int32) &&& 31).toUInt32).toInt32) / (13 : Int32)) * (13 : Int32)))] [])
    generalize ek : (((x.toUInt32 >>> ((10 : Int32) &&& 31).toUInt32).toInt32) - (((x.toUInt32 >>> ((10 : Int32) &&& 31).toUInt32).toInt32) / (13 : Int32)) * (13 : Int32)) = k
    show Goes p e below _ T (mkF m 26 #[.val (.int x), .val (.int (((x.toUInt32 >>> ((8 : Int32) &&& 31).toUInt32).toInt32) &&& (3 : Int32))), .val (.int k)] [])
    have hk0 : 0 ≤ k.toInt ∧ k.toInt < 13 := ek ▸ mod13 x
    show Goes p e below _ T (mkF m 26 #[.val (.int x), .val (.int (((x.toUInt32 >>> ((8 : Int32) &&& 31).toUInt32).toInt32) &&& (3 : Int32))), .val (.int k)] [])
    refine goLdcC (z := (13 : Int32)) (vs := [(.int (48 : Int32)), (.int (49 : Int32)), (.int (50 : Int32)), (.int (51 : Int32)), (.int (52 : Int32)), (.int (53 : Int32)), (.int (54 : Int32)), (.int (55 : Int32)), (.int (56 : Int32)), (.int (57 : Int32)), (.int (46 : Int32)), (.int (43 : Int32)), (.int (45 : Int32))]) 52 X hS hk hEL (by decide) HC hx hZ hown (hw _ (List.mem_of_getElem? (i := 83) rfl)) wS eT0 (by decide) (by decide) (by decide) (g := (mkF m 26 #[.val (.int x), .val (.int (((x.toUInt32 >>> ((8 : Int32) &&& 31).toUInt32).toInt32) &&& (3 : Int32))), .val (.int k)] [])) rfl (hb hby d1_26) (by decide) (by decide) (by decide) (by decide) ?_
    intro s1 T1 h1 kk1 d1 kd1 X1 eT1 E1 hS hk hZ hown HC CH1 Es1 Fc1 Fv1 Vd1 hs1
    have Kp := Kp.ext E1
    have O0 := O0.ext E1
    show Goes p e below _ T1 (mkF m 28 #[.val (.int x), .val (.int (((x.toUInt32 >>> ((8 : Int32) &&& 31).toUInt32).toInt32) &&& (3 : Int32))), .val (.int k)] [(.ref s1)])
    have Sl := strLit Es1 Fv1 Fc1 Vd1
    show Goes p e below _ T1 (mkF m 28 #[.val (.int x), .val (.int (((x.toUInt32 >>> ((8 : Int32) &&& 31).toUInt32).toInt32) &&& (3 : Int32))), .val (.int k)] [(.ref s1)])
    refine Goes.of (fun _ => XS.iloadN X1.here hx rfl (hb hby d1_28) rfl) ?_
    show Goes p e below _ T1 (mkF m 29 #[.val (.int x), .val (.int (((x.toUInt32 >>> ((8 : Int32) &&& 31).toUInt32).toInt32) &&& (3 : Int32))), .val (.int k)] [(.int k), (.ref s1)])
    refine goChS k.toInt.toNat 0 X1 hx hZ hown (hchOf hw) (hw _ (List.mem_of_getElem? (i := 84) rfl)) (hw _ (List.mem_of_getElem? (i := 56) rfl)) (hw _ (List.mem_of_getElem? (i := 58) rfl)) (hw _ (List.mem_of_getElem? (i := 57) rfl)) (hw _ (List.mem_of_getElem? (i := 6) rfl)) Sl (fun c hc => (d13 c hc).2) (Sc.ext O0.2) hcz (Sf.ext O0.2) hfm (by show _ < 13; omega) (k13 hk0) eT1 (g := (mkF m 29 #[.val (.int x), .val (.int (((x.toUInt32 >>> ((8 : Int32) &&& 31).toUInt32).toInt32) &&& (3 : Int32))), .val (.int k)] [(.int k), (.ref s1)])) rfl (by rw [hml]; rfl) [] (lenOf pd__I_C rfl) rfl (by show 2 * 0 + _ ≤ _; exact Nat.le_of_eq rfl) (hb hby d1_29) (by decide) (by decide) (by decide) (by decide) ?_
    intro T2 X2 eT2
    show Goes p e below _ T2 (mkF m 32 #[.val (.int x), .val (.int (((x.toUInt32 >>> ((8 : Int32) &&& 31).toUInt32).toInt32) &&& (3 : Int32))), .val (.int k)] [(.int (digits13.getD k.toInt.toNat 0))])
    have hpk := get13 k.toInt.toNat (by omega)
    show Goes p e below _ T2 (mkF m 32 #[.val (.int x), .val (.int (((x.toUInt32 >>> ((8 : Int32) &&& 31).toUInt32).toInt32) &&& (3 : Int32))), .val (.int k)] [(.int (digits13.getD k.toInt.toNat 0))])
    exact retZW (t := .char) X2 hS hk hZ hEL HC hx hret hlk (by simp) (hb hby d1_32) eT2 (by decide) (by decide) ⟨_, rfl, N0, Kp, by show ¬ nar .char _ < 0 ∧ _; rw [narC hpk.1 (le255 hpk.2)]; exact hpk⟩
set_option maxRecDepth 65536 in
set_option maxHeartbeats 40000000 in
theorem rm_plain (l : Launch) (Z : State) (a0 : Array Value) (hw : ∀ d ∈ tables_1, d.before a0 Z = true) (a : Addr) (cs : List Int32) (cz : Int32) (fm : Value) (h0 : Heap) (n0 : Nat) (O0 : Old Z n0 h0) (Sc : Sta Z Z.heap "java/lang/String" "COMPACT_STRINGS" "Z" (.int cz)) (hcz : ¬ cz = 0) (Sf : Sta Z Z.heap "jdk/internal/util/Preconditions" "SIOOBE_FORMATTER" "Ljava/util/function/BiFunction;" fm) (hfm : fm.isRef = true) (S1 : Str Z h0 a cs) (hp : ∀ c ∈ cs, ¬ (255 : Int32) < c) :
    Rm l (⟨"com/example/medianode/medianode/core/Decimals", "isPlain", "(Ljava/lang/String;)Z"⟩ : MethodName) prog_6_method_2_code 5 (some .boolean) ({ frames := 4, cells := 0, slots := 0, locals := 64 } : Room) [] Z #[(.ref a)] h0 (fun v h L => v = some (.int (plainGo 0 (0 : Int32) (0 : Int32) cs)) ∧ Fr n0 L ∧ h = h0) := by
  refine Rm.of (plainFor_of_name pn_com_example_medianode_medianode_core_Decimals) ?_
  intro p e s m below meth cod T X hx hZ hby hml hown hnm hret hlk eT0
  have hown : s.vm.findClass "com/example/medianode/medianode/core/Decimals" = some m.cls := hown
  have hnm : meth.name = "isPlain" := hnm
  have N0 := Fr.nil n0
  have loop : ∀ (r : List Int32) (k : Nat) (d q : Int32) (s4 : Slot) (T : State), Stand p l e ({ frames := 4, cells := 0, slots := 0, locals := 64 } : Room) s m #[(.ref a)] below meth cod T [] 0 0 → T.heap = h0 → cs.drop k = r → plainGo k d q r = (plainGo 0 (0 : Int32) (0 : Int32) cs) → k ≤ cs.length → One s4 → Goes p e below (EndN s (fun v h L => v = some (.int (plainGo 0 (0 : Int32) (0 : Int32) cs)) ∧ Fr n0 L ∧ h = h0) 0 0) T (mkF m 6 #[.val (.ref a), .val (.int d), .val (.int q), .val (.int (Int32.ofNat k)), s4] []) := by
    intro r
    induction r with
    | nil =>
      intro k d q s4 T X eT hdr hgo hk h4
      have hlt : ¬ Int32.ofNat k < Int32.ofNat cs.length := by rw [ofNat_lt (Nat.le_trans hk S1.2.2.1) S1.2.2.1]; have := List.drop_eq_nil_iff.mp hdr; omega
      show Goes p e below _ T (mkF m 6 #[.val (.ref a), .val (.int d), .val (.int q), .val (.int (Int32.ofNat k)), s4] [])
      refine Goes.of (fun _ => XS.iloadN X.here hx rfl (hb hby d5_6) rfl) ?_
      show Goes p e below _ T (mkF m 7 #[.val (.ref a), .val (.int d), .val (.int q), .val (.int (Int32.ofNat k)), s4] [(.int (Int32.ofNat k))])
      refine Goes.of (fun _ => XS.aloadN X.here hx rfl (hb hby d5_7) rfl rfl) ?_
      show Goes p e below _ T (mkF m 8 #[.val (.ref a), .val (.int d), .val (.int q), .val (.int (Int32.ofNat k)), s4] [(.ref a), (.int (Int32.ofNat k))])
      refine goLenS 1 X hx hZ hown (hlwOf hw) (hw _ (List.mem_of_getElem? (i := 31) rfl)) (hw _ (List.mem_of_getElem? (i := 32) rfl)) (hw _ (List.mem_of_getElem? (i := 34) rfl)) (hw _ (List.mem_of_getElem? (i := 33) rfl)) (hw _ (List.mem_of_getElem? (i := 6) rfl)) S1 (Sc.ext O0.2) hcz eT (g := (mkF m 8 #[.val (.ref a), .val (.int d), .val (.int q), .val (.int (Int32.ofNat k)), s4] [(.ref a), (.int (Int32.ofNat k))])) rfl (by rw [hml]; rfl) [(.int (Int32.ofNat k))] (lenOf pd___I rfl) rfl (by show 2 * 0 + _ ≤ _; exact Nat.le_of_eq rfl) (hb hby d5_8) (by decide) (by decide) (by decide) (by decide) ?_
      intro T1 X1 eT1
      show Goes p e below _ T1 (mkF m 11 #[.val (.ref a), .val (.int d), .val (.int q), .val (.int (Int32.ofNat k)), s4] [(.int (Int32.ofNat cs.length)), (.int (Int32.ofNat k))])
      refine Goes.of (fun _ => XS.icmpYes X1.here hx rfl (pc0 := 11) (pc' := 80) rfl (hb hby d5_11) rfl (flt hlt).2.1 (by decide) (by decide)) ?_
      show Goes p e below _ T1 (mkF m 80 #[.val (.ref a), .val (.int d), .val (.int q), .val (.int (Int32.ofNat k)), s4] [])
      refine Goes.of (fun _ => XS.iloadN X1.here hx rfl (hb hby d5_80) rfl) ?_
      show Goes p e below _ T1 (mkF m 81 #[.val (.ref a), .val (.int d), .val (.int q), .val (.int (Int32.ofNat k)), s4] [(.int d)])
      by_cases hpc81 : (0 : Int32) < d
      · refine Goes.of (fun _ => XS.ifNo X1.here hx rfl (hb hby d5_81) rfl ((if0 _ _).trans (tlt hpc81).2.2.2)) ?_
        show Goes p e below _ T1 (mkF m 84 #[.val (.ref a), .val (.int d), .val (.int q), .val (.int (Int32.ofNat k)), s4] [])
        refine Goes.of (fun _ => XS.iloadN X1.here hx rfl (hb hby d5_84) rfl) ?_
        show Goes p e below _ T1 (mkF m 85 #[.val (.ref a), .val (.int d), .val (.int q), .val (.int (Int32.ofNat k)), s4] [(.int q)])
        refine Goes.of (fun _ => XS.iconst X1.here hx rfl (hb hby d5_85)) ?_
        show Goes p e below _ T1 (mkF m 86 #[.val (.ref a), .val (.int d), .val (.int q), .val (.int (Int32.ofNat k)), s4] [(.int (1 : Int32)), (.int q)])
        by_cases hpc86 : (1 : Int32) < q
        · refine Goes.of (fun _ => XS.icmpYes X1.here hx rfl (pc0 := 86) (pc' := 93) rfl (hb hby d5_86) rfl (tlt hpc86).2.2.1 (by decide) (by decide)) ?_
          show Goes p e below _ T1 (mkF m 93 #[.val (.ref a), .val (.int d), .val (.int q), .val (.int (Int32.ofNat k)), s4] [])
          refine Goes.of (fun _ => XS.iconst X1.here hx rfl (hb hby d5_93)) ?_
          show Goes p e below _ T1 (mkF m 94 #[.val (.ref a), .val (.int d), .val (.int q), .val (.int (Int32.ofNat k)), s4] [(.int (0 : Int32))])
          exact retZ (t := .boolean) X1 hx hret hlk (by simp) (hb hby d5_94) eT1 (by decide) (by decide) ⟨by have g := hgo; simp only [plainGo] at g; rw [if_pos hpc81, if_pos hpc86] at g; rw [← g]; rfl, N0, rfl⟩
        · refine Goes.of (fun _ => XS.icmpNo X1.here hx rfl (hb hby d5_86) rfl (flt hpc86).2.2.1) ?_
          show Goes p e below _ T1 (mkF m 89 #[.val (.ref a), .val (.int d), .val (.int q), .val (.int (Int32.ofNat k)), s4] [])
          refine Goes.of (fun _ => XS.iconst X1.here hx rfl (hb hby d5_89)) ?_
          show Goes p e below _ T1 (mkF m 90 #[.val (.ref a), .val (.int d), .val (.int q), .val (.int (Int32.ofNat k)), s4] [(.int (1 : Int32))])
          refine Goes.of (fun _ => XS.goto X1.here hx rfl (pc0 := 90) (pc' := 94) rfl (hb hby d5_90) (by decide) (by decide)) ?_
          show Goes p e below _ T1 (mkF m 94 #[.val (.ref a), .val (.int d), .val (.int q), .val (.int (Int32.ofNat k)), s4] [(.int (1 : Int32))])
          exact retZ (t := .boolean) X1 hx hret hlk (by simp) (hb hby d5_94) eT1 (by decide) (by decide) ⟨by have g := hgo; simp only [plainGo] at g; rw [if_pos hpc81, if_neg hpc86] at g; rw [← g]; rfl, N0, rfl⟩
      · refine Goes.of (fun _ => XS.ifYes X1.here hx rfl (pc0 := 81) (pc' := 93) rfl (hb hby d5_81) rfl ((if0 _ _).trans (flt hpc81).2.2.2) (by decide) (by decide)) ?_
        show Goes p e below _ T1 (mkF m 93 #[.val (.ref a), .val (.int d), .val (.int q), .val (.int (Int32.ofNat k)), s4] [])
        refine Goes.of (fun _ => XS.iconst X1.here hx rfl (hb hby d5_93)) ?_
        show Goes p e below _ T1 (mkF m 94 #[.val (.ref a), .val (.int d), .val (.int q), .val (.int (Int32.ofNat k)), s4] [(.int (0 : Int32))])
        exact retZ (t := .boolean) X1 hx hret hlk (by simp) (hb hby d5_94) eT1 (by decide) (by decide) ⟨by have g := hgo; simp only [plainGo] at g; rw [if_neg hpc81] at g; rw [← g]; rfl, N0, rfl⟩
    | cons c' r ih =>
      intro k d q s4 T X eT hdr hgo hk h4
      have hdc := drop_cons hdr
      have hlt : Int32.ofNat k < Int32.ofNat cs.length := (ofNat_lt (Nat.le_trans hk S1.2.2.1) S1.2.2.1).mpr hdc.1
      show Goes p e below _ T (mkF m 6 #[.val (.ref a), .val (.int d), .val (.int q), .val (.int (Int32.ofNat k)), s4] [])
      refine Goes.of (fun _ => XS.iloadN X.here hx rfl (hb hby d5_6) rfl) ?_
      show Goes p e below _ T (mkF m 7 #[.val (.ref a), .val (.int d), .val (.int q), .val (.int (Int32.ofNat k)), s4] [(.int (Int32.ofNat k))])
      refine Goes.of (fun _ => XS.aloadN X.here hx rfl (hb hby d5_7) rfl rfl) ?_
      show Goes p e below _ T (mkF m 8 #[.val (.ref a), .val (.int d), .val (.int q), .val (.int (Int32.ofNat k)), s4] [(.ref a), (.int (Int32.ofNat k))])
      refine goLenS 1 X hx hZ hown (hlwOf hw) (hw _ (List.mem_of_getElem? (i := 31) rfl)) (hw _ (List.mem_of_getElem? (i := 32) rfl)) (hw _ (List.mem_of_getElem? (i := 34) rfl)) (hw _ (List.mem_of_getElem? (i := 33) rfl)) (hw _ (List.mem_of_getElem? (i := 6) rfl)) S1 (Sc.ext O0.2) hcz eT (g := (mkF m 8 #[.val (.ref a), .val (.int d), .val (.int q), .val (.int (Int32.ofNat k)), s4] [(.ref a), (.int (Int32.ofNat k))])) rfl (by rw [hml]; rfl) [(.int (Int32.ofNat k))] (lenOf pd___I rfl) rfl (by show 2 * 0 + _ ≤ _; exact Nat.le_of_eq rfl) (hb hby d5_8) (by decide) (by decide) (by decide) (by decide) ?_
      intro T2 X2 eT2
      show Goes p e below _ T2 (mkF m 11 #[.val (.ref a), .val (.int d), .val (.int q), .val (.int (Int32.ofNat k)), s4] [(.int (Int32.ofNat cs.length)), (.int (Int32.ofNat k))])
      refine Goes.of (fun _ => XS.icmpNo X2.here hx rfl (hb hby d5_11) rfl (tlt hlt).2.1) ?_
      show Goes p e below _ T2 (mkF m 14 #[.val (.ref a), .val (.int d), .val (.int q), .val (.int (Int32.ofNat k)), s4] [])
      refine Goes.of (fun _ => XS.aloadN X2.here hx rfl (hb hby d5_14) rfl rfl) ?_
      show Goes p e below _ T2 (mkF m 15 #[.val (.ref a), .val (.int d), .val (.int q), .val (.int (Int32.ofNat k)), s4] [(.ref a)])
      refine Goes.of (fun _ => XS.iloadN X2.here hx rfl (hb hby d5_15) rfl) ?_
      show Goes p e below _ T2 (mkF m 16 #[.val (.ref a), .val (.int d), .val (.int q), .val (.int (Int32.ofNat k)), s4] [(.int (Int32.ofNat k)), (.ref a)])
      refine goChS k 0 X2 hx hZ hown (hchOf hw) (hw _ (List.mem_of_getElem? (i := 55) rfl)) (hw _ (List.mem_of_getElem? (i := 56) rfl)) (hw _ (List.mem_of_getElem? (i := 58) rfl)) (hw _ (List.mem_of_getElem? (i := 57) rfl)) (hw _ (List.mem_of_getElem? (i := 6) rfl)) S1 hp (Sc.ext O0.2) hcz (Sf.ext O0.2) hfm hdc.1 rfl eT2 (g := (mkF m 16 #[.val (.ref a), .val (.int d), .val (.int q), .val (.int (Int32.ofNat k)), s4] [(.int (Int32.ofNat k)), (.ref a)])) rfl (by rw [hml]; rfl) [] (lenOf pd__I_C rfl) rfl (by show 2 * 0 + _ ≤ _; exact Nat.le_of_eq rfl) (hb hby d5_16) (by decide) (by decide) (by decide) (by decide) ?_
      intro T3 X3 eT3
      show Goes p e below _ T3 (mkF m 19 #[.val (.ref a), .val (.int d), .val (.int q), .val (.int (Int32.ofNat k)), s4] [(.int (cs.getD k 0))])
      rw [hdc.2.1]
      show Goes p e below _ T3 (mkF m 19 #[.val (.ref a), .val (.int d), .val (.int q), .val (.int (Int32.ofNat k)), s4] [(.int c')])
      refine Goes.of (fun _ => XS.istore X3.here hx rfl (hb hby d5_19) rfl (l' := #[.val (.ref a), .val (.int d), .val (.int q), .val (.int (Int32.ofNat k)), .val (.int c')]) (st4 h4)) ?_
      show Goes p e below _ T3 (mkF m 21 #[.val (.ref a), .val (.int d), .val (.int q), .val (.int (Int32.ofNat k)), .val (.int c')] [])
      refine Goes.of (fun _ => XS.iload X3.here hx rfl (hb hby d5_21) rfl) ?_
      show Goes p e below _ T3 (mkF m 23 #[.val (.ref a), .val (.int d), .val (.int q), .val (.int (Int32.ofNat k)), .val (.int c')] [(.int c')])
      refine Goes.of (fun _ => XS.bipush X3.here hx rfl (hb hby d5_23)) ?_
      show Goes p e below _ T3 (mkF m 25 #[.val (.ref a), .val (.int d), .val (.int q), .val (.int (Int32.ofNat k)), .val (.int c')] [(.int (48 : Int32)), (.int c')])
      by_cases hpc25 : c' < (48 : Int32)
      · refine Goes.of (fun _ => XS.icmpYes X3.here hx rfl (pc0 := 25) (pc' := 41) rfl (hb hby d5_25) rfl (tlt hpc25).1 (by decide) (by decide)) ?_
        show Goes p e below _ T3 (mkF m 41 #[.val (.ref a), .val (.int d), .val (.int q), .val (.int (Int32.ofNat k)), .val (.int c')] [])
        refine Goes.of (fun _ => XS.iload X3.here hx rfl (hb hby d5_41) rfl) ?_
        show Goes p e below _ T3 (mkF m 43 #[.val (.ref a), .val (.int d), .val (.int q), .val (.int (Int32.ofNat k)), .val (.int c')] [(.int c')])
        refine Goes.of (fun _ => XS.bipush X3.here hx rfl (hb hby d5_43)) ?_
        show Goes p e below _ T3 (mkF m 45 #[.val (.ref a), .val (.int d), .val (.int q), .val (.int (Int32.ofNat k)), .val (.int c')] [(.int (46 : Int32)), (.int c')])
        by_cases hpc45 : c' = (46 : Int32)
        · refine Goes.of (fun _ => XS.icmpNo X3.here hx rfl (hb hby d5_45) rfl (teq hpc45).2) ?_
          show Goes p e below _ T3 (mkF m 48 #[.val (.ref a), .val (.int d), .val (.int q), .val (.int (Int32.ofNat k)), .val (.int c')] [])
          refine Goes.of (fun _ => XS.iinc X3.here hx rfl (hb hby d5_48) rfl (l' := #[.val (.ref a), .val (.int d), .val (.int (q + (1 : Int32))), .val (.int (Int32.ofNat k)), .val (.int c')]) rfl) ?_
          show Goes p e below _ T3 (mkF m 51 #[.val (.ref a), .val (.int d), .val (.int (q + (1 : Int32))), .val (.int (Int32.ofNat k)), .val (.int c')] [])
          refine Goes.of (fun _ => XS.goto X3.here hx rfl (pc0 := 51) (pc' := 74) rfl (hb hby d5_51) (by decide) (by decide)) ?_
          show Goes p e below _ T3 (mkF m 74 #[.val (.ref a), .val (.int d), .val (.int (q + (1 : Int32))), .val (.int (Int32.ofNat k)), .val (.int c')] [])
          refine Goes.of (fun _ => XS.iinc X3.here hx rfl (hb hby d5_74) rfl (l' := #[.val (.ref a), .val (.int d), .val (.int (q + (1 : Int32))), .val (.int ((Int32.ofNat k) + (1 : Int32))), .val (.int c')]) rfl) ?_
          show Goes p e below _ T3 (mkF m 77 #[.val (.ref a), .val (.int d), .val (.int (q + (1 : Int32))), .val (.int ((Int32.ofNat k) + (1 : Int32))), .val (.int c')] [])
          refine Goes.of (fun _ => XS.goto X3.here hx rfl (pc0 := 77) (pc' := 6) rfl (hb hby d5_77) (by decide) (by decide)) ?_
          show Goes p e below _ T3 (mkF m 6 #[.val (.ref a), .val (.int d), .val (.int (q + (1 : Int32))), .val (.int ((Int32.ofNat k) + (1 : Int32))), .val (.int c')] [])
          rw [ofNat_add_one32 k]
          exact ih (k + 1) d (q + (1 : Int32)) _ _ X3 eT3 hdc.2.2 (by have g := hgo; simp only [plainGo] at g; rw [if_pos hpc25, if_pos hpc45] at g; exact g) hdc.1 (One.val rfl)
        · refine Goes.of (fun _ => XS.icmpYes X3.here hx rfl (pc0 := 45) (pc' := 54) rfl (hb hby d5_45) rfl (feq hpc45).2 (by decide) (by decide)) ?_
          show Goes p e below _ T3 (mkF m 54 #[.val (.ref a), .val (.int d), .val (.int q), .val (.int (Int32.ofNat k)), .val (.int c')] [])
          refine Goes.of (fun _ => XS.iloadN X3.here hx rfl (hb hby d5_54) rfl) ?_
          show Goes p e below _ T3 (mkF m 55 #[.val (.ref a), .val (.int d), .val (.int q), .val (.int (Int32.ofNat k)), .val (.int c')] [(.int (Int32.ofNat k))])
          by_cases hpc55 : (0 : Int32) < (Int32.ofNat k)
          · refine Goes.of (fun _ => XS.ifYes X3.here hx rfl (pc0 := 55) (pc' := 72) rfl (hb hby d5_55) rfl ((if0 _ _).trans (tlt hpc55).2.2.1) (by decide) (by decide)) ?_
            show Goes p e below _ T3 (mkF m 72 #[.val (.ref a), .val (.int d), .val (.int q), .val (.int (Int32.ofNat k)), .val (.int c')] [])
            refine Goes.of (fun _ => XS.iconst X3.here hx rfl (hb hby d5_72)) ?_
            show Goes p e below _ T3 (mkF m 73 #[.val (.ref a), .val (.int d), .val (.int q), .val (.int (Int32.ofNat k)), .val (.int c')] [(.int (0 : Int32))])
            exact retZ (t := .boolean) X3 hx hret hlk (by simp) (hb hby d5_73) eT3 (by decide) (by decide) ⟨by have g := hgo; simp only [plainGo] at g; rw [if_pos hpc25, if_neg hpc45, if_pos hpc55] at g; rw [← g]; rfl, N0, rfl⟩
          · refine Goes.of (fun _ => XS.ifNo X3.here hx rfl (hb hby d5_55) rfl ((if0 _ _).trans (flt hpc55).2.2.1)) ?_
            show Goes p e below _ T3 (mkF m 58 #[.val (.ref a), .val (.int d), .val (.int q), .val (.int (Int32.ofNat k)), .val (.int c')] [])
            refine Goes.of (fun _ => XS.iload X3.here hx rfl (hb hby d5_58) rfl) ?_
            show Goes p e below _ T3 (mkF m 60 #[.val (.ref a), .val (.int d), .val (.int q), .val (.int (Int32.ofNat k)), .val (.int c')] [(.int c')])
            refine Goes.of (fun _ => XS.bipush X3.here hx rfl (hb hby d5_60)) ?_
            show Goes p e below _ T3 (mkF m 62 #[.val (.ref a), .val (.int d), .val (.int q), .val (.int (Int32.ofNat k)), .val (.int c')] [(.int (43 : Int32)), (.int c')])
            by_cases hpc62 : c' = (43 : Int32)
            · refine Goes.of (fun _ => XS.icmpYes X3.here hx rfl (pc0 := 62) (pc' := 74) rfl (hb hby d5_62) rfl (teq hpc62).1 (by decide) (by decide)) ?_
              show Goes p e below _ T3 (mkF m 74 #[.val (.ref a), .val (.int d), .val (.int q), .val (.int (Int32.ofNat k)), .val (.int c')] [])
              refine Goes.of (fun _ => XS.iinc X3.here hx rfl (hb hby d5_74) rfl (l' := #[.val (.ref a), .val (.int d), .val (.int q), .val (.int ((Int32.ofNat k) + (1 : Int32))), .val (.int c')]) rfl) ?_
              show Goes p e below _ T3 (mkF m 77 #[.val (.ref a), .val (.int d), .val (.int q), .val (.int ((Int32.ofNat k) + (1 : Int32))), .val (.int c')] [])
              refine Goes.of (fun _ => XS.goto X3.here hx rfl (pc0 := 77) (pc' := 6) rfl (hb hby d5_77) (by decide) (by decide)) ?_
              show Goes p e below _ T3 (mkF m 6 #[.val (.ref a), .val (.int d), .val (.int q), .val (.int ((Int32.ofNat k) + (1 : Int32))), .val (.int c')] [])
              rw [ofNat_add_one32 k]
              exact ih (k + 1) d q _ _ X3 eT3 hdc.2.2 (by have g := hgo; simp only [plainGo] at g; rw [if_pos hpc25, if_neg hpc45, if_neg hpc55, if_pos hpc62] at g; exact g) hdc.1 (One.val rfl)
            · refine Goes.of (fun _ => XS.icmpNo X3.here hx rfl (hb hby d5_62) rfl (feq hpc62).1) ?_
              show Goes p e below _ T3 (mkF m 65 #[.val (.ref a), .val (.int d), .val (.int q), .val (.int (Int32.ofNat k)), .val (.int c')] [])
              refine Goes.of (fun _ => XS.iload X3.here hx rfl (hb hby d5_65) rfl) ?_
              show Goes p e below _ T3 (mkF m 67 #[.val (.ref a), .val (.int d), .val (.int q), .val (.int (Int32.ofNat k)), .val (.int c')] [(.int c')])
              refine Goes.of (fun _ => XS.bipush X3.here hx rfl (hb hby d5_67)) ?_
              show Goes p e below _ T3 (mkF m 69 #[.val (.ref a), .val (.int d), .val (.int q), .val (.int (Int32.ofNat k)), .val (.int c')] [(.int (45 : Int32)), (.int c')])
              by_cases hpc69 : c' = (45 : Int32)
              · refine Goes.of (fun _ => XS.icmpYes X3.here hx rfl (pc0 := 69) (pc' := 74) rfl (hb hby d5_69) rfl (teq hpc69).1 (by decide) (by decide)) ?_
                show Goes p e below _ T3 (mkF m 74 #[.val (.ref a), .val (.int d), .val (.int q), .val (.int (Int32.ofNat k)), .val (.int c')] [])
                refine Goes.of (fun _ => XS.iinc X3.here hx rfl (hb hby d5_74) rfl (l' := #[.val (.ref a), .val (.int d), .val (.int q), .val (.int ((Int32.ofNat k) + (1 : Int32))), .val (.int c')]) rfl) ?_
                show Goes p e below _ T3 (mkF m 77 #[.val (.ref a), .val (.int d), .val (.int q), .val (.int ((Int32.ofNat k) + (1 : Int32))), .val (.int c')] [])
                refine Goes.of (fun _ => XS.goto X3.here hx rfl (pc0 := 77) (pc' := 6) rfl (hb hby d5_77) (by decide) (by decide)) ?_
                show Goes p e below _ T3 (mkF m 6 #[.val (.ref a), .val (.int d), .val (.int q), .val (.int ((Int32.ofNat k) + (1 : Int32))), .val (.int c')] [])
                rw [ofNat_add_one32 k]
                exact ih (k + 1) d q _ _ X3 eT3 hdc.2.2 (by have g := hgo; simp only [plainGo] at g; rw [if_pos hpc25, if_neg hpc45, if_neg hpc55, if_neg hpc62, if_pos hpc69] at g; exact g) hdc.1 (One.val rfl)
              · refine Goes.of (fun _ => XS.icmpNo X3.here hx rfl (hb hby d5_69) rfl (feq hpc69).1) ?_
                show Goes p e below _ T3 (mkF m 72 #[.val (.ref a), .val (.int d), .val (.int q), .val (.int (Int32.ofNat k)), .val (.int c')] [])
                refine Goes.of (fun _ => XS.iconst X3.here hx rfl (hb hby d5_72)) ?_
                show Goes p e below _ T3 (mkF m 73 #[.val (.ref a), .val (.int d), .val (.int q), .val (.int (Int32.ofNat k)), .val (.int c')] [(.int (0 : Int32))])
                exact retZ (t := .boolean) X3 hx hret hlk (by simp) (hb hby d5_73) eT3 (by decide) (by decide) ⟨by have g := hgo; simp only [plainGo] at g; rw [if_pos hpc25, if_neg hpc45, if_neg hpc55, if_neg hpc62, if_neg hpc69] at g; rw [← g]; rfl, N0, rfl⟩
      · refine Goes.of (fun _ => XS.icmpNo X3.here hx rfl (hb hby d5_25) rfl (flt hpc25).1) ?_
        show Goes p e below _ T3 (mkF m 28 #[.val (.ref a), .val (.int d), .val (.int q), .val (.int (Int32.ofNat k)), .val (.int c')] [])
        refine Goes.of (fun _ => XS.iload X3.here hx rfl (hb hby d5_28) rfl) ?_
        show Goes p e below _ T3 (mkF m 30 #[.val (.ref a), .val (.int d), .val (.int q), .val (.int (Int32.ofNat k)), .val (.int c')] [(.int c')])
        refine Goes.of (fun _ => XS.bipush X3.here hx rfl (hb hby d5_30)) ?_
        show Goes p e below _ T3 (mkF m 32 #[.val (.ref a), .val (.int d), .val (.int q), .val (.int (Int32.ofNat k)), .val (.int c')] [(.int (57 : Int32)), (.int c')])
        by_cases hpc32 : (57 : Int32) < c'
        · refine Goes.of (fun _ => XS.icmpYes X3.here hx rfl (pc0 := 32) (pc' := 41) rfl (hb hby d5_32) rfl (tlt hpc32).2.2.1 (by decide) (by decide)) ?_
          show Goes p e below _ T3 (mkF m 41 #[.val (.ref a), .val (.int d), .val (.int q), .val (.int (Int32.ofNat k)), .val (.int c')] [])
          refine Goes.of (fun _ => XS.iload X3.here hx rfl (hb hby d5_41) rfl) ?_
          show Goes p e below _ T3 (mkF m 43 #[.val (.ref a), .val (.int d), .val (.int q), .val (.int (Int32.ofNat k)), .val (.int c')] [(.int c')])
          refine Goes.of (fun _ => XS.bipush X3.here hx rfl (hb hby d5_43)) ?_
          show Goes p e below _ T3 (mkF m 45 #[.val (.ref a), .val (.int d), .val (.int q), .val (.int (Int32.ofNat k)), .val (.int c')] [(.int (46 : Int32)), (.int c')])
          by_cases hpc45 : c' = (46 : Int32)
          · refine Goes.of (fun _ => XS.icmpNo X3.here hx rfl (hb hby d5_45) rfl (teq hpc45).2) ?_
            show Goes p e below _ T3 (mkF m 48 #[.val (.ref a), .val (.int d), .val (.int q), .val (.int (Int32.ofNat k)), .val (.int c')] [])
            refine Goes.of (fun _ => XS.iinc X3.here hx rfl (hb hby d5_48) rfl (l' := #[.val (.ref a), .val (.int d), .val (.int (q + (1 : Int32))), .val (.int (Int32.ofNat k)), .val (.int c')]) rfl) ?_
            show Goes p e below _ T3 (mkF m 51 #[.val (.ref a), .val (.int d), .val (.int (q + (1 : Int32))), .val (.int (Int32.ofNat k)), .val (.int c')] [])
            refine Goes.of (fun _ => XS.goto X3.here hx rfl (pc0 := 51) (pc' := 74) rfl (hb hby d5_51) (by decide) (by decide)) ?_
            show Goes p e below _ T3 (mkF m 74 #[.val (.ref a), .val (.int d), .val (.int (q + (1 : Int32))), .val (.int (Int32.ofNat k)), .val (.int c')] [])
            refine Goes.of (fun _ => XS.iinc X3.here hx rfl (hb hby d5_74) rfl (l' := #[.val (.ref a), .val (.int d), .val (.int (q + (1 : Int32))), .val (.int ((Int32.ofNat k) + (1 : Int32))), .val (.int c')]) rfl) ?_
            show Goes p e below _ T3 (mkF m 77 #[.val (.ref a), .val (.int d), .val (.int (q + (1 : Int32))), .val (.int ((Int32.ofNat k) + (1 : Int32))), .val (.int c')] [])
            refine Goes.of (fun _ => XS.goto X3.here hx rfl (pc0 := 77) (pc' := 6) rfl (hb hby d5_77) (by decide) (by decide)) ?_
            show Goes p e below _ T3 (mkF m 6 #[.val (.ref a), .val (.int d), .val (.int (q + (1 : Int32))), .val (.int ((Int32.ofNat k) + (1 : Int32))), .val (.int c')] [])
            rw [ofNat_add_one32 k]
            exact ih (k + 1) d (q + (1 : Int32)) _ _ X3 eT3 hdc.2.2 (by have g := hgo; simp only [plainGo] at g; rw [if_neg hpc25, if_pos hpc32, if_pos hpc45] at g; exact g) hdc.1 (One.val rfl)
          · refine Goes.of (fun _ => XS.icmpYes X3.here hx rfl (pc0 := 45) (pc' := 54) rfl (hb hby d5_45) rfl (feq hpc45).2 (by decide) (by decide)) ?_
            show Goes p e below _ T3 (mkF m 54 #[.val (.ref a), .val (.int d), .val (.int q), .val (.int (Int32.ofNat k)), .val (.int c')] [])
            refine Goes.of (fun _ => XS.iloadN X3.here hx rfl (hb hby d5_54) rfl) ?_
            show Goes p e below _ T3 (mkF m 55 #[.val (.ref a), .val (.int d), .val (.int q), .val (.int (Int32.ofNat k)), .val (.int c')] [(.int (Int32.ofNat k))])
            by_cases hpc55 : (0 : Int32) < (Int32.ofNat k)
            · refine Goes.of (fun _ => XS.ifYes X3.here hx rfl (pc0 := 55) (pc' := 72) rfl (hb hby d5_55) rfl ((if0 _ _).trans (tlt hpc55).2.2.1) (by decide) (by decide)) ?_
              show Goes p e below _ T3 (mkF m 72 #[.val (.ref a), .val (.int d), .val (.int q), .val (.int (Int32.ofNat k)), .val (.int c')] [])
              refine Goes.of (fun _ => XS.iconst X3.here hx rfl (hb hby d5_72)) ?_
              show Goes p e below _ T3 (mkF m 73 #[.val (.ref a), .val (.int d), .val (.int q), .val (.int (Int32.ofNat k)), .val (.int c')] [(.int (0 : Int32))])
              exact retZ (t := .boolean) X3 hx hret hlk (by simp) (hb hby d5_73) eT3 (by decide) (by decide) ⟨by have g := hgo; simp only [plainGo] at g; rw [if_neg hpc25, if_pos hpc32, if_neg hpc45, if_pos hpc55] at g; rw [← g]; rfl, N0, rfl⟩
            · refine Goes.of (fun _ => XS.ifNo X3.here hx rfl (hb hby d5_55) rfl ((if0 _ _).trans (flt hpc55).2.2.1)) ?_
              show Goes p e below _ T3 (mkF m 58 #[.val (.ref a), .val (.int d), .val (.int q), .val (.int (Int32.ofNat k)), .val (.int c')] [])
              refine Goes.of (fun _ => XS.iload X3.here hx rfl (hb hby d5_58) rfl) ?_
              show Goes p e below _ T3 (mkF m 60 #[.val (.ref a), .val (.int d), .val (.int q), .val (.int (Int32.ofNat k)), .val (.int c')] [(.int c')])
              refine Goes.of (fun _ => XS.bipush X3.here hx rfl (hb hby d5_60)) ?_
              show Goes p e below _ T3 (mkF m 62 #[.val (.ref a), .val (.int d), .val (.int q), .val (.int (Int32.ofNat k)), .val (.int c')] [(.int (43 : Int32)), (.int c')])
              by_cases hpc62 : c' = (43 : Int32)
              · refine Goes.of (fun _ => XS.icmpYes X3.here hx rfl (pc0 := 62) (pc' := 74) rfl (hb hby d5_62) rfl (teq hpc62).1 (by decide) (by decide)) ?_
                show Goes p e below _ T3 (mkF m 74 #[.val (.ref a), .val (.int d), .val (.int q), .val (.int (Int32.ofNat k)), .val (.int c')] [])
                refine Goes.of (fun _ => XS.iinc X3.here hx rfl (hb hby d5_74) rfl (l' := #[.val (.ref a), .val (.int d), .val (.int q), .val (.int ((Int32.ofNat k) + (1 : Int32))), .val (.int c')]) rfl) ?_
                show Goes p e below _ T3 (mkF m 77 #[.val (.ref a), .val (.int d), .val (.int q), .val (.int ((Int32.ofNat k) + (1 : Int32))), .val (.int c')] [])
                refine Goes.of (fun _ => XS.goto X3.here hx rfl (pc0 := 77) (pc' := 6) rfl (hb hby d5_77) (by decide) (by decide)) ?_
                show Goes p e below _ T3 (mkF m 6 #[.val (.ref a), .val (.int d), .val (.int q), .val (.int ((Int32.ofNat k) + (1 : Int32))), .val (.int c')] [])
                rw [ofNat_add_one32 k]
                exact ih (k + 1) d q _ _ X3 eT3 hdc.2.2 (by have g := hgo; simp only [plainGo] at g; rw [if_neg hpc25, if_pos hpc32, if_neg hpc45, if_neg hpc55, if_pos hpc62] at g; exact g) hdc.1 (One.val rfl)
              · refine Goes.of (fun _ => XS.icmpNo X3.here hx rfl (hb hby d5_62) rfl (feq hpc62).1) ?_
                show Goes p e below _ T3 (mkF m 65 #[.val (.ref a), .val (.int d), .val (.int q), .val (.int (Int32.ofNat k)), .val (.int c')] [])
                refine Goes.of (fun _ => XS.iload X3.here hx rfl (hb hby d5_65) rfl) ?_
                show Goes p e below _ T3 (mkF m 67 #[.val (.ref a), .val (.int d), .val (.int q), .val (.int (Int32.ofNat k)), .val (.int c')] [(.int c')])
                refine Goes.of (fun _ => XS.bipush X3.here hx rfl (hb hby d5_67)) ?_
                show Goes p e below _ T3 (mkF m 69 #[.val (.ref a), .val (.int d), .val (.int q), .val (.int (Int32.ofNat k)), .val (.int c')] [(.int (45 : Int32)), (.int c')])
                by_cases hpc69 : c' = (45 : Int32)
                · refine Goes.of (fun _ => XS.icmpYes X3.here hx rfl (pc0 := 69) (pc' := 74) rfl (hb hby d5_69) rfl (teq hpc69).1 (by decide) (by decide)) ?_
                  show Goes p e below _ T3 (mkF m 74 #[.val (.ref a), .val (.int d), .val (.int q), .val (.int (Int32.ofNat k)), .val (.int c')] [])
                  refine Goes.of (fun _ => XS.iinc X3.here hx rfl (hb hby d5_74) rfl (l' := #[.val (.ref a), .val (.int d), .val (.int q), .val (.int ((Int32.ofNat k) + (1 : Int32))), .val (.int c')]) rfl) ?_
                  show Goes p e below _ T3 (mkF m 77 #[.val (.ref a), .val (.int d), .val (.int q), .val (.int ((Int32.ofNat k) + (1 : Int32))), .val (.int c')] [])
                  refine Goes.of (fun _ => XS.goto X3.here hx rfl (pc0 := 77) (pc' := 6) rfl (hb hby d5_77) (by decide) (by decide)) ?_
                  show Goes p e below _ T3 (mkF m 6 #[.val (.ref a), .val (.int d), .val (.int q), .val (.int ((Int32.ofNat k) + (1 : Int32))), .val (.int c')] [])
                  rw [ofNat_add_one32 k]
                  exact ih (k + 1) d q _ _ X3 eT3 hdc.2.2 (by have g := hgo; simp only [plainGo] at g; rw [if_neg hpc25, if_pos hpc32, if_neg hpc45, if_neg hpc55, if_neg hpc62, if_pos hpc69] at g; exact g) hdc.1 (One.val rfl)
                · refine Goes.of (fun _ => XS.icmpNo X3.here hx rfl (hb hby d5_69) rfl (feq hpc69).1) ?_
                  show Goes p e below _ T3 (mkF m 72 #[.val (.ref a), .val (.int d), .val (.int q), .val (.int (Int32.ofNat k)), .val (.int c')] [])
                  refine Goes.of (fun _ => XS.iconst X3.here hx rfl (hb hby d5_72)) ?_
                  show Goes p e below _ T3 (mkF m 73 #[.val (.ref a), .val (.int d), .val (.int q), .val (.int (Int32.ofNat k)), .val (.int c')] [(.int (0 : Int32))])
                  exact retZ (t := .boolean) X3 hx hret hlk (by simp) (hb hby d5_73) eT3 (by decide) (by decide) ⟨by have g := hgo; simp only [plainGo] at g; rw [if_neg hpc25, if_pos hpc32, if_neg hpc45, if_neg hpc55, if_neg hpc62, if_neg hpc69] at g; rw [← g]; rfl, N0, rfl⟩
        · refine Goes.of (fun _ => XS.icmpNo X3.here hx rfl (hb hby d5_32) rfl (flt hpc32).2.2.1) ?_
          show Goes p e below _ T3 (mkF m 35 #[.val (.ref a), .val (.int d), .val (.int q), .val (.int (Int32.ofNat k)), .val (.int c')] [])
          refine Goes.of (fun _ => XS.iinc X3.here hx rfl (hb hby d5_35) rfl (l' := #[.val (.ref a), .val (.int (d + (1 : Int32))), .val (.int q), .val (.int (Int32.ofNat k)), .val (.int c')]) rfl) ?_
          show Goes p e below _ T3 (mkF m 38 #[.val (.ref a), .val (.int (d + (1 : Int32))), .val (.int q), .val (.int (Int32.ofNat k)), .val (.int c')] [])
          refine Goes.of (fun _ => XS.goto X3.here hx rfl (pc0 := 38) (pc' := 74) rfl (hb hby d5_38) (by decide) (by decide)) ?_
          show Goes p e below _ T3 (mkF m 74 #[.val (.ref a), .val (.int (d + (1 : Int32))), .val (.int q), .val (.int (Int32.ofNat k)), .val (.int c')] [])
          refine Goes.of (fun _ => XS.iinc X3.here hx rfl (hb hby d5_74) rfl (l' := #[.val (.ref a), .val (.int (d + (1 : Int32))), .val (.int q), .val (.int ((Int32.ofNat k) + (1 : Int32))), .val (.int c')]) rfl) ?_
          show Goes p e below _ T3 (mkF m 77 #[.val (.ref a), .val (.int (d + (1 : Int32))), .val (.int q), .val (.int ((Int32.ofNat k) + (1 : Int32))), .val (.int c')] [])
          refine Goes.of (fun _ => XS.goto X3.here hx rfl (pc0 := 77) (pc' := 6) rfl (hb hby d5_77) (by decide) (by decide)) ?_
          show Goes p e below _ T3 (mkF m 6 #[.val (.ref a), .val (.int (d + (1 : Int32))), .val (.int q), .val (.int ((Int32.ofNat k) + (1 : Int32))), .val (.int c')] [])
          rw [ofNat_add_one32 k]
          exact ih (k + 1) (d + (1 : Int32)) q _ _ X3 eT3 hdc.2.2 (by have g := hgo; simp only [plainGo] at g; rw [if_neg hpc25, if_neg hpc32] at g; exact g) hdc.1 (One.val rfl)
  refine Goes.cast (ef_5 m a) ?_
  show Goes p e below _ T (mkF m 0 #[.val (.ref a), .unset, .unset, .unset, .unset] [])
  refine Goes.of (fun _ => XS.iconst X.here hx rfl (hb hby d5_0)) ?_
  show Goes p e below _ T (mkF m 1 #[.val (.ref a), .unset, .unset, .unset, .unset] [(.int (0 : Int32))])
  refine Goes.of (fun _ => XS.istoreN X.here hx rfl (hb hby d5_1) rfl (l' := #[.val (.ref a), .val (.int (0 : Int32)), .unset, .unset, .unset]) rfl) ?_
  show Goes p e below _ T (mkF m 2 #[.val (.ref a), .val (.int (0 : Int32)), .unset, .unset, .unset] [])
  refine Goes.of (fun _ => XS.iconst X.here hx rfl (hb hby d5_2)) ?_
  show Goes p e below _ T (mkF m 3 #[.val (.ref a), .val (.int (0 : Int32)), .unset, .unset, .unset] [(.int (0 : Int32))])
  refine Goes.of (fun _ => XS.istoreN X.here hx rfl (hb hby d5_3) rfl (l' := #[.val (.ref a), .val (.int (0 : Int32)), .val (.int (0 : Int32)), .unset, .unset]) rfl) ?_
  show Goes p e below _ T (mkF m 4 #[.val (.ref a), .val (.int (0 : Int32)), .val (.int (0 : Int32)), .unset, .unset] [])
  refine Goes.of (fun _ => XS.iconst X.here hx rfl (hb hby d5_4)) ?_
  show Goes p e below _ T (mkF m 5 #[.val (.ref a), .val (.int (0 : Int32)), .val (.int (0 : Int32)), .unset, .unset] [(.int (0 : Int32))])
  refine Goes.of (fun _ => XS.istoreN X.here hx rfl (hb hby d5_5) rfl (l' := #[.val (.ref a), .val (.int (0 : Int32)), .val (.int (0 : Int32)), .val (.int (0 : Int32)), .unset]) rfl) ?_
  show Goes p e below _ T (mkF m 6 #[.val (.ref a), .val (.int (0 : Int32)), .val (.int (0 : Int32)), .val (.int (0 : Int32)), .unset] [])
  exact loop cs 0 _ _ _ _ X eT0 rfl rfl (Nat.zero_le _) One.u
set_option maxRecDepth 65536 in
set_option maxHeartbeats 40000000 in
theorem rm_dig (l : Launch) (Z : State) (a0 : Array Value) (hw : ∀ d ∈ tables_1, d.before a0 Z = true) (c : Int32) (h0 : Heap) (n0 : Nat) (O0 : Old Z n0 h0)  :
    Rm l (⟨"com/example/medianode/medianode/core/DecimalsIsPlainPinLaw", "dig", "(C)Z"⟩ : MethodName) method_4_code 1 (some .boolean) ({ frames := 0, cells := 0, slots := 0, locals := 0 } : Room) [] Z #[(.int c)] h0 (fun v h L => v = some (.int (digS c)) ∧ Fr n0 L ∧ h = h0) := by
  refine Rm.of (plainFor_of_name pn_com_example_medianode_medianode_core_DecimalsIsPlainPinLaw) ?_
  intro p e s m below meth cod T X hx hZ hby hml hown hnm hret hlk eT0
  have hown : s.vm.findClass "com/example/medianode/medianode/core/DecimalsIsPlainPinLaw" = some m.cls := hown
  have hnm : meth.name = "dig" := hnm
  have N0 := Fr.nil n0
  refine Goes.cast (ef_17 m c) ?_
  show Goes p e below _ T (mkF m 0 #[.val (.int c)] [])
  refine Goes.of (fun _ => XS.iloadN X.here hx rfl (hb hby d17_0) rfl) ?_
  show Goes p e below _ T (mkF m 1 #[.val (.int c)] [(.int c)])
  refine Goes.of (fun _ => XS.bipush X.here hx rfl (hb hby d17_1)) ?_
  show Goes p e below _ T (mkF m 3 #[.val (.int c)] [(.int (48 : Int32)), (.int c)])
  by_cases hpc3 : c < (48 : Int32)
  · refine Goes.of (fun _ => XS.icmpYes X.here hx rfl (pc0 := 3) (pc' := 16) rfl (hb hby d17_3) rfl (tlt hpc3).1 (by decide) (by decide)) ?_
    show Goes p e below _ T (mkF m 16 #[.val (.int c)] [])
    refine Goes.of (fun _ => XS.iconst X.here hx rfl (hb hby d17_16)) ?_
    show Goes p e below _ T (mkF m 17 #[.val (.int c)] [(.int (0 : Int32))])
    exact retZ (t := .boolean) X hx hret hlk (by simp) (hb hby d17_17) eT0 (by decide) (by decide) ⟨by unfold digS; rw [if_pos hpc3]; try first | rfl | (split <;> rfl), N0, rfl⟩
  · refine Goes.of (fun _ => XS.icmpNo X.here hx rfl (hb hby d17_3) rfl (flt hpc3).1) ?_
    show Goes p e below _ T (mkF m 6 #[.val (.int c)] [])
    refine Goes.of (fun _ => XS.iloadN X.here hx rfl (hb hby d17_6) rfl) ?_
    show Goes p e below _ T (mkF m 7 #[.val (.int c)] [(.int c)])
    refine Goes.of (fun _ => XS.bipush X.here hx rfl (hb hby d17_7)) ?_
    show Goes p e below _ T (mkF m 9 #[.val (.int c)] [(.int (57 : Int32)), (.int c)])
    by_cases hpc9 : (57 : Int32) < c
    · refine Goes.of (fun _ => XS.icmpYes X.here hx rfl (pc0 := 9) (pc' := 16) rfl (hb hby d17_9) rfl (tlt hpc9).2.2.1 (by decide) (by decide)) ?_
      show Goes p e below _ T (mkF m 16 #[.val (.int c)] [])
      refine Goes.of (fun _ => XS.iconst X.here hx rfl (hb hby d17_16)) ?_
      show Goes p e below _ T (mkF m 17 #[.val (.int c)] [(.int (0 : Int32))])
      exact retZ (t := .boolean) X hx hret hlk (by simp) (hb hby d17_17) eT0 (by decide) (by decide) ⟨by unfold digS; rw [if_neg hpc3, if_pos hpc9]; try first | rfl | (split <;> rfl), N0, rfl⟩
    · refine Goes.of (fun _ => XS.icmpNo X.here hx rfl (hb hby d17_9) rfl (flt hpc9).2.2.1) ?_
      show Goes p e below _ T (mkF m 12 #[.val (.int c)] [])
      refine Goes.of (fun _ => XS.iconst X.here hx rfl (hb hby d17_12)) ?_
      show Goes p e below _ T (mkF m 13 #[.val (.int c)] [(.int (1 : Int32))])
      refine Goes.of (fun _ => XS.goto X.here hx rfl (pc0 := 13) (pc' := 17) rfl (hb hby d17_13) (by decide) (by decide)) ?_
      show Goes p e below _ T (mkF m 17 #[.val (.int c)] [(.int (1 : Int32))])
      exact retZ (t := .boolean) X hx hret hlk (by simp) (hb hby d17_17) eT0 (by decide) (by decide) ⟨by unfold digS; rw [if_neg hpc3, if_neg hpc9]; try first | rfl | (split <;> rfl), N0, rfl⟩
set_option maxRecDepth 65536 in
set_option maxHeartbeats 40000000 in
theorem rm_body (l : Launch) (Z : State) (a0 : Array Value) (hw : ∀ d ∈ tables_1, d.before a0 Z = true) (c : Int32) (h0 : Heap) (n0 : Nat) (O0 : Old Z n0 h0)  :
    Rm l (⟨"com/example/medianode/medianode/core/DecimalsIsPlainPinLaw", "body", "(C)Z"⟩ : MethodName) method_5_code 1 (some .boolean) ({ frames := 1, cells := 0, slots := 0, locals := 12 } : Room) [] Z #[(.int c)] h0 (fun v h L => v = some (.int (bodyS c)) ∧ Fr n0 L ∧ h = h0) := by
  refine Rm.of (plainFor_of_name pn_com_example_medianode_medianode_core_DecimalsIsPlainPinLaw) ?_
  intro p e s m below meth cod T X hx hZ hby hml hown hnm hret hlk eT0
  have hown : s.vm.findClass "com/example/medianode/medianode/core/DecimalsIsPlainPinLaw" = some m.cls := hown
  have hnm : meth.name = "body" := hnm
  have N0 := Fr.nil n0
  refine Goes.cast (ef_18 m c) ?_
  show Goes p e below _ T (mkF m 0 #[.val (.int c)] [])
  refine Goes.of (fun _ => XS.iloadN X.here hx rfl (hb hby d18_0) rfl) ?_
  show Goes p e below _ T (mkF m 1 #[.val (.int c)] [(.int c)])
  refine goStatic 0 X hx hZ hown (hw _ (List.mem_of_getElem? (i := 77) rfl)) (hw _ (List.mem_of_getElem? (i := 78) rfl)) (hw _ (List.mem_of_getElem? (i := 3) rfl)) (hw _ (List.mem_of_getElem? (i := 79) rfl)) (by decide) (rm_dig l Z a0 hw c h0 n0 O0) eT0 (g := (mkF m 1 #[.val (.int c)] [(.int c)])) rfl (by rw [hml]; rfl) [(.int c)] [] (lenOf pd__C_Z rfl) rfl rfl (by show 2 * 0 + _ ≤ _; exact Nat.le_of_eq rfl) (hb hby d18_1) (by decide) (by decide) (by decide) (by decide) ?_
  intro v1 T1 L1 X1 q1
  obtain ⟨rfl, Nq1, eT1⟩ := q1
  have N1 := Fr.app N0 Nq1
  show Goes p e below _ T1 (mkF m 4 #[.val (.int c)] [(.int (digS c))])
  by_cases hpc4 : (digS c) = (0 : Int32)
  · refine Goes.of (fun _ => XS.ifNo X1.here hx rfl (hb hby d18_4) rfl ((if0 _ _).trans (teq hpc4).2)) ?_
    show Goes p e below _ T1 (mkF m 7 #[.val (.int c)] [])
    refine Goes.of (fun _ => XS.iloadN X1.here hx rfl (hb hby d18_7) rfl) ?_
    show Goes p e below _ T1 (mkF m 8 #[.val (.int c)] [(.int c)])
    refine Goes.of (fun _ => XS.bipush X1.here hx rfl (hb hby d18_8)) ?_
    show Goes p e below _ T1 (mkF m 10 #[.val (.int c)] [(.int (46 : Int32)), (.int c)])
    by_cases hpc10 : c = (46 : Int32)
    · refine Goes.of (fun _ => XS.icmpNo X1.here hx rfl (hb hby d18_10) rfl (teq hpc10).2) ?_
      show Goes p e below _ T1 (mkF m 13 #[.val (.int c)] [])
      refine Goes.of (fun _ => XS.iconst X1.here hx rfl (hb hby d18_13)) ?_
      show Goes p e below _ T1 (mkF m 14 #[.val (.int c)] [(.int (1 : Int32))])
      refine Goes.of (fun _ => XS.goto X1.here hx rfl (pc0 := 14) (pc' := 18) rfl (hb hby d18_14) (by decide) (by decide)) ?_
      show Goes p e below _ T1 (mkF m 18 #[.val (.int c)] [(.int (1 : Int32))])
      exact retZ (t := .boolean) X1 hx hret hlk (by simp) (hb hby d18_18) eT1 (by decide) (by decide) ⟨by unfold bodyS; rw [if_pos hpc4, if_pos hpc10]; try first | rfl | (split <;> rfl), N1, rfl⟩
    · refine Goes.of (fun _ => XS.icmpYes X1.here hx rfl (pc0 := 10) (pc' := 17) rfl (hb hby d18_10) rfl (feq hpc10).2 (by decide) (by decide)) ?_
      show Goes p e below _ T1 (mkF m 17 #[.val (.int c)] [])
      refine Goes.of (fun _ => XS.iconst X1.here hx rfl (hb hby d18_17)) ?_
      show Goes p e below _ T1 (mkF m 18 #[.val (.int c)] [(.int (0 : Int32))])
      exact retZ (t := .boolean) X1 hx hret hlk (by simp) (hb hby d18_18) eT1 (by decide) (by decide) ⟨by unfold bodyS; rw [if_pos hpc4, if_neg hpc10]; try first | rfl | (split <;> rfl), N1, rfl⟩
  · refine Goes.of (fun _ => XS.ifYes X1.here hx rfl (pc0 := 4) (pc' := 13) rfl (hb hby d18_4) rfl ((if0 _ _).trans (feq hpc4).2) (by decide) (by decide)) ?_
    show Goes p e below _ T1 (mkF m 13 #[.val (.int c)] [])
    refine Goes.of (fun _ => XS.iconst X1.here hx rfl (hb hby d18_13)) ?_
    show Goes p e below _ T1 (mkF m 14 #[.val (.int c)] [(.int (1 : Int32))])
    refine Goes.of (fun _ => XS.goto X1.here hx rfl (pc0 := 14) (pc' := 18) rfl (hb hby d18_14) (by decide) (by decide)) ?_
    show Goes p e below _ T1 (mkF m 18 #[.val (.int c)] [(.int (1 : Int32))])
    exact retZ (t := .boolean) X1 hx hret hlk (by simp) (hb hby d18_18) eT1 (by decide) (by decide) ⟨by unfold bodyS; rw [if_neg hpc4]; try first | rfl | (split <;> rfl), N1, rfl⟩
set_option maxRecDepth 65536 in
set_option maxHeartbeats 40000000 in
theorem rm_one (l : Launch) (Z : State) (a0 : Array Value) (hw : ∀ d ∈ tables_1, d.before a0 Z = true) (b : Int32) (h0 : Heap) (n0 : Nat) (O0 : Old Z n0 h0)  :
    Rm l (⟨"com/example/medianode/medianode/core/DecimalsIsPlainPinLaw", "one", "(Z)I"⟩ : MethodName) method_6_code 1 (some .int) ({ frames := 0, cells := 0, slots := 0, locals := 0 } : Room) [] Z #[(.int b)] h0 (fun v h L => v = some (.int (if b = (0 : Int32) then (0 : Int32) else (1 : Int32))) ∧ Fr n0 L ∧ h = h0) := by
  refine Rm.of (plainFor_of_name pn_com_example_medianode_medianode_core_DecimalsIsPlainPinLaw) ?_
  intro p e s m below meth cod T X hx hZ hby hml hown hnm hret hlk eT0
  have hown : s.vm.findClass "com/example/medianode/medianode/core/DecimalsIsPlainPinLaw" = some m.cls := hown
  have hnm : meth.name = "one" := hnm
  have N0 := Fr.nil n0
  refine Goes.cast (ef_8 m b) ?_
  show Goes p e below _ T (mkF m 0 #[.val (.int b)] [])
  refine Goes.of (fun _ => XS.iloadN X.here hx rfl (hb hby d8_0) rfl) ?_
  show Goes p e below _ T (mkF m 1 #[.val (.int b)] [(.int b)])
  by_cases hpc1 : b = (0 : Int32)
  · refine Goes.of (fun _ => XS.ifYes X.here hx rfl (pc0 := 1) (pc' := 8) rfl (hb hby d8_1) rfl ((if0 _ _).trans (teq hpc1).1) (by decide) (by decide)) ?_
    show Goes p e below _ T (mkF m 8 #[.val (.int b)] [])
    refine Goes.of (fun _ => XS.iconst X.here hx rfl (hb hby d8_8)) ?_
    show Goes p e below _ T (mkF m 9 #[.val (.int b)] [(.int (0 : Int32))])
    exact retInt X hx hret hlk (hb hby d8_9) eT0 (by decide) (by decide) ⟨by rw [if_pos hpc1]; try first | rfl | (split <;> rfl), N0, rfl⟩
  · refine Goes.of (fun _ => XS.ifNo X.here hx rfl (hb hby d8_1) rfl ((if0 _ _).trans (feq hpc1).1)) ?_
    show Goes p e below _ T (mkF m 4 #[.val (.int b)] [])
    refine Goes.of (fun _ => XS.iconst X.here hx rfl (hb hby d8_4)) ?_
    show Goes p e below _ T (mkF m 5 #[.val (.int b)] [(.int (1 : Int32))])
    refine Goes.of (fun _ => XS.goto X.here hx rfl (pc0 := 5) (pc' := 9) rfl (hb hby d8_5) (by decide) (by decide)) ?_
    show Goes p e below _ T (mkF m 9 #[.val (.int b)] [(.int (1 : Int32))])
    exact retInt X hx hret hlk (hb hby d8_9) eT0 (by decide) (by decide) ⟨by rw [if_neg hpc1]; try first | rfl | (split <;> rfl), N0, rfl⟩
set_option maxRecDepth 65536 in
set_option maxHeartbeats 40000000 in
theorem rm_law (l : Launch) (Z : State) (a0 : Array Value) (hw : ∀ d ∈ tables_1, d.before a0 Z = true) (ws : List Jvm.Cond) (p1 p2 p3 p4 p5 : Int32) (cz : Int32) (fm : Value) (h0 : Heap) (n0 : Nat) (O0 : Old Z n0 h0) (Sc : Sta Z Z.heap "java/lang/String" "COMPACT_STRINGS" "Z" (.int cz)) (hcz : ¬ cz = 0) (Sf : Sta Z Z.heap "jdk/internal/util/Preconditions" "SIOOBE_FORMATTER" "Ljava/util/function/BiFunction;" fm) (hfm : fm.isRef = true) :
    RmH l x code maxLocals ret room_1 ws Z EL #[(.int p1), (.int p2), (.int p3), (.int p4), (.int p5)] h0 (fun v h L => v = some (.int 1) ∧ Fr n0 L) := by
  refine RmH.of (plainFor_of_name pn_com_example_medianode_medianode_core_DecimalsIsPlainPinLaw) ?_
  intro p e s m below meth cod T X hx hZ hby hml hown hnm hret hlk eT0 hS hk HC
  have hEL := hELof hw
  have wS := wSof hw
  have hown : s.vm.findClass "com/example/medianode/medianode/core/DecimalsIsPlainPinLaw" = some m.cls := hown
  have hnm : meth.name = "law" := hnm
  have N0 := Fr.nil n0
  refine Goes.cast (ef_0 m p1 p2 p3 p4 p5) ?_
  show Goes p e below _ T (mkF m 0 #[.val (.int p1), .val (.int p2), .val (.int p3), .val (.int p4), .val (.int p5), .unset, .unset, .unset, .unset, .unset, .unset, .unset, .unset, .unset, .unset, .unset] [])
  refine Goes.of (fun _ => XS.iloadN X.here hx rfl (hb hby at_0) rfl) ?_
  show Goes p e below _ T (mkF m 1 #[.val (.int p1), .val (.int p2), .val (.int p3), .val (.int p4), .val (.int p5), .unset, .unset, .unset, .unset, .unset, .unset, .unset, .unset, .unset, .unset, .unset] [(.int p1)])
  refine Goes.of (fun _ => X.ldcInt hx hown (mvT hZ (hw _ (List.mem_of_getElem? (i := 0) rfl))) (g := (mkF m 1 #[.val (.int p1), .val (.int p2), .val (.int p3), .val (.int p4), .val (.int p5), .unset, .unset, .unset, .unset, .unset, .unset, .unset, .unset, .unset, .unset, .unset] [(.int p1)])) rfl (hb hby at_1) _) ?_
  show Goes p e below _ T (mkF m 3 #[.val (.int p1), .val (.int p2), .val (.int p3), .val (.int p4), .val (.int p5), .unset, .unset, .unset, .unset, .unset, .unset, .unset, .unset, .unset, .unset, .unset] [(.int (2147483647 : Int32)), (.int p1)])
  refine Goes.of (fun _ => XS.iand X.here hx rfl (hb hby at_3) rfl) ?_
  show Goes p e below _ T (mkF m 4 #[.val (.int p1), .val (.int p2), .val (.int p3), .val (.int p4), .val (.int p5), .unset, .unset, .unset, .unset, .unset, .unset, .unset, .unset, .unset, .unset, .unset] [(.int (p1 &&& (2147483647 : Int32)))])
  refine Goes.of (fun _ => XS.iconst X.here hx rfl (hb hby at_4)) ?_
  show Goes p e below _ T (mkF m 5 #[.val (.int p1), .val (.int p2), .val (.int p3), .val (.int p4), .val (.int p5), .unset, .unset, .unset, .unset, .unset, .unset, .unset, .unset, .unset, .unset, .unset] [(.int (5 : Int32)), (.int (p1 &&& (2147483647 : Int32)))])
  refine Goes.of (fun _ => XS.irem X.here hx rfl (hb hby at_5) rfl (by decide)) ?_
  show Goes p e below _ T (mkF m 6 #[.val (.int p1), .val (.int p2), .val (.int p3), .val (.int p4), .val (.int p5), .unset, .unset, .unset, .unset, .unset, .unset, .unset, .unset, .unset, .unset, .unset] [(.int ((p1 &&& (2147483647 : Int32)) - ((p1 &&& (2147483647 : Int32)) / (5 : Int32)) * (5 : Int32)))])
  refine Goes.of (fun _ => XS.istore X.here hx rfl (hb hby at_6) rfl (l' := #[.val (.int p1), .val (.int p2), .val (.int p3), .val (.int p4), .val (.int p5), .val (.int ((p1 &&& (2147483647 : Int32)) - ((p1 &&& (2147483647 : Int32)) / (5 : Int32)) * (5 : Int32))), .unset, .unset, .unset, .unset, .unset, .unset, .unset, .unset, .unset, .unset]) rfl) ?_
  show Goes p e below _ T (mkF m 8 #[.val (.int p1), .val (.int p2), .val (.int p3), .val (.int p4), .val (.int p5), .val (.int ((p1 &&& (2147483647 : Int32)) - ((p1 &&& (2147483647 : Int32)) / (5 : Int32)) * (5 : Int32))), .unset, .unset, .unset, .unset, .unset, .unset, .unset, .unset, .unset, .unset] [])
  refine Goes.of (fun _ => XS.iloadN X.here hx rfl (hb hby at_8) rfl) ?_
  show Goes p e below _ T (mkF m 9 #[.val (.int p1), .val (.int p2), .val (.int p3), .val (.int p4), .val (.int p5), .val (.int ((p1 &&& (2147483647 : Int32)) - ((p1 &&& (2147483647 : Int32)) / (5 : Int32)) * (5 : Int32))), .unset, .unset, .unset, .unset, .unset, .unset, .unset, .unset, .unset, .unset] [(.int p2)])
  refine goStaticW 0 X hS hk hEL HC hx hZ hown (hw _ (List.mem_of_getElem? (i := 1) rfl)) (hw _ (List.mem_of_getElem? (i := 2) rfl)) (hw _ (List.mem_of_getElem? (i := 3) rfl)) (hw _ (List.mem_of_getElem? (i := 4) rfl)) (by decide) (rm_pick l Z a0 hw p2 cz fm h0 n0 O0 Sc hcz Sf hfm) eT0 (g := (mkF m 9 #[.val (.int p1), .val (.int p2), .val (.int p3), .val (.int p4), .val (.int p5), .val (.int ((p1 &&& (2147483647 : Int32)) - ((p1 &&& (2147483647 : Int32)) / (5 : Int32)) * (5 : Int32))), .unset, .unset, .unset, .unset, .unset, .unset, .unset, .unset, .unset, .unset] [(.int p2)])) rfl (by rw [hml]; rfl) [(.int p2)] [] (lenOf pd__I_C rfl) rfl rfl (by show 2 * 0 + _ ≤ _; exact Nat.le_of_eq rfl) (hb hby at_9) (by decide) (by decide) (by decide) (by decide) ?_
  intro v1 T1 L1 kk1 X1 hS hk hZ hown HC q1
  obtain ⟨cc1, rfl, Nq1, Kq1, hcc1⟩ := q1
  have N1 := Fr.app N0 Nq1
  have O0 := O0.keep Kq1 all0
  show Goes p e below _ T1 (mkF m 12 #[.val (.int p1), .val (.int p2), .val (.int p3), .val (.int p4), .val (.int p5), .val (.int ((p1 &&& (2147483647 : Int32)) - ((p1 &&& (2147483647 : Int32)) / (5 : Int32)) * (5 : Int32))), .unset, .unset, .unset, .unset, .unset, .unset, .unset, .unset, .unset, .unset] [(.int cc1)])
  refine Goes.of (fun _ => XS.istore X1.here hx rfl (hb hby at_12) rfl (l' := #[.val (.int p1), .val (.int p2), .val (.int p3), .val (.int p4), .val (.int p5), .val (.int ((p1 &&& (2147483647 : Int32)) - ((p1 &&& (2147483647 : Int32)) / (5 : Int32)) * (5 : Int32))), .val (.int cc1), .unset, .unset, .unset, .unset, .unset, .unset, .unset, .unset, .unset]) rfl) ?_
  show Goes p e below _ T1 (mkF m 14 #[.val (.int p1), .val (.int p2), .val (.int p3), .val (.int p4), .val (.int p5), .val (.int ((p1 &&& (2147483647 : Int32)) - ((p1 &&& (2147483647 : Int32)) / (5 : Int32)) * (5 : Int32))), .val (.int cc1), .unset, .unset, .unset, .unset, .unset, .unset, .unset, .unset, .unset] [])
  refine Goes.of (fun _ => XS.iloadN X1.here hx rfl (hb hby at_14) rfl) ?_
  show Goes p e below _ T1 (mkF m 15 #[.val (.int p1), .val (.int p2), .val (.int p3), .val (.int p4), .val (.int p5), .val (.int ((p1 &&& (2147483647 : Int32)) - ((p1 &&& (2147483647 : Int32)) / (5 : Int32)) * (5 : Int32))), .val (.int cc1), .unset, .unset, .unset, .unset, .unset, .unset, .unset, .unset, .unset] [(.int p3)])
  refine goStaticW 0 X1 hS hk hEL HC hx hZ hown (hw _ (List.mem_of_getElem? (i := 1) rfl)) (hw _ (List.mem_of_getElem? (i := 2) rfl)) (hw _ (List.mem_of_getElem? (i := 3) rfl)) (hw _ (List.mem_of_getElem? (i := 4) rfl)) (by decide) (rm_pick l Z a0 hw p3 cz fm T1.heap n0 O0 Sc hcz Sf hfm) (rfl : T1.heap = _) (g := (mkF m 15 #[.val (.int p1), .val (.int p2), .val (.int p3), .val (.int p4), .val (.int p5), .val (.int ((p1 &&& (2147483647 : Int32)) - ((p1 &&& (2147483647 : Int32)) / (5 : Int32)) * (5 : Int32))), .val (.int cc1), .unset, .unset, .unset, .unset, .unset, .unset, .unset, .unset, .unset] [(.int p3)])) rfl (by rw [hml]; rfl) [(.int p3)] [] (lenOf pd__I_C rfl) rfl rfl (by show 2 * 0 + _ ≤ _; exact Nat.le_of_eq rfl) (hb hby at_15) (by decide) (by decide) (by decide) (by decide) ?_
  intro v2 T2 L2 kk2 X2 hS hk hZ hown HC q2
  obtain ⟨cc2, rfl, Nq2, Kq2, hcc2⟩ := q2
  have N2 := Fr.app N1 Nq2
  have O0 := O0.keep Kq2 all0
  show Goes p e below _ T2 (mkF m 18 #[.val (.int p1), .val (.int p2), .val (.int p3), .val (.int p4), .val (.int p5), .val (.int ((p1 &&& (2147483647 : Int32)) - ((p1 &&& (2147483647 : Int32)) / (5 : Int32)) * (5 : Int32))), .val (.int cc1), .unset, .unset, .unset, .unset, .unset, .unset, .unset, .unset, .unset] [(.int cc2)])
  refine Goes.of (fun _ => XS.istore X2.here hx rfl (hb hby at_18) rfl (l' := #[.val (.int p1), .val (.int p2), .val (.int p3), .val (.int p4), .val (.int p5), .val (.int ((p1 &&& (2147483647 : Int32)) - ((p1 &&& (2147483647 : Int32)) / (5 : Int32)) * (5 : Int32))), .val (.int cc1), .val (.int cc2), .unset, .unset, .unset, .unset, .unset, .unset, .unset, .unset]) rfl) ?_
  show Goes p e below _ T2 (mkF m 20 #[.val (.int p1), .val (.int p2), .val (.int p3), .val (.int p4), .val (.int p5), .val (.int ((p1 &&& (2147483647 : Int32)) - ((p1 &&& (2147483647 : Int32)) / (5 : Int32)) * (5 : Int32))), .val (.int cc1), .val (.int cc2), .unset, .unset, .unset, .unset, .unset, .unset, .unset, .unset] [])
  refine Goes.of (fun _ => XS.iloadN X2.here hx rfl (hb hby at_20) rfl) ?_
  show Goes p e below _ T2 (mkF m 21 #[.val (.int p1), .val (.int p2), .val (.int p3), .val (.int p4), .val (.int p5), .val (.int ((p1 &&& (2147483647 : Int32)) - ((p1 &&& (2147483647 : Int32)) / (5 : Int32)) * (5 : Int32))), .val (.int cc1), .val (.int cc2), .unset, .unset, .unset, .unset, .unset, .unset, .unset, .unset] [(.int p4)])
  refine goStaticW 0 X2 hS hk hEL HC hx hZ hown (hw _ (List.mem_of_getElem? (i := 1) rfl)) (hw _ (List.mem_of_getElem? (i := 2) rfl)) (hw _ (List.mem_of_getElem? (i := 3) rfl)) (hw _ (List.mem_of_getElem? (i := 4) rfl)) (by decide) (rm_pick l Z a0 hw p4 cz fm T2.heap n0 O0 Sc hcz Sf hfm) (rfl : T2.heap = _) (g := (mkF m 21 #[.val (.int p1), .val (.int p2), .val (.int p3), .val (.int p4), .val (.int p5), .val (.int ((p1 &&& (2147483647 : Int32)) - ((p1 &&& (2147483647 : Int32)) / (5 : Int32)) * (5 : Int32))), .val (.int cc1), .val (.int cc2), .unset, .unset, .unset, .unset, .unset, .unset, .unset, .unset] [(.int p4)])) rfl (by rw [hml]; rfl) [(.int p4)] [] (lenOf pd__I_C rfl) rfl rfl (by show 2 * 0 + _ ≤ _; exact Nat.le_of_eq rfl) (hb hby at_21) (by decide) (by decide) (by decide) (by decide) ?_
  intro v3 T3 L3 kk3 X3 hS hk hZ hown HC q3
  obtain ⟨cc3, rfl, Nq3, Kq3, hcc3⟩ := q3
  have N3 := Fr.app N2 Nq3
  have O0 := O0.keep Kq3 all0
  show Goes p e below _ T3 (mkF m 24 #[.val (.int p1), .val (.int p2), .val (.int p3), .val (.int p4), .val (.int p5), .val (.int ((p1 &&& (2147483647 : Int32)) - ((p1 &&& (2147483647 : Int32)) / (5 : Int32)) * (5 : Int32))), .val (.int cc1), .val (.int cc2), .unset, .unset, .unset, .unset, .unset, .unset, .unset, .unset] [(.int cc3)])
  refine Goes.of (fun _ => XS.istore X3.here hx rfl (hb hby at_24) rfl (l' := #[.val (.int p1), .val (.int p2), .val (.int p3), .val (.int p4), .val (.int p5), .val (.int ((p1 &&& (2147483647 : Int32)) - ((p1 &&& (2147483647 : Int32)) / (5 : Int32)) * (5 : Int32))), .val (.int cc1), .val (.int cc2), .val (.int cc3), .unset, .unset, .unset, .unset, .unset, .unset, .unset]) rfl) ?_
  show Goes p e below _ T3 (mkF m 26 #[.val (.int p1), .val (.int p2), .val (.int p3), .val (.int p4), .val (.int p5), .val (.int ((p1 &&& (2147483647 : Int32)) - ((p1 &&& (2147483647 : Int32)) / (5 : Int32)) * (5 : Int32))), .val (.int cc1), .val (.int cc2), .val (.int cc3), .unset, .unset, .unset, .unset, .unset, .unset, .unset] [])
  refine Goes.of (fun _ => XS.iload X3.here hx rfl (hb hby at_26) rfl) ?_
  show Goes p e below _ T3 (mkF m 28 #[.val (.int p1), .val (.int p2), .val (.int p3), .val (.int p4), .val (.int p5), .val (.int ((p1 &&& (2147483647 : Int32)) - ((p1 &&& (2147483647 : Int32)) / (5 : Int32)) * (5 : Int32))), .val (.int cc1), .val (.int cc2), .val (.int cc3), .unset, .unset, .unset, .unset, .unset, .unset, .unset] [(.int p5)])
  refine goStaticW 0 X3 hS hk hEL HC hx hZ hown (hw _ (List.mem_of_getElem? (i := 1) rfl)) (hw _ (List.mem_of_getElem? (i := 2) rfl)) (hw _ (List.mem_of_getElem? (i := 3) rfl)) (hw _ (List.mem_of_getElem? (i := 4) rfl)) (by decide) (rm_pick l Z a0 hw p5 cz fm T3.heap n0 O0 Sc hcz Sf hfm) (rfl : T3.heap = _) (g := (mkF m 28 #[.val (.int p1), .val (.int p2), .val (.int p3), .val (.int p4), .val (.int p5), .val (.int ((p1 &&& (2147483647 : Int32)) - ((p1 &&& (2147483647 : Int32)) / (5 : Int32)) * (5 : Int32))), .val (.int cc1), .val (.int cc2), .val (.int cc3), .unset, .unset, .unset, .unset, .unset, .unset, .unset] [(.int p5)])) rfl (by rw [hml]; rfl) [(.int p5)] [] (lenOf pd__I_C rfl) rfl rfl (by show 2 * 0 + _ ≤ _; exact Nat.le_of_eq rfl) (hb hby at_28) (by decide) (by decide) (by decide) (by decide) ?_
  intro v4 T4 L4 kk4 X4 hS hk hZ hown HC q4
  obtain ⟨cc4, rfl, Nq4, Kq4, hcc4⟩ := q4
  have N4 := Fr.app N3 Nq4
  have O0 := O0.keep Kq4 all0
  show Goes p e below _ T4 (mkF m 31 #[.val (.int p1), .val (.int p2), .val (.int p3), .val (.int p4), .val (.int p5), .val (.int ((p1 &&& (2147483647 : Int32)) - ((p1 &&& (2147483647 : Int32)) / (5 : Int32)) * (5 : Int32))), .val (.int cc1), .val (.int cc2), .val (.int cc3), .unset, .unset, .unset, .unset, .unset, .unset, .unset] [(.int cc4)])
  refine Goes.of (fun _ => XS.istore X4.here hx rfl (hb hby at_31) rfl (l' := #[.val (.int p1), .val (.int p2), .val (.int p3), .val (.int p4), .val (.int p5), .val (.int ((p1 &&& (2147483647 : Int32)) - ((p1 &&& (2147483647 : Int32)) / (5 : Int32)) * (5 : Int32))), .val (.int cc1), .val (.int cc2), .val (.int cc3), .val (.int cc4), .unset, .unset, .unset, .unset, .unset, .unset]) rfl) ?_
  show Goes p e below _ T4 (mkF m 33 #[.val (.int p1), .val (.int p2), .val (.int p3), .val (.int p4), .val (.int p5), .val (.int ((p1 &&& (2147483647 : Int32)) - ((p1 &&& (2147483647 : Int32)) / (5 : Int32)) * (5 : Int32))), .val (.int cc1), .val (.int cc2), .val (.int cc3), .val (.int cc4), .unset, .unset, .unset, .unset, .unset, .unset] [])
  generalize en : ((p1 &&& (2147483647 : Int32)) - ((p1 &&& (2147483647 : Int32)) / (5 : Int32)) * (5 : Int32)) = n
  show Goes p e below _ T4 (mkF m 33 #[.val (.int p1), .val (.int p2), .val (.int p3), .val (.int p4), .val (.int p5), .val (.int n), .val (.int cc1), .val (.int cc2), .val (.int cc3), .val (.int cc4), .unset, .unset, .unset, .unset, .unset, .unset] [])
  have hn5 := c5 n (by rw [← en, rem31 _ _ (k := 5) rfl]; omega) (by rw [← en, rem31 _ _ (k := 5) rfl]; omega)
  rcases hn5 with rfl | rfl | rfl | rfl | rfl
  · show Goes p e below _ T4 (mkF m 33 #[.val (.int p1), .val (.int p2), .val (.int p3), .val (.int p4), .val (.int p5), .val (.int (0 : Int32)), .val (.int cc1), .val (.int cc2), .val (.int cc3), .val (.int cc4), .unset, .unset, .unset, .unset, .unset, .unset] [])
    refine Goes.of (fun _ => XS.iload X4.here hx rfl (hb hby at_33) rfl) ?_
    show Goes p e below _ T4 (mkF m 35 #[.val (.int p1), .val (.int p2), .val (.int p3), .val (.int p4), .val (.int p5), .val (.int (0 : Int32)), .val (.int cc1), .val (.int cc2), .val (.int cc3), .val (.int cc4), .unset, .unset, .unset, .unset, .unset, .unset] [(.int (0 : Int32))])
    refine Goes.of (fun _ => XS.ifNo X4.here hx rfl (hb hby at_35) rfl ((if0 _ _).trans (teq (by decide)).2)) ?_
    show Goes p e below _ T4 (mkF m 38 #[.val (.int p1), .val (.int p2), .val (.int p3), .val (.int p4), .val (.int p5), .val (.int (0 : Int32)), .val (.int cc1), .val (.int cc2), .val (.int cc3), .val (.int cc4), .unset, .unset, .unset, .unset, .unset, .unset] [])
    refine goNew X4 hx hZ hown (hw _ (List.mem_of_getElem? (i := 5) rfl)) (hw _ (List.mem_of_getElem? (i := 6) rfl)) (hw _ (List.mem_of_getElem? (i := 7) rfl)) (rfl : T4.heap = _) (g := (mkF m 38 #[.val (.int p1), .val (.int p2), .val (.int p3), .val (.int p4), .val (.int p5), .val (.int (0 : Int32)), .val (.int cc1), .val (.int cc2), .val (.int cc3), .val (.int cc4), .unset, .unset, .unset, .unset, .unset, .unset] [])) rfl (hb hby at_38) (by decide) (by decide) ?_
    intro T5 h5 b5 X5 eT5 E5 hb5 A5 D5
    have g_b5 : n0 ≤ b5 := Nat.le_trans (oldLe O0) hb5
    have hk := Nat.le_trans hk E5.1
    have HC := HC.trans (CHr.ext E5 HC.1)
    have O0 := O0.ext E5
    have F5_value : Fld Z h5 b5 "java/lang/String" "value" "[B" .null := D5 (Or.inr (hw _ (List.mem_of_getElem? (i := 21) rfl))) (ty := (.array .byte)) (by decide)
    have F5_coder : Fld Z h5 b5 "java/lang/String" "coder" "B" (.int (0 : Int32)) := D5 (Or.inr (hw _ (List.mem_of_getElem? (i := 22) rfl))) (ty := .byte) (by decide)
    show Goes p e below _ T5 (mkF m 41 #[.val (.int p1), .val (.int p2), .val (.int p3), .val (.int p4), .val (.int p5), .val (.int (0 : Int32)), .val (.int cc1), .val (.int cc2), .val (.int cc3), .val (.int cc4), .unset, .unset, .unset, .unset, .unset, .unset] [(.ref b5)])
    refine Goes.of (fun _ => XS.dup X5.here hx rfl (hb hby at_41) rfl rfl) ?_
    show Goes p e below _ T5 (mkF m 42 #[.val (.int p1), .val (.int p2), .val (.int p3), .val (.int p4), .val (.int p5), .val (.int (0 : Int32)), .val (.int cc1), .val (.int cc2), .val (.int cc3), .val (.int cc4), .unset, .unset, .unset, .unset, .unset, .unset] [(.ref b5), (.ref b5)])
    refine Goes.of (fun _ => XS.iconst X5.here hx rfl (hb hby at_42)) ?_
    show Goes p e below _ T5 (mkF m 43 #[.val (.int p1), .val (.int p2), .val (.int p3), .val (.int p4), .val (.int p5), .val (.int (0 : Int32)), .val (.int cc1), .val (.int cc2), .val (.int cc3), .val (.int cc4), .unset, .unset, .unset, .unset, .unset, .unset] [(.int (0 : Int32)), (.ref b5), (.ref b5)])
    refine goNewP 0 X5 hx hZ (hw _ (List.mem_of_getElem? (i := 8) rfl)) eT5 (g := (mkF m 43 #[.val (.int p1), .val (.int p2), .val (.int p3), .val (.int p4), .val (.int p5), .val (.int (0 : Int32)), .val (.int cc1), .val (.int cc2), .val (.int cc3), .val (.int cc4), .unset, .unset, .unset, .unset, .unset, .unset] [(.int (0 : Int32)), (.ref b5), (.ref b5)])) rfl (hb hby at_43) rfl (by decide) (by decide) (by decide) (by decide) (by decide) (ad := "[C") (by first | rfl | decide) ?_
    intro T6 h6 b6 kA6 X6 eT6 E6 hb6 V6 A6
    have g_b6 : n0 ≤ b6 := Nat.le_trans (oldLe O0) hb6
    have ne_b5_b6 : b5 ≠ b6 := Nat.ne_of_lt (Nat.lt_of_lt_of_le A5.lt hb6)
    have A5 := A5.ext E6
    have F5_value := F5_value.ext E6
    have F5_coder := F5_coder.ext E6
    have hk := Nat.le_trans hk E6.1
    have HC := HC.trans (CHr.ext E6 HC.1)
    have O0 := O0.ext E6
    have V6 : Arv Z h6 b6 kA6 .char (0 : Int32) [] (.int (0 : Int32)) := V6
    show Goes p e below _ T6 (mkF m 45 #[.val (.int p1), .val (.int p2), .val (.int p3), .val (.int p4), .val (.int p5), .val (.int (0 : Int32)), .val (.int cc1), .val (.int cc2), .val (.int cc3), .val (.int cc4), .unset, .unset, .unset, .unset, .unset, .unset] [(.ref b6), (.ref b5), (.ref b5)])
    refine goSpecialW 1 X6 hS hk hEL HC hx hZ rfl hown (hw _ (List.mem_of_getElem? (i := 9) rfl)) (hw _ (List.mem_of_getElem? (i := 10) rfl)) (hw _ (List.mem_of_getElem? (i := 7) rfl)) (hw _ (List.mem_of_getElem? (i := 11) rfl)) (by decide) (rm_sinit0 l Z a0 hw b5 b6 _ _ _ h6 n0 O0 g_b5 A5 F5_value F5_coder ne_b5_b6 V6) eT6 (g := (mkF m 45 #[.val (.int p1), .val (.int p2), .val (.int p3), .val (.int p4), .val (.int p5), .val (.int (0 : Int32)), .val (.int cc1), .val (.int cc2), .val (.int cc3), .val (.int cc4), .unset, .unset, .unset, .unset, .unset, .unset] [(.ref b6), (.ref b5), (.ref b5)])) rfl (by rw [hml]; rfl) b5 [(.ref b6)] [(.ref b5)] (lenOf pd___C_V rfl) rfl rfl (by show 2 * 0 + _ ≤ _; exact Nat.le_of_eq rfl) (hb hby at_45) (by decide) (by decide) (by decide) (by decide) ?_
    intro v7 T7 L7 kk7 X7 hS hk hZ hown HC q7
    obtain ⟨rfl, Nq7, Kq7, Ss7⟩ := q7
    have N7 := Fr.app N4 Nq7
    have A5 := A5.keep Kq7
    have V6 := V6.keep Kq7 (ninS (Ne.symm ne_b5_b6) nin0)
    have A6 := A6.keep Kq7
    have O0 := O0.keep Kq7 (allS g_b5 all0)
    show Goes p e below _ T7 (mkF m 48 #[.val (.int p1), .val (.int p2), .val (.int p3), .val (.int p4), .val (.int p5), .val (.int (0 : Int32)), .val (.int cc1), .val (.int cc2), .val (.int cc3), .val (.int cc4), .unset, .unset, .unset, .unset, .unset, .unset] [(.ref b5)])
    refine Goes.of (fun _ => XS.astore X7.here hx rfl (hb hby at_48) rfl rfl (l' := #[.val (.int p1), .val (.int p2), .val (.int p3), .val (.int p4), .val (.int p5), .val (.int (0 : Int32)), .val (.int cc1), .val (.int cc2), .val (.int cc3), .val (.int cc4), .val (.ref b5), .unset, .unset, .unset, .unset, .unset]) rfl) ?_
    show Goes p e below _ T7 (mkF m 50 #[.val (.int p1), .val (.int p2), .val (.int p3), .val (.int p4), .val (.int p5), .val (.int (0 : Int32)), .val (.int cc1), .val (.int cc2), .val (.int cc3), .val (.int cc4), .val (.ref b5), .unset, .unset, .unset, .unset, .unset] [])
    refine Goes.of (fun _ => XS.goto X7.here hx rfl (pc0 := 50) (pc' := 178) rfl (hb hby at_50) (by decide) (by decide)) ?_
    show Goes p e below _ T7 (mkF m 178 #[.val (.int p1), .val (.int p2), .val (.int p3), .val (.int p4), .val (.int p5), .val (.int (0 : Int32)), .val (.int cc1), .val (.int cc2), .val (.int cc3), .val (.int cc4), .val (.ref b5), .unset, .unset, .unset, .unset, .unset] [])
    refine Goes.of (fun _ => XS.aload X7.here hx rfl (hb hby at_178) rfl rfl) ?_
    show Goes p e below _ T7 (mkF m 180 #[.val (.int p1), .val (.int p2), .val (.int p3), .val (.int p4), .val (.int p5), .val (.int (0 : Int32)), .val (.int cc1), .val (.int cc2), .val (.int cc3), .val (.int cc4), .val (.ref b5), .unset, .unset, .unset, .unset, .unset] [(.ref b5)])
    refine goStatic 0 X7 hx hZ hown (hw _ (List.mem_of_getElem? (i := 27) rfl)) (hw _ (List.mem_of_getElem? (i := 28) rfl)) (hw _ (List.mem_of_getElem? (i := 29) rfl)) (hw _ (List.mem_of_getElem? (i := 30) rfl)) (by decide) (rm_plain l Z a0 hw b5 ([] : List Int32) cz fm T7.heap n0 O0 Sc hcz Sf hfm Ss7 (fun _ q => nomatch q)) (rfl : T7.heap = _) (g := (mkF m 180 #[.val (.int p1), .val (.int p2), .val (.int p3), .val (.int p4), .val (.int p5), .val (.int (0 : Int32)), .val (.int cc1), .val (.int cc2), .val (.int cc3), .val (.int cc4), .val (.ref b5), .unset, .unset, .unset, .unset, .unset] [(.ref b5)])) rfl (by rw [hml]; rfl) [(.ref b5)] [] (lenOf pd__Ljava_lang_String__Z rfl) rfl rfl (by show 2 * 0 + _ ≤ _; exact Nat.le_of_eq rfl) (hb hby at_180) (by decide) (by decide) (by decide) (by decide) ?_
    intro v8 T8 L8 X8 q8
    obtain ⟨rfl, Nq8, eT8⟩ := q8
    have N8 := Fr.app N7 Nq8
    show Goes p e below _ T8 (mkF m 183 #[.val (.int p1), .val (.int p2), .val (.int p3), .val (.int p4), .val (.int p5), .val (.int (0 : Int32)), .val (.int cc1), .val (.int cc2), .val (.int cc3), .val (.int cc4), .val (.ref b5), .unset, .unset, .unset, .unset, .unset] [(.int (plainGo 0 (0 : Int32) (0 : Int32) ([] : List Int32)))])
    refine Goes.of (fun _ => XS.istore X8.here hx rfl (hb hby at_183) rfl (l' := #[.val (.int p1), .val (.int p2), .val (.int p3), .val (.int p4), .val (.int p5), .val (.int (0 : Int32)), .val (.int cc1), .val (.int cc2), .val (.int cc3), .val (.int cc4), .val (.ref b5), .val (.int (plainGo 0 (0 : Int32) (0 : Int32) ([] : List Int32))), .unset, .unset, .unset, .unset]) rfl) ?_
    show Goes p e below _ T8 (mkF m 185 #[.val (.int p1), .val (.int p2), .val (.int p3), .val (.int p4), .val (.int p5), .val (.int (0 : Int32)), .val (.int cc1), .val (.int cc2), .val (.int cc3), .val (.int cc4), .val (.ref b5), .val (.int (plainGo 0 (0 : Int32) (0 : Int32) ([] : List Int32))), .unset, .unset, .unset, .unset] [])
    generalize egt : (plainGo 0 (0 : Int32) (0 : Int32) ([] : List Int32)) = gt
    show Goes p e below _ T8 (mkF m 185 #[.val (.int p1), .val (.int p2), .val (.int p3), .val (.int p4), .val (.int p5), .val (.int (0 : Int32)), .val (.int cc1), .val (.int cc2), .val (.int cc3), .val (.int cc4), .val (.ref b5), .val (.int gt), .unset, .unset, .unset, .unset] [])
    refine Goes.of (fun _ => XS.iload X8.here hx rfl (hb hby at_185) rfl) ?_
    show Goes p e below _ T8 (mkF m 187 #[.val (.int p1), .val (.int p2), .val (.int p3), .val (.int p4), .val (.int p5), .val (.int (0 : Int32)), .val (.int cc1), .val (.int cc2), .val (.int cc3), .val (.int cc4), .val (.ref b5), .val (.int gt), .unset, .unset, .unset, .unset] [(.int (0 : Int32))])
    refine Goes.of (fun _ => XS.ifYes X8.here hx rfl (pc0 := 187) (pc' := 202) rfl (hb hby at_187) rfl ((if0 _ _).trans (flt (by decide)).2.2.2) (by decide) (by decide)) ?_
    show Goes p e below _ T8 (mkF m 202 #[.val (.int p1), .val (.int p2), .val (.int p3), .val (.int p4), .val (.int p5), .val (.int (0 : Int32)), .val (.int cc1), .val (.int cc2), .val (.int cc3), .val (.int cc4), .val (.ref b5), .val (.int gt), .unset, .unset, .unset, .unset] [])
    refine Goes.of (fun _ => XS.iconst X8.here hx rfl (hb hby at_202)) ?_
    show Goes p e below _ T8 (mkF m 203 #[.val (.int p1), .val (.int p2), .val (.int p3), .val (.int p4), .val (.int p5), .val (.int (0 : Int32)), .val (.int cc1), .val (.int cc2), .val (.int cc3), .val (.int cc4), .val (.ref b5), .val (.int gt), .unset, .unset, .unset, .unset] [(.int (0 : Int32))])
    refine goStatic 0 X8 hx hZ hown (hw _ (List.mem_of_getElem? (i := 42) rfl)) (hw _ (List.mem_of_getElem? (i := 43) rfl)) (hw _ (List.mem_of_getElem? (i := 3) rfl)) (hw _ (List.mem_of_getElem? (i := 44) rfl)) (by decide) (rm_one l Z a0 hw (0 : Int32) T7.heap n0 O0) eT8 (g := (mkF m 203 #[.val (.int p1), .val (.int p2), .val (.int p3), .val (.int p4), .val (.int p5), .val (.int (0 : Int32)), .val (.int cc1), .val (.int cc2), .val (.int cc3), .val (.int cc4), .val (.ref b5), .val (.int gt), .unset, .unset, .unset, .unset] [(.int (0 : Int32))])) rfl (by rw [hml]; rfl) [(.int (0 : Int32))] [] (lenOf pd__Z_I rfl) rfl rfl (by show 2 * 0 + _ ≤ _; exact Nat.le_of_eq rfl) (hb hby at_203) (by decide) (by decide) (by decide) (by decide) ?_
    intro v9 T9 L9 X9 q9
    obtain ⟨rfl, Nq9, eT9⟩ := q9
    have N9 := Fr.app N8 Nq9
    show Goes p e below _ T9 (mkF m 206 #[.val (.int p1), .val (.int p2), .val (.int p3), .val (.int p4), .val (.int p5), .val (.int (0 : Int32)), .val (.int cc1), .val (.int cc2), .val (.int cc3), .val (.int cc4), .val (.ref b5), .val (.int gt), .unset, .unset, .unset, .unset] [(.int (if (0 : Int32) = (0 : Int32) then (0 : Int32) else (1 : Int32)))])
    generalize eo1 : (if (0 : Int32) = (0 : Int32) then (0 : Int32) else (1 : Int32)) = o1
    show Goes p e below _ T9 (mkF m 206 #[.val (.int p1), .val (.int p2), .val (.int p3), .val (.int p4), .val (.int p5), .val (.int (0 : Int32)), .val (.int cc1), .val (.int cc2), .val (.int cc3), .val (.int cc4), .val (.ref b5), .val (.int gt), .unset, .unset, .unset, .unset] [(.int o1)])
    refine Goes.of (fun _ => XS.iload X9.here hx rfl (hb hby at_206) rfl) ?_
    show Goes p e below _ T9 (mkF m 208 #[.val (.int p1), .val (.int p2), .val (.int p3), .val (.int p4), .val (.int p5), .val (.int (0 : Int32)), .val (.int cc1), .val (.int cc2), .val (.int cc3), .val (.int cc4), .val (.ref b5), .val (.int gt), .unset, .unset, .unset, .unset] [(.int (0 : Int32)), (.int o1)])
    refine Goes.of (fun _ => XS.iconst X9.here hx rfl (hb hby at_208)) ?_
    show Goes p e below _ T9 (mkF m 209 #[.val (.int p1), .val (.int p2), .val (.int p3), .val (.int p4), .val (.int p5), .val (.int (0 : Int32)), .val (.int cc1), .val (.int cc2), .val (.int cc3), .val (.int cc4), .val (.ref b5), .val (.int gt), .unset, .unset, .unset, .unset] [(.int (1 : Int32)), (.int (0 : Int32)), (.int o1)])
    refine Goes.of (fun _ => XS.icmpYes X9.here hx rfl (pc0 := 209) (pc' := 224) rfl (hb hby at_209) rfl (flt (by decide)).2.2.2 (by decide) (by decide)) ?_
    show Goes p e below _ T9 (mkF m 224 #[.val (.int p1), .val (.int p2), .val (.int p3), .val (.int p4), .val (.int p5), .val (.int (0 : Int32)), .val (.int cc1), .val (.int cc2), .val (.int cc3), .val (.int cc4), .val (.ref b5), .val (.int gt), .unset, .unset, .unset, .unset] [(.int o1)])
    refine Goes.of (fun _ => XS.iconst X9.here hx rfl (hb hby at_224)) ?_
    show Goes p e below _ T9 (mkF m 225 #[.val (.int p1), .val (.int p2), .val (.int p3), .val (.int p4), .val (.int p5), .val (.int (0 : Int32)), .val (.int cc1), .val (.int cc2), .val (.int cc3), .val (.int cc4), .val (.ref b5), .val (.int gt), .unset, .unset, .unset, .unset] [(.int (0 : Int32)), (.int o1)])
    refine goStatic 1 X9 hx hZ hown (hw _ (List.mem_of_getElem? (i := 42) rfl)) (hw _ (List.mem_of_getElem? (i := 43) rfl)) (hw _ (List.mem_of_getElem? (i := 3) rfl)) (hw _ (List.mem_of_getElem? (i := 44) rfl)) (by decide) (rm_one l Z a0 hw (0 : Int32) T7.heap n0 O0) eT9 (g := (mkF m 225 #[.val (.int p1), .val (.int p2), .val (.int p3), .val (.int p4), .val (.int p5), .val (.int (0 : Int32)), .val (.int cc1), .val (.int cc2), .val (.int cc3), .val (.int cc4), .val (.ref b5), .val (.int gt), .unset, .unset, .unset, .unset] [(.int (0 : Int32)), (.int o1)])) rfl (by rw [hml]; rfl) [(.int (0 : Int32))] [(.int o1)] (lenOf pd__Z_I rfl) rfl rfl (by show 2 * 0 + _ ≤ _; exact Nat.le_of_eq rfl) (hb hby at_225) (by decide) (by decide) (by decide) (by decide) ?_
    intro v10 T10 L10 X10 q10
    obtain ⟨rfl, Nq10, eT10⟩ := q10
    have N10 := Fr.app N9 Nq10
    show Goes p e below _ T10 (mkF m 228 #[.val (.int p1), .val (.int p2), .val (.int p3), .val (.int p4), .val (.int p5), .val (.int (0 : Int32)), .val (.int cc1), .val (.int cc2), .val (.int cc3), .val (.int cc4), .val (.ref b5), .val (.int gt), .unset, .unset, .unset, .unset] [(.int (if (0 : Int32) = (0 : Int32) then (0 : Int32) else (1 : Int32))), (.int o1)])
    generalize eo2 : (if (0 : Int32) = (0 : Int32) then (0 : Int32) else (1 : Int32)) = o2
    show Goes p e below _ T10 (mkF m 228 #[.val (.int p1), .val (.int p2), .val (.int p3), .val (.int p4), .val (.int p5), .val (.int (0 : Int32)), .val (.int cc1), .val (.int cc2), .val (.int cc3), .val (.int cc4), .val (.ref b5), .val (.int gt), .unset, .unset, .unset, .unset] [(.int o2), (.int o1)])
    refine Goes.of (fun _ => XS.iadd X10.here hx rfl (hb hby at_228) rfl) ?_
    show Goes p e below _ T10 (mkF m 229 #[.val (.int p1), .val (.int p2), .val (.int p3), .val (.int p4), .val (.int p5), .val (.int (0 : Int32)), .val (.int cc1), .val (.int cc2), .val (.int cc3), .val (.int cc4), .val (.ref b5), .val (.int gt), .unset, .unset, .unset, .unset] [(.int (o1 + o2))])
    refine Goes.of (fun _ => XS.iload X10.here hx rfl (hb hby at_229) rfl) ?_
    show Goes p e below _ T10 (mkF m 231 #[.val (.int p1), .val (.int p2), .val (.int p3), .val (.int p4), .val (.int p5), .val (.int (0 : Int32)), .val (.int cc1), .val (.int cc2), .val (.int cc3), .val (.int cc4), .val (.ref b5), .val (.int gt), .unset, .unset, .unset, .unset] [(.int (0 : Int32)), (.int (o1 + o2))])
    refine Goes.of (fun _ => XS.iconst X10.here hx rfl (hb hby at_231)) ?_
    show Goes p e below _ T10 (mkF m 232 #[.val (.int p1), .val (.int p2), .val (.int p3), .val (.int p4), .val (.int p5), .val (.int (0 : Int32)), .val (.int cc1), .val (.int cc2), .val (.int cc3), .val (.int cc4), .val (.ref b5), .val (.int gt), .unset, .unset, .unset, .unset] [(.int (2 : Int32)), (.int (0 : Int32)), (.int (o1 + o2))])
    refine Goes.of (fun _ => XS.icmpYes X10.here hx rfl (pc0 := 232) (pc' := 247) rfl (hb hby at_232) rfl (flt (by decide)).2.2.2 (by decide) (by decide)) ?_
    show Goes p e below _ T10 (mkF m 247 #[.val (.int p1), .val (.int p2), .val (.int p3), .val (.int p4), .val (.int p5), .val (.int (0 : Int32)), .val (.int cc1), .val (.int cc2), .val (.int cc3), .val (.int cc4), .val (.ref b5), .val (.int gt), .unset, .unset, .unset, .unset] [(.int (o1 + o2))])
    refine Goes.of (fun _ => XS.iconst X10.here hx rfl (hb hby at_247)) ?_
    show Goes p e below _ T10 (mkF m 248 #[.val (.int p1), .val (.int p2), .val (.int p3), .val (.int p4), .val (.int p5), .val (.int (0 : Int32)), .val (.int cc1), .val (.int cc2), .val (.int cc3), .val (.int cc4), .val (.ref b5), .val (.int gt), .unset, .unset, .unset, .unset] [(.int (0 : Int32)), (.int (o1 + o2))])
    refine goStatic 1 X10 hx hZ hown (hw _ (List.mem_of_getElem? (i := 42) rfl)) (hw _ (List.mem_of_getElem? (i := 43) rfl)) (hw _ (List.mem_of_getElem? (i := 3) rfl)) (hw _ (List.mem_of_getElem? (i := 44) rfl)) (by decide) (rm_one l Z a0 hw (0 : Int32) T7.heap n0 O0) eT10 (g := (mkF m 248 #[.val (.int p1), .val (.int p2), .val (.int p3), .val (.int p4), .val (.int p5), .val (.int (0 : Int32)), .val (.int cc1), .val (.int cc2), .val (.int cc3), .val (.int cc4), .val (.ref b5), .val (.int gt), .unset, .unset, .unset, .unset] [(.int (0 : Int32)), (.int (o1 + o2))])) rfl (by rw [hml]; rfl) [(.int (0 : Int32))] [(.int (o1 + o2))] (lenOf pd__Z_I rfl) rfl rfl (by show 2 * 0 + _ ≤ _; exact Nat.le_of_eq rfl) (hb hby at_248) (by decide) (by decide) (by decide) (by decide) ?_
    intro v11 T11 L11 X11 q11
    obtain ⟨rfl, Nq11, eT11⟩ := q11
    have N11 := Fr.app N10 Nq11
    show Goes p e below _ T11 (mkF m 251 #[.val (.int p1), .val (.int p2), .val (.int p3), .val (.int p4), .val (.int p5), .val (.int (0 : Int32)), .val (.int cc1), .val (.int cc2), .val (.int cc3), .val (.int cc4), .val (.ref b5), .val (.int gt), .unset, .unset, .unset, .unset] [(.int (if (0 : Int32) = (0 : Int32) then (0 : Int32) else (1 : Int32))), (.int (o1 + o2))])
    generalize eo3 : (if (0 : Int32) = (0 : Int32) then (0 : Int32) else (1 : Int32)) = o3
    show Goes p e below _ T11 (mkF m 251 #[.val (.int p1), .val (.int p2), .val (.int p3), .val (.int p4), .val (.int p5), .val (.int (0 : Int32)), .val (.int cc1), .val (.int cc2), .val (.int cc3), .val (.int cc4), .val (.ref b5), .val (.int gt), .unset, .unset, .unset, .unset] [(.int o3), (.int (o1 + o2))])
    refine Goes.of (fun _ => XS.iadd X11.here hx rfl (hb hby at_251) rfl) ?_
    show Goes p e below _ T11 (mkF m 252 #[.val (.int p1), .val (.int p2), .val (.int p3), .val (.int p4), .val (.int p5), .val (.int (0 : Int32)), .val (.int cc1), .val (.int cc2), .val (.int cc3), .val (.int cc4), .val (.ref b5), .val (.int gt), .unset, .unset, .unset, .unset] [(.int ((o1 + o2) + o3))])
    refine Goes.of (fun _ => XS.iload X11.here hx rfl (hb hby at_252) rfl) ?_
    show Goes p e below _ T11 (mkF m 254 #[.val (.int p1), .val (.int p2), .val (.int p3), .val (.int p4), .val (.int p5), .val (.int (0 : Int32)), .val (.int cc1), .val (.int cc2), .val (.int cc3), .val (.int cc4), .val (.ref b5), .val (.int gt), .unset, .unset, .unset, .unset] [(.int (0 : Int32)), (.int ((o1 + o2) + o3))])
    refine Goes.of (fun _ => XS.iconst X11.here hx rfl (hb hby at_254)) ?_
    show Goes p e below _ T11 (mkF m 255 #[.val (.int p1), .val (.int p2), .val (.int p3), .val (.int p4), .val (.int p5), .val (.int (0 : Int32)), .val (.int cc1), .val (.int cc2), .val (.int cc3), .val (.int cc4), .val (.ref b5), .val (.int gt), .unset, .unset, .unset, .unset] [(.int (3 : Int32)), (.int (0 : Int32)), (.int ((o1 + o2) + o3))])
    refine Goes.of (fun _ => XS.icmpYes X11.here hx rfl (pc0 := 255) (pc' := 270) rfl (hb hby at_255) rfl (flt (by decide)).2.2.2 (by decide) (by decide)) ?_
    show Goes p e below _ T11 (mkF m 270 #[.val (.int p1), .val (.int p2), .val (.int p3), .val (.int p4), .val (.int p5), .val (.int (0 : Int32)), .val (.int cc1), .val (.int cc2), .val (.int cc3), .val (.int cc4), .val (.ref b5), .val (.int gt), .unset, .unset, .unset, .unset] [(.int ((o1 + o2) + o3))])
    refine Goes.of (fun _ => XS.iconst X11.here hx rfl (hb hby at_270)) ?_
    show Goes p e below _ T11 (mkF m 271 #[.val (.int p1), .val (.int p2), .val (.int p3), .val (.int p4), .val (.int p5), .val (.int (0 : Int32)), .val (.int cc1), .val (.int cc2), .val (.int cc3), .val (.int cc4), .val (.ref b5), .val (.int gt), .unset, .unset, .unset, .unset] [(.int (0 : Int32)), (.int ((o1 + o2) + o3))])
    refine goStatic 1 X11 hx hZ hown (hw _ (List.mem_of_getElem? (i := 42) rfl)) (hw _ (List.mem_of_getElem? (i := 43) rfl)) (hw _ (List.mem_of_getElem? (i := 3) rfl)) (hw _ (List.mem_of_getElem? (i := 44) rfl)) (by decide) (rm_one l Z a0 hw (0 : Int32) T7.heap n0 O0) eT11 (g := (mkF m 271 #[.val (.int p1), .val (.int p2), .val (.int p3), .val (.int p4), .val (.int p5), .val (.int (0 : Int32)), .val (.int cc1), .val (.int cc2), .val (.int cc3), .val (.int cc4), .val (.ref b5), .val (.int gt), .unset, .unset, .unset, .unset] [(.int (0 : Int32)), (.int ((o1 + o2) + o3))])) rfl (by rw [hml]; rfl) [(.int (0 : Int32))] [(.int ((o1 + o2) + o3))] (lenOf pd__Z_I rfl) rfl rfl (by show 2 * 0 + _ ≤ _; exact Nat.le_of_eq rfl) (hb hby at_271) (by decide) (by decide) (by decide) (by decide) ?_
    intro v12 T12 L12 X12 q12
    obtain ⟨rfl, Nq12, eT12⟩ := q12
    have N12 := Fr.app N11 Nq12
    show Goes p e below _ T12 (mkF m 274 #[.val (.int p1), .val (.int p2), .val (.int p3), .val (.int p4), .val (.int p5), .val (.int (0 : Int32)), .val (.int cc1), .val (.int cc2), .val (.int cc3), .val (.int cc4), .val (.ref b5), .val (.int gt), .unset, .unset, .unset, .unset] [(.int (if (0 : Int32) = (0 : Int32) then (0 : Int32) else (1 : Int32))), (.int ((o1 + o2) + o3))])
    generalize eo4 : (if (0 : Int32) = (0 : Int32) then (0 : Int32) else (1 : Int32)) = o4
    show Goes p e below _ T12 (mkF m 274 #[.val (.int p1), .val (.int p2), .val (.int p3), .val (.int p4), .val (.int p5), .val (.int (0 : Int32)), .val (.int cc1), .val (.int cc2), .val (.int cc3), .val (.int cc4), .val (.ref b5), .val (.int gt), .unset, .unset, .unset, .unset] [(.int o4), (.int ((o1 + o2) + o3))])
    refine Goes.of (fun _ => XS.iadd X12.here hx rfl (hb hby at_274) rfl) ?_
    show Goes p e below _ T12 (mkF m 275 #[.val (.int p1), .val (.int p2), .val (.int p3), .val (.int p4), .val (.int p5), .val (.int (0 : Int32)), .val (.int cc1), .val (.int cc2), .val (.int cc3), .val (.int cc4), .val (.ref b5), .val (.int gt), .unset, .unset, .unset, .unset] [(.int (((o1 + o2) + o3) + o4))])
    refine Goes.of (fun _ => XS.istore X12.here hx rfl (hb hby at_275) rfl (l' := #[.val (.int p1), .val (.int p2), .val (.int p3), .val (.int p4), .val (.int p5), .val (.int (0 : Int32)), .val (.int cc1), .val (.int cc2), .val (.int cc3), .val (.int cc4), .val (.ref b5), .val (.int gt), .val (.int (((o1 + o2) + o3) + o4)), .unset, .unset, .unset]) rfl) ?_
    show Goes p e below _ T12 (mkF m 277 #[.val (.int p1), .val (.int p2), .val (.int p3), .val (.int p4), .val (.int p5), .val (.int (0 : Int32)), .val (.int cc1), .val (.int cc2), .val (.int cc3), .val (.int cc4), .val (.ref b5), .val (.int gt), .val (.int (((o1 + o2) + o3) + o4)), .unset, .unset, .unset] [])
    generalize edg : (((o1 + o2) + o3) + o4) = dg
    show Goes p e below _ T12 (mkF m 277 #[.val (.int p1), .val (.int p2), .val (.int p3), .val (.int p4), .val (.int p5), .val (.int (0 : Int32)), .val (.int cc1), .val (.int cc2), .val (.int cc3), .val (.int cc4), .val (.ref b5), .val (.int gt), .val (.int dg), .unset, .unset, .unset] [])
    refine Goes.of (fun _ => XS.iload X12.here hx rfl (hb hby at_277) rfl) ?_
    show Goes p e below _ T12 (mkF m 279 #[.val (.int p1), .val (.int p2), .val (.int p3), .val (.int p4), .val (.int p5), .val (.int (0 : Int32)), .val (.int cc1), .val (.int cc2), .val (.int cc3), .val (.int cc4), .val (.ref b5), .val (.int gt), .val (.int dg), .unset, .unset, .unset] [(.int (0 : Int32))])
    refine Goes.of (fun _ => XS.ifYes X12.here hx rfl (pc0 := 279) (pc' := 293) rfl (hb hby at_279) rfl ((if0 _ _).trans (flt (by decide)).2.2.2) (by decide) (by decide)) ?_
    show Goes p e below _ T12 (mkF m 293 #[.val (.int p1), .val (.int p2), .val (.int p3), .val (.int p4), .val (.int p5), .val (.int (0 : Int32)), .val (.int cc1), .val (.int cc2), .val (.int cc3), .val (.int cc4), .val (.ref b5), .val (.int gt), .val (.int dg), .unset, .unset, .unset] [])
    refine Goes.of (fun _ => XS.iconst X12.here hx rfl (hb hby at_293)) ?_
    show Goes p e below _ T12 (mkF m 294 #[.val (.int p1), .val (.int p2), .val (.int p3), .val (.int p4), .val (.int p5), .val (.int (0 : Int32)), .val (.int cc1), .val (.int cc2), .val (.int cc3), .val (.int cc4), .val (.ref b5), .val (.int gt), .val (.int dg), .unset, .unset, .unset] [(.int (0 : Int32))])
    refine goStatic 0 X12 hx hZ hown (hw _ (List.mem_of_getElem? (i := 42) rfl)) (hw _ (List.mem_of_getElem? (i := 43) rfl)) (hw _ (List.mem_of_getElem? (i := 3) rfl)) (hw _ (List.mem_of_getElem? (i := 44) rfl)) (by decide) (rm_one l Z a0 hw (0 : Int32) T7.heap n0 O0) eT12 (g := (mkF m 294 #[.val (.int p1), .val (.int p2), .val (.int p3), .val (.int p4), .val (.int p5), .val (.int (0 : Int32)), .val (.int cc1), .val (.int cc2), .val (.int cc3), .val (.int cc4), .val (.ref b5), .val (.int gt), .val (.int dg), .unset, .unset, .unset] [(.int (0 : Int32))])) rfl (by rw [hml]; rfl) [(.int (0 : Int32))] [] (lenOf pd__Z_I rfl) rfl rfl (by show 2 * 0 + _ ≤ _; exact Nat.le_of_eq rfl) (hb hby at_294) (by decide) (by decide) (by decide) (by decide) ?_
    intro v13 T13 L13 X13 q13
    obtain ⟨rfl, Nq13, eT13⟩ := q13
    have N13 := Fr.app N12 Nq13
    show Goes p e below _ T13 (mkF m 297 #[.val (.int p1), .val (.int p2), .val (.int p3), .val (.int p4), .val (.int p5), .val (.int (0 : Int32)), .val (.int cc1), .val (.int cc2), .val (.int cc3), .val (.int cc4), .val (.ref b5), .val (.int gt), .val (.int dg), .unset, .unset, .unset] [(.int (if (0 : Int32) = (0 : Int32) then (0 : Int32) else (1 : Int32)))])
    generalize er1 : (if (0 : Int32) = (0 : Int32) then (0 : Int32) else (1 : Int32)) = r1
    show Goes p e below _ T13 (mkF m 297 #[.val (.int p1), .val (.int p2), .val (.int p3), .val (.int p4), .val (.int p5), .val (.int (0 : Int32)), .val (.int cc1), .val (.int cc2), .val (.int cc3), .val (.int cc4), .val (.ref b5), .val (.int gt), .val (.int dg), .unset, .unset, .unset] [(.int r1)])
    refine Goes.of (fun _ => XS.iload X13.here hx rfl (hb hby at_297) rfl) ?_
    show Goes p e below _ T13 (mkF m 299 #[.val (.int p1), .val (.int p2), .val (.int p3), .val (.int p4), .val (.int p5), .val (.int (0 : Int32)), .val (.int cc1), .val (.int cc2), .val (.int cc3), .val (.int cc4), .val (.ref b5), .val (.int gt), .val (.int dg), .unset, .unset, .unset] [(.int (0 : Int32)), (.int r1)])
    refine Goes.of (fun _ => XS.iconst X13.here hx rfl (hb hby at_299)) ?_
    show Goes p e below _ T13 (mkF m 300 #[.val (.int p1), .val (.int p2), .val (.int p3), .val (.int p4), .val (.int p5), .val (.int (0 : Int32)), .val (.int cc1), .val (.int cc2), .val (.int cc3), .val (.int cc4), .val (.ref b5), .val (.int gt), .val (.int dg), .unset, .unset, .unset] [(.int (1 : Int32)), (.int (0 : Int32)), (.int r1)])
    refine Goes.of (fun _ => XS.icmpYes X13.here hx rfl (pc0 := 300) (pc' := 314) rfl (hb hby at_300) rfl (flt (by decide)).2.2.2 (by decide) (by decide)) ?_
    show Goes p e below _ T13 (mkF m 314 #[.val (.int p1), .val (.int p2), .val (.int p3), .val (.int p4), .val (.int p5), .val (.int (0 : Int32)), .val (.int cc1), .val (.int cc2), .val (.int cc3), .val (.int cc4), .val (.ref b5), .val (.int gt), .val (.int dg), .unset, .unset, .unset] [(.int r1)])
    refine Goes.of (fun _ => XS.iconst X13.here hx rfl (hb hby at_314)) ?_
    show Goes p e below _ T13 (mkF m 315 #[.val (.int p1), .val (.int p2), .val (.int p3), .val (.int p4), .val (.int p5), .val (.int (0 : Int32)), .val (.int cc1), .val (.int cc2), .val (.int cc3), .val (.int cc4), .val (.ref b5), .val (.int gt), .val (.int dg), .unset, .unset, .unset] [(.int (0 : Int32)), (.int r1)])
    refine goStatic 1 X13 hx hZ hown (hw _ (List.mem_of_getElem? (i := 42) rfl)) (hw _ (List.mem_of_getElem? (i := 43) rfl)) (hw _ (List.mem_of_getElem? (i := 3) rfl)) (hw _ (List.mem_of_getElem? (i := 44) rfl)) (by decide) (rm_one l Z a0 hw (0 : Int32) T7.heap n0 O0) eT13 (g := (mkF m 315 #[.val (.int p1), .val (.int p2), .val (.int p3), .val (.int p4), .val (.int p5), .val (.int (0 : Int32)), .val (.int cc1), .val (.int cc2), .val (.int cc3), .val (.int cc4), .val (.ref b5), .val (.int gt), .val (.int dg), .unset, .unset, .unset] [(.int (0 : Int32)), (.int r1)])) rfl (by rw [hml]; rfl) [(.int (0 : Int32))] [(.int r1)] (lenOf pd__Z_I rfl) rfl rfl (by show 2 * 0 + _ ≤ _; exact Nat.le_of_eq rfl) (hb hby at_315) (by decide) (by decide) (by decide) (by decide) ?_
    intro v14 T14 L14 X14 q14
    obtain ⟨rfl, Nq14, eT14⟩ := q14
    have N14 := Fr.app N13 Nq14
    show Goes p e below _ T14 (mkF m 318 #[.val (.int p1), .val (.int p2), .val (.int p3), .val (.int p4), .val (.int p5), .val (.int (0 : Int32)), .val (.int cc1), .val (.int cc2), .val (.int cc3), .val (.int cc4), .val (.ref b5), .val (.int gt), .val (.int dg), .unset, .unset, .unset] [(.int (if (0 : Int32) = (0 : Int32) then (0 : Int32) else (1 : Int32))), (.int r1)])
    generalize er2 : (if (0 : Int32) = (0 : Int32) then (0 : Int32) else (1 : Int32)) = r2
    show Goes p e below _ T14 (mkF m 318 #[.val (.int p1), .val (.int p2), .val (.int p3), .val (.int p4), .val (.int p5), .val (.int (0 : Int32)), .val (.int cc1), .val (.int cc2), .val (.int cc3), .val (.int cc4), .val (.ref b5), .val (.int gt), .val (.int dg), .unset, .unset, .unset] [(.int r2), (.int r1)])
    refine Goes.of (fun _ => XS.iadd X14.here hx rfl (hb hby at_318) rfl) ?_
    show Goes p e below _ T14 (mkF m 319 #[.val (.int p1), .val (.int p2), .val (.int p3), .val (.int p4), .val (.int p5), .val (.int (0 : Int32)), .val (.int cc1), .val (.int cc2), .val (.int cc3), .val (.int cc4), .val (.ref b5), .val (.int gt), .val (.int dg), .unset, .unset, .unset] [(.int (r1 + r2))])
    refine Goes.of (fun _ => XS.iload X14.here hx rfl (hb hby at_319) rfl) ?_
    show Goes p e below _ T14 (mkF m 321 #[.val (.int p1), .val (.int p2), .val (.int p3), .val (.int p4), .val (.int p5), .val (.int (0 : Int32)), .val (.int cc1), .val (.int cc2), .val (.int cc3), .val (.int cc4), .val (.ref b5), .val (.int gt), .val (.int dg), .unset, .unset, .unset] [(.int (0 : Int32)), (.int (r1 + r2))])
    refine Goes.of (fun _ => XS.iconst X14.here hx rfl (hb hby at_321)) ?_
    show Goes p e below _ T14 (mkF m 322 #[.val (.int p1), .val (.int p2), .val (.int p3), .val (.int p4), .val (.int p5), .val (.int (0 : Int32)), .val (.int cc1), .val (.int cc2), .val (.int cc3), .val (.int cc4), .val (.ref b5), .val (.int gt), .val (.int dg), .unset, .unset, .unset] [(.int (2 : Int32)), (.int (0 : Int32)), (.int (r1 + r2))])
    refine Goes.of (fun _ => XS.icmpYes X14.here hx rfl (pc0 := 322) (pc' := 336) rfl (hb hby at_322) rfl (flt (by decide)).2.2.2 (by decide) (by decide)) ?_
    show Goes p e below _ T14 (mkF m 336 #[.val (.int p1), .val (.int p2), .val (.int p3), .val (.int p4), .val (.int p5), .val (.int (0 : Int32)), .val (.int cc1), .val (.int cc2), .val (.int cc3), .val (.int cc4), .val (.ref b5), .val (.int gt), .val (.int dg), .unset, .unset, .unset] [(.int (r1 + r2))])
    refine Goes.of (fun _ => XS.iconst X14.here hx rfl (hb hby at_336)) ?_
    show Goes p e below _ T14 (mkF m 337 #[.val (.int p1), .val (.int p2), .val (.int p3), .val (.int p4), .val (.int p5), .val (.int (0 : Int32)), .val (.int cc1), .val (.int cc2), .val (.int cc3), .val (.int cc4), .val (.ref b5), .val (.int gt), .val (.int dg), .unset, .unset, .unset] [(.int (0 : Int32)), (.int (r1 + r2))])
    refine goStatic 1 X14 hx hZ hown (hw _ (List.mem_of_getElem? (i := 42) rfl)) (hw _ (List.mem_of_getElem? (i := 43) rfl)) (hw _ (List.mem_of_getElem? (i := 3) rfl)) (hw _ (List.mem_of_getElem? (i := 44) rfl)) (by decide) (rm_one l Z a0 hw (0 : Int32) T7.heap n0 O0) eT14 (g := (mkF m 337 #[.val (.int p1), .val (.int p2), .val (.int p3), .val (.int p4), .val (.int p5), .val (.int (0 : Int32)), .val (.int cc1), .val (.int cc2), .val (.int cc3), .val (.int cc4), .val (.ref b5), .val (.int gt), .val (.int dg), .unset, .unset, .unset] [(.int (0 : Int32)), (.int (r1 + r2))])) rfl (by rw [hml]; rfl) [(.int (0 : Int32))] [(.int (r1 + r2))] (lenOf pd__Z_I rfl) rfl rfl (by show 2 * 0 + _ ≤ _; exact Nat.le_of_eq rfl) (hb hby at_337) (by decide) (by decide) (by decide) (by decide) ?_
    intro v15 T15 L15 X15 q15
    obtain ⟨rfl, Nq15, eT15⟩ := q15
    have N15 := Fr.app N14 Nq15
    show Goes p e below _ T15 (mkF m 340 #[.val (.int p1), .val (.int p2), .val (.int p3), .val (.int p4), .val (.int p5), .val (.int (0 : Int32)), .val (.int cc1), .val (.int cc2), .val (.int cc3), .val (.int cc4), .val (.ref b5), .val (.int gt), .val (.int dg), .unset, .unset, .unset] [(.int (if (0 : Int32) = (0 : Int32) then (0 : Int32) else (1 : Int32))), (.int (r1 + r2))])
    generalize er3 : (if (0 : Int32) = (0 : Int32) then (0 : Int32) else (1 : Int32)) = r3
    show Goes p e below _ T15 (mkF m 340 #[.val (.int p1), .val (.int p2), .val (.int p3), .val (.int p4), .val (.int p5), .val (.int (0 : Int32)), .val (.int cc1), .val (.int cc2), .val (.int cc3), .val (.int cc4), .val (.ref b5), .val (.int gt), .val (.int dg), .unset, .unset, .unset] [(.int r3), (.int (r1 + r2))])
    refine Goes.of (fun _ => XS.iadd X15.here hx rfl (hb hby at_340) rfl) ?_
    show Goes p e below _ T15 (mkF m 341 #[.val (.int p1), .val (.int p2), .val (.int p3), .val (.int p4), .val (.int p5), .val (.int (0 : Int32)), .val (.int cc1), .val (.int cc2), .val (.int cc3), .val (.int cc4), .val (.ref b5), .val (.int gt), .val (.int dg), .unset, .unset, .unset] [(.int ((r1 + r2) + r3))])
    refine Goes.of (fun _ => XS.iload X15.here hx rfl (hb hby at_341) rfl) ?_
    show Goes p e below _ T15 (mkF m 343 #[.val (.int p1), .val (.int p2), .val (.int p3), .val (.int p4), .val (.int p5), .val (.int (0 : Int32)), .val (.int cc1), .val (.int cc2), .val (.int cc3), .val (.int cc4), .val (.ref b5), .val (.int gt), .val (.int dg), .unset, .unset, .unset] [(.int (0 : Int32)), (.int ((r1 + r2) + r3))])
    refine Goes.of (fun _ => XS.iconst X15.here hx rfl (hb hby at_343)) ?_
    show Goes p e below _ T15 (mkF m 344 #[.val (.int p1), .val (.int p2), .val (.int p3), .val (.int p4), .val (.int p5), .val (.int (0 : Int32)), .val (.int cc1), .val (.int cc2), .val (.int cc3), .val (.int cc4), .val (.ref b5), .val (.int gt), .val (.int dg), .unset, .unset, .unset] [(.int (3 : Int32)), (.int (0 : Int32)), (.int ((r1 + r2) + r3))])
    refine Goes.of (fun _ => XS.icmpYes X15.here hx rfl (pc0 := 344) (pc' := 358) rfl (hb hby at_344) rfl (flt (by decide)).2.2.2 (by decide) (by decide)) ?_
    show Goes p e below _ T15 (mkF m 358 #[.val (.int p1), .val (.int p2), .val (.int p3), .val (.int p4), .val (.int p5), .val (.int (0 : Int32)), .val (.int cc1), .val (.int cc2), .val (.int cc3), .val (.int cc4), .val (.ref b5), .val (.int gt), .val (.int dg), .unset, .unset, .unset] [(.int ((r1 + r2) + r3))])
    refine Goes.of (fun _ => XS.iconst X15.here hx rfl (hb hby at_358)) ?_
    show Goes p e below _ T15 (mkF m 359 #[.val (.int p1), .val (.int p2), .val (.int p3), .val (.int p4), .val (.int p5), .val (.int (0 : Int32)), .val (.int cc1), .val (.int cc2), .val (.int cc3), .val (.int cc4), .val (.ref b5), .val (.int gt), .val (.int dg), .unset, .unset, .unset] [(.int (0 : Int32)), (.int ((r1 + r2) + r3))])
    refine goStatic 1 X15 hx hZ hown (hw _ (List.mem_of_getElem? (i := 42) rfl)) (hw _ (List.mem_of_getElem? (i := 43) rfl)) (hw _ (List.mem_of_getElem? (i := 3) rfl)) (hw _ (List.mem_of_getElem? (i := 44) rfl)) (by decide) (rm_one l Z a0 hw (0 : Int32) T7.heap n0 O0) eT15 (g := (mkF m 359 #[.val (.int p1), .val (.int p2), .val (.int p3), .val (.int p4), .val (.int p5), .val (.int (0 : Int32)), .val (.int cc1), .val (.int cc2), .val (.int cc3), .val (.int cc4), .val (.ref b5), .val (.int gt), .val (.int dg), .unset, .unset, .unset] [(.int (0 : Int32)), (.int ((r1 + r2) + r3))])) rfl (by rw [hml]; rfl) [(.int (0 : Int32))] [(.int ((r1 + r2) + r3))] (lenOf pd__Z_I rfl) rfl rfl (by show 2 * 0 + _ ≤ _; exact Nat.le_of_eq rfl) (hb hby at_359) (by decide) (by decide) (by decide) (by decide) ?_
    intro v16 T16 L16 X16 q16
    obtain ⟨rfl, Nq16, eT16⟩ := q16
    have N16 := Fr.app N15 Nq16
    show Goes p e below _ T16 (mkF m 362 #[.val (.int p1), .val (.int p2), .val (.int p3), .val (.int p4), .val (.int p5), .val (.int (0 : Int32)), .val (.int cc1), .val (.int cc2), .val (.int cc3), .val (.int cc4), .val (.ref b5), .val (.int gt), .val (.int dg), .unset, .unset, .unset] [(.int (if (0 : Int32) = (0 : Int32) then (0 : Int32) else (1 : Int32))), (.int ((r1 + r2) + r3))])
    generalize er4 : (if (0 : Int32) = (0 : Int32) then (0 : Int32) else (1 : Int32)) = r4
    show Goes p e below _ T16 (mkF m 362 #[.val (.int p1), .val (.int p2), .val (.int p3), .val (.int p4), .val (.int p5), .val (.int (0 : Int32)), .val (.int cc1), .val (.int cc2), .val (.int cc3), .val (.int cc4), .val (.ref b5), .val (.int gt), .val (.int dg), .unset, .unset, .unset] [(.int r4), (.int ((r1 + r2) + r3))])
    refine Goes.of (fun _ => XS.iadd X16.here hx rfl (hb hby at_362) rfl) ?_
    show Goes p e below _ T16 (mkF m 363 #[.val (.int p1), .val (.int p2), .val (.int p3), .val (.int p4), .val (.int p5), .val (.int (0 : Int32)), .val (.int cc1), .val (.int cc2), .val (.int cc3), .val (.int cc4), .val (.ref b5), .val (.int gt), .val (.int dg), .unset, .unset, .unset] [(.int (((r1 + r2) + r3) + r4))])
    refine Goes.of (fun _ => XS.istore X16.here hx rfl (hb hby at_363) rfl (l' := #[.val (.int p1), .val (.int p2), .val (.int p3), .val (.int p4), .val (.int p5), .val (.int (0 : Int32)), .val (.int cc1), .val (.int cc2), .val (.int cc3), .val (.int cc4), .val (.ref b5), .val (.int gt), .val (.int dg), .val (.int (((r1 + r2) + r3) + r4)), .unset, .unset]) rfl) ?_
    show Goes p e below _ T16 (mkF m 365 #[.val (.int p1), .val (.int p2), .val (.int p3), .val (.int p4), .val (.int p5), .val (.int (0 : Int32)), .val (.int cc1), .val (.int cc2), .val (.int cc3), .val (.int cc4), .val (.ref b5), .val (.int gt), .val (.int dg), .val (.int (((r1 + r2) + r3) + r4)), .unset, .unset] [])
    generalize ept : (((r1 + r2) + r3) + r4) = pt
    show Goes p e below _ T16 (mkF m 365 #[.val (.int p1), .val (.int p2), .val (.int p3), .val (.int p4), .val (.int p5), .val (.int (0 : Int32)), .val (.int cc1), .val (.int cc2), .val (.int cc3), .val (.int cc4), .val (.ref b5), .val (.int gt), .val (.int dg), .val (.int pt), .unset, .unset] [])
    refine Goes.of (fun _ => XS.iconst X16.here hx rfl (hb hby at_365)) ?_
    show Goes p e below _ T16 (mkF m 366 #[.val (.int p1), .val (.int p2), .val (.int p3), .val (.int p4), .val (.int p5), .val (.int (0 : Int32)), .val (.int cc1), .val (.int cc2), .val (.int cc3), .val (.int cc4), .val (.ref b5), .val (.int gt), .val (.int dg), .val (.int pt), .unset, .unset] [(.int (1 : Int32))])
    refine Goes.of (fun _ => XS.istore X16.here hx rfl (hb hby at_366) rfl (l' := #[.val (.int p1), .val (.int p2), .val (.int p3), .val (.int p4), .val (.int p5), .val (.int (0 : Int32)), .val (.int cc1), .val (.int cc2), .val (.int cc3), .val (.int cc4), .val (.ref b5), .val (.int gt), .val (.int dg), .val (.int pt), .val (.int (1 : Int32)), .unset]) rfl) ?_
    show Goes p e below _ T16 (mkF m 368 #[.val (.int p1), .val (.int p2), .val (.int p3), .val (.int p4), .val (.int p5), .val (.int (0 : Int32)), .val (.int cc1), .val (.int cc2), .val (.int cc3), .val (.int cc4), .val (.ref b5), .val (.int gt), .val (.int dg), .val (.int pt), .val (.int (1 : Int32)), .unset] [])
    refine Goes.of (fun _ => XS.iload X16.here hx rfl (hb hby at_368) rfl) ?_
    show Goes p e below _ T16 (mkF m 370 #[.val (.int p1), .val (.int p2), .val (.int p3), .val (.int p4), .val (.int p5), .val (.int (0 : Int32)), .val (.int cc1), .val (.int cc2), .val (.int cc3), .val (.int cc4), .val (.ref b5), .val (.int gt), .val (.int dg), .val (.int pt), .val (.int (1 : Int32)), .unset] [(.int (0 : Int32))])
    refine Goes.of (fun _ => XS.ifYes X16.here hx rfl (pc0 := 370) (pc' := 405) rfl (hb hby at_370) rfl ((if0 _ _).trans (flt (by decide)).2.2.2) (by decide) (by decide)) ?_
    show Goes p e below _ T16 (mkF m 405 #[.val (.int p1), .val (.int p2), .val (.int p3), .val (.int p4), .val (.int p5), .val (.int (0 : Int32)), .val (.int cc1), .val (.int cc2), .val (.int cc3), .val (.int cc4), .val (.ref b5), .val (.int gt), .val (.int dg), .val (.int pt), .val (.int (1 : Int32)), .unset] [])
    refine Goes.of (fun _ => XS.iload X16.here hx rfl (hb hby at_405) rfl) ?_
    show Goes p e below _ T16 (mkF m 407 #[.val (.int p1), .val (.int p2), .val (.int p3), .val (.int p4), .val (.int p5), .val (.int (0 : Int32)), .val (.int cc1), .val (.int cc2), .val (.int cc3), .val (.int cc4), .val (.ref b5), .val (.int gt), .val (.int dg), .val (.int pt), .val (.int (1 : Int32)), .unset] [(.int (0 : Int32))])
    refine Goes.of (fun _ => XS.iconst X16.here hx rfl (hb hby at_407)) ?_
    show Goes p e below _ T16 (mkF m 408 #[.val (.int p1), .val (.int p2), .val (.int p3), .val (.int p4), .val (.int p5), .val (.int (0 : Int32)), .val (.int cc1), .val (.int cc2), .val (.int cc3), .val (.int cc4), .val (.ref b5), .val (.int gt), .val (.int dg), .val (.int pt), .val (.int (1 : Int32)), .unset] [(.int (1 : Int32)), (.int (0 : Int32))])
    refine Goes.of (fun _ => XS.icmpYes X16.here hx rfl (pc0 := 408) (pc' := 422) rfl (hb hby at_408) rfl (flt (by decide)).2.2.2 (by decide) (by decide)) ?_
    show Goes p e below _ T16 (mkF m 422 #[.val (.int p1), .val (.int p2), .val (.int p3), .val (.int p4), .val (.int p5), .val (.int (0 : Int32)), .val (.int cc1), .val (.int cc2), .val (.int cc3), .val (.int cc4), .val (.ref b5), .val (.int gt), .val (.int dg), .val (.int pt), .val (.int (1 : Int32)), .unset] [])
    refine Goes.of (fun _ => XS.iload X16.here hx rfl (hb hby at_422) rfl) ?_
    show Goes p e below _ T16 (mkF m 424 #[.val (.int p1), .val (.int p2), .val (.int p3), .val (.int p4), .val (.int p5), .val (.int (0 : Int32)), .val (.int cc1), .val (.int cc2), .val (.int cc3), .val (.int cc4), .val (.ref b5), .val (.int gt), .val (.int dg), .val (.int pt), .val (.int (1 : Int32)), .unset] [(.int (0 : Int32))])
    refine Goes.of (fun _ => XS.iconst X16.here hx rfl (hb hby at_424)) ?_
    show Goes p e below _ T16 (mkF m 425 #[.val (.int p1), .val (.int p2), .val (.int p3), .val (.int p4), .val (.int p5), .val (.int (0 : Int32)), .val (.int cc1), .val (.int cc2), .val (.int cc3), .val (.int cc4), .val (.ref b5), .val (.int gt), .val (.int dg), .val (.int pt), .val (.int (1 : Int32)), .unset] [(.int (2 : Int32)), (.int (0 : Int32))])
    refine Goes.of (fun _ => XS.icmpYes X16.here hx rfl (pc0 := 425) (pc' := 439) rfl (hb hby at_425) rfl (flt (by decide)).2.2.2 (by decide) (by decide)) ?_
    show Goes p e below _ T16 (mkF m 439 #[.val (.int p1), .val (.int p2), .val (.int p3), .val (.int p4), .val (.int p5), .val (.int (0 : Int32)), .val (.int cc1), .val (.int cc2), .val (.int cc3), .val (.int cc4), .val (.ref b5), .val (.int gt), .val (.int dg), .val (.int pt), .val (.int (1 : Int32)), .unset] [])
    refine Goes.of (fun _ => XS.iload X16.here hx rfl (hb hby at_439) rfl) ?_
    show Goes p e below _ T16 (mkF m 441 #[.val (.int p1), .val (.int p2), .val (.int p3), .val (.int p4), .val (.int p5), .val (.int (0 : Int32)), .val (.int cc1), .val (.int cc2), .val (.int cc3), .val (.int cc4), .val (.ref b5), .val (.int gt), .val (.int dg), .val (.int pt), .val (.int (1 : Int32)), .unset] [(.int (0 : Int32))])
    refine Goes.of (fun _ => XS.iconst X16.here hx rfl (hb hby at_441)) ?_
    show Goes p e below _ T16 (mkF m 442 #[.val (.int p1), .val (.int p2), .val (.int p3), .val (.int p4), .val (.int p5), .val (.int (0 : Int32)), .val (.int cc1), .val (.int cc2), .val (.int cc3), .val (.int cc4), .val (.ref b5), .val (.int gt), .val (.int dg), .val (.int pt), .val (.int (1 : Int32)), .unset] [(.int (3 : Int32)), (.int (0 : Int32))])
    refine Goes.of (fun _ => XS.icmpYes X16.here hx rfl (pc0 := 442) (pc' := 456) rfl (hb hby at_442) rfl (flt (by decide)).2.2.2 (by decide) (by decide)) ?_
    show Goes p e below _ T16 (mkF m 456 #[.val (.int p1), .val (.int p2), .val (.int p3), .val (.int p4), .val (.int p5), .val (.int (0 : Int32)), .val (.int cc1), .val (.int cc2), .val (.int cc3), .val (.int cc4), .val (.ref b5), .val (.int gt), .val (.int dg), .val (.int pt), .val (.int (1 : Int32)), .unset] [])
    refine Goes.of (fun _ => XS.iload X16.here hx rfl (hb hby at_456) rfl) ?_
    show Goes p e below _ T16 (mkF m 458 #[.val (.int p1), .val (.int p2), .val (.int p3), .val (.int p4), .val (.int p5), .val (.int (0 : Int32)), .val (.int cc1), .val (.int cc2), .val (.int cc3), .val (.int cc4), .val (.ref b5), .val (.int gt), .val (.int dg), .val (.int pt), .val (.int (1 : Int32)), .unset] [(.int (1 : Int32))])
    refine Goes.of (fun _ => XS.ifNo X16.here hx rfl (hb hby at_458) rfl ((if0 _ _).trans (feq (by decide)).1)) ?_
    show Goes p e below _ T16 (mkF m 461 #[.val (.int p1), .val (.int p2), .val (.int p3), .val (.int p4), .val (.int p5), .val (.int (0 : Int32)), .val (.int cc1), .val (.int cc2), .val (.int cc3), .val (.int cc4), .val (.ref b5), .val (.int gt), .val (.int dg), .val (.int pt), .val (.int (1 : Int32)), .unset] [])
    refine Goes.of (fun _ => XS.iload X16.here hx rfl (hb hby at_461) rfl) ?_
    show Goes p e below _ T16 (mkF m 463 #[.val (.int p1), .val (.int p2), .val (.int p3), .val (.int p4), .val (.int p5), .val (.int (0 : Int32)), .val (.int cc1), .val (.int cc2), .val (.int cc3), .val (.int cc4), .val (.ref b5), .val (.int gt), .val (.int dg), .val (.int pt), .val (.int (1 : Int32)), .unset] [(.int dg)])
    refine Goes.of (T' := T16) (f' := (mkF m 477 #[.val (.int p1), .val (.int p2), .val (.int p3), .val (.int p4), .val (.int p5), .val (.int (0 : Int32)), .val (.int cc1), .val (.int cc2), .val (.int cc3), .val (.int cc4), .val (.ref b5), .val (.int gt), .val (.int dg), .val (.int pt), .val (.int (1 : Int32)), .unset] [(.int (if (0 : Int32) < dg then (if (1 : Int32) < pt then (0 : Int32) else (1 : Int32)) else (0 : Int32)))])) (fun t kt => ?_) ?_
    · show Steps p.tables e below (T16.setTop (mkF m 463 #[.val (.int p1), .val (.int p2), .val (.int p3), .val (.int p4), .val (.int p5), .val (.int (0 : Int32)), .val (.int cc1), .val (.int cc2), .val (.int cc3), .val (.int cc4), .val (.ref b5), .val (.int gt), .val (.int dg), .val (.int pt), .val (.int (1 : Int32)), .unset] [(.int dg)])) _
      by_cases hq463 : (0 : Int32) < dg
      · simp only [if_pos hq463] at kt
        refine XS.ifNo X16.here hx rfl (hb hby at_463) rfl ((if0 _ _).trans (tlt hq463).2.2.2) ?_
        show Steps p.tables e below (T16.setTop (mkF m 466 #[.val (.int p1), .val (.int p2), .val (.int p3), .val (.int p4), .val (.int p5), .val (.int (0 : Int32)), .val (.int cc1), .val (.int cc2), .val (.int cc3), .val (.int cc4), .val (.ref b5), .val (.int gt), .val (.int dg), .val (.int pt), .val (.int (1 : Int32)), .unset] [])) _
        refine XS.iload X16.here hx rfl (hb hby at_466) rfl ?_
        show Steps p.tables e below (T16.setTop (mkF m 468 #[.val (.int p1), .val (.int p2), .val (.int p3), .val (.int p4), .val (.int p5), .val (.int (0 : Int32)), .val (.int cc1), .val (.int cc2), .val (.int cc3), .val (.int cc4), .val (.ref b5), .val (.int gt), .val (.int dg), .val (.int pt), .val (.int (1 : Int32)), .unset] [(.int pt)])) _
        refine XS.iconst X16.here hx rfl (hb hby at_468) ?_
        show Steps p.tables e below (T16.setTop (mkF m 469 #[.val (.int p1), .val (.int p2), .val (.int p3), .val (.int p4), .val (.int p5), .val (.int (0 : Int32)), .val (.int cc1), .val (.int cc2), .val (.int cc3), .val (.int cc4), .val (.ref b5), .val (.int gt), .val (.int dg), .val (.int pt), .val (.int (1 : Int32)), .unset] [(.int (1 : Int32)), (.int pt)])) _
        by_cases hq469 : (1 : Int32) < pt
        · simp only [if_pos hq469] at kt
          refine XS.icmpYes X16.here hx rfl (pc0 := 469) (pc' := 476) rfl (hb hby at_469) rfl (tlt hq469).2.2.1 (by decide) (by decide) ?_
          show Steps p.tables e below (T16.setTop (mkF m 476 #[.val (.int p1), .val (.int p2), .val (.int p3), .val (.int p4), .val (.int p5), .val (.int (0 : Int32)), .val (.int cc1), .val (.int cc2), .val (.int cc3), .val (.int cc4), .val (.ref b5), .val (.int gt), .val (.int dg), .val (.int pt), .val (.int (1 : Int32)), .unset] [])) _
          refine XS.iconst X16.here hx rfl (hb hby at_476) ?_
          show Steps p.tables e below (T16.setTop (mkF m 477 #[.val (.int p1), .val (.int p2), .val (.int p3), .val (.int p4), .val (.int p5), .val (.int (0 : Int32)), .val (.int cc1), .val (.int cc2), .val (.int cc3), .val (.int cc4), .val (.ref b5), .val (.int gt), .val (.int dg), .val (.int pt), .val (.int (1 : Int32)), .unset] [(.int (0 : Int32))])) _
          exact kt
        · simp only [if_neg hq469] at kt
          refine XS.icmpNo X16.here hx rfl (hb hby at_469) rfl (flt hq469).2.2.1 ?_
          show Steps p.tables e below (T16.setTop (mkF m 472 #[.val (.int p1), .val (.int p2), .val (.int p3), .val (.int p4), .val (.int p5), .val (.int (0 : Int32)), .val (.int cc1), .val (.int cc2), .val (.int cc3), .val (.int cc4), .val (.ref b5), .val (.int gt), .val (.int dg), .val (.int pt), .val (.int (1 : Int32)), .unset] [])) _
          refine XS.iconst X16.here hx rfl (hb hby at_472) ?_
          show Steps p.tables e below (T16.setTop (mkF m 473 #[.val (.int p1), .val (.int p2), .val (.int p3), .val (.int p4), .val (.int p5), .val (.int (0 : Int32)), .val (.int cc1), .val (.int cc2), .val (.int cc3), .val (.int cc4), .val (.ref b5), .val (.int gt), .val (.int dg), .val (.int pt), .val (.int (1 : Int32)), .unset] [(.int (1 : Int32))])) _
          refine XS.goto X16.here hx rfl (pc0 := 473) (pc' := 477) rfl (hb hby at_473) (by decide) (by decide) ?_
          show Steps p.tables e below (T16.setTop (mkF m 477 #[.val (.int p1), .val (.int p2), .val (.int p3), .val (.int p4), .val (.int p5), .val (.int (0 : Int32)), .val (.int cc1), .val (.int cc2), .val (.int cc3), .val (.int cc4), .val (.ref b5), .val (.int gt), .val (.int dg), .val (.int pt), .val (.int (1 : Int32)), .unset] [(.int (1 : Int32))])) _
          exact kt
      · simp only [if_neg hq463] at kt
        refine XS.ifYes X16.here hx rfl (pc0 := 463) (pc' := 476) rfl (hb hby at_463) rfl ((if0 _ _).trans (flt hq463).2.2.2) (by decide) (by decide) ?_
        show Steps p.tables e below (T16.setTop (mkF m 476 #[.val (.int p1), .val (.int p2), .val (.int p3), .val (.int p4), .val (.int p5), .val (.int (0 : Int32)), .val (.int cc1), .val (.int cc2), .val (.int cc3), .val (.int cc4), .val (.ref b5), .val (.int gt), .val (.int dg), .val (.int pt), .val (.int (1 : Int32)), .unset] [])) _
        refine XS.iconst X16.here hx rfl (hb hby at_476) ?_
        show Steps p.tables e below (T16.setTop (mkF m 477 #[.val (.int p1), .val (.int p2), .val (.int p3), .val (.int p4), .val (.int p5), .val (.int (0 : Int32)), .val (.int cc1), .val (.int cc2), .val (.int cc3), .val (.int cc4), .val (.ref b5), .val (.int gt), .val (.int dg), .val (.int pt), .val (.int (1 : Int32)), .unset] [(.int (0 : Int32))])) _
        exact kt
    show Goes p e below _ T16 (mkF m 477 #[.val (.int p1), .val (.int p2), .val (.int p3), .val (.int p4), .val (.int p5), .val (.int (0 : Int32)), .val (.int cc1), .val (.int cc2), .val (.int cc3), .val (.int cc4), .val (.ref b5), .val (.int gt), .val (.int dg), .val (.int pt), .val (.int (1 : Int32)), .unset] [(.int (if (0 : Int32) < dg then (if (1 : Int32) < pt then (0 : Int32) else (1 : Int32)) else (0 : Int32)))])
    refine Goes.of (fun _ => XS.istore X16.here hx rfl (hb hby at_477) rfl (l' := #[.val (.int p1), .val (.int p2), .val (.int p3), .val (.int p4), .val (.int p5), .val (.int (0 : Int32)), .val (.int cc1), .val (.int cc2), .val (.int cc3), .val (.int cc4), .val (.ref b5), .val (.int gt), .val (.int dg), .val (.int pt), .val (.int (1 : Int32)), .val (.int (if (0 : Int32) < dg then (if (1 : Int32) < pt then (0 : Int32) else (1 : Int32)) else (0 : Int32)))]) rfl) ?_
    show Goes p e below _ T16 (mkF m 479 #[.val (.int p1), .val (.int p2), .val (.int p3), .val (.int p4), .val (.int p5), .val (.int (0 : Int32)), .val (.int cc1), .val (.int cc2), .val (.int cc3), .val (.int cc4), .val (.ref b5), .val (.int gt), .val (.int dg), .val (.int pt), .val (.int (1 : Int32)), .val (.int (if (0 : Int32) < dg then (if (1 : Int32) < pt then (0 : Int32) else (1 : Int32)) else (0 : Int32)))] [])
    generalize exp : (if (0 : Int32) < dg then (if (1 : Int32) < pt then (0 : Int32) else (1 : Int32)) else (0 : Int32)) = xp
    show Goes p e below _ T16 (mkF m 479 #[.val (.int p1), .val (.int p2), .val (.int p3), .val (.int p4), .val (.int p5), .val (.int (0 : Int32)), .val (.int cc1), .val (.int cc2), .val (.int cc3), .val (.int cc4), .val (.ref b5), .val (.int gt), .val (.int dg), .val (.int pt), .val (.int (1 : Int32)), .val (.int xp)] [])
    refine Goes.of (fun _ => XS.iload X16.here hx rfl (hb hby at_479) rfl) ?_
    show Goes p e below _ T16 (mkF m 481 #[.val (.int p1), .val (.int p2), .val (.int p3), .val (.int p4), .val (.int p5), .val (.int (0 : Int32)), .val (.int cc1), .val (.int cc2), .val (.int cc3), .val (.int cc4), .val (.ref b5), .val (.int gt), .val (.int dg), .val (.int pt), .val (.int (1 : Int32)), .val (.int xp)] [(.int gt)])
    refine Goes.of (fun _ => XS.iload X16.here hx rfl (hb hby at_481) rfl) ?_
    show Goes p e below _ T16 (mkF m 483 #[.val (.int p1), .val (.int p2), .val (.int p3), .val (.int p4), .val (.int p5), .val (.int (0 : Int32)), .val (.int cc1), .val (.int cc2), .val (.int cc3), .val (.int cc4), .val (.ref b5), .val (.int gt), .val (.int dg), .val (.int pt), .val (.int (1 : Int32)), .val (.int xp)] [(.int xp), (.int gt)])
    refine Goes.of (fun _ => XS.icmpNo X16.here hx rfl (hb hby at_483) rfl (teq (by subst exp ept er4 er3 er2 er1 edg eo4 eo3 eo2 eo1 egt; exact fin0 )).2) ?_
    show Goes p e below _ T16 (mkF m 486 #[.val (.int p1), .val (.int p2), .val (.int p3), .val (.int p4), .val (.int p5), .val (.int (0 : Int32)), .val (.int cc1), .val (.int cc2), .val (.int cc3), .val (.int cc4), .val (.ref b5), .val (.int gt), .val (.int dg), .val (.int pt), .val (.int (1 : Int32)), .val (.int xp)] [])
    refine Goes.of (fun _ => XS.iconst X16.here hx rfl (hb hby at_486)) ?_
    show Goes p e below _ T16 (mkF m 487 #[.val (.int p1), .val (.int p2), .val (.int p3), .val (.int p4), .val (.int p5), .val (.int (0 : Int32)), .val (.int cc1), .val (.int cc2), .val (.int cc3), .val (.int cc4), .val (.ref b5), .val (.int gt), .val (.int dg), .val (.int pt), .val (.int (1 : Int32)), .val (.int xp)] [(.int (1 : Int32))])
    refine Goes.of (fun _ => XS.goto X16.here hx rfl (pc0 := 487) (pc' := 491) rfl (hb hby at_487) (by decide) (by decide)) ?_
    show Goes p e below _ T16 (mkF m 491 #[.val (.int p1), .val (.int p2), .val (.int p3), .val (.int p4), .val (.int p5), .val (.int (0 : Int32)), .val (.int cc1), .val (.int cc2), .val (.int cc3), .val (.int cc4), .val (.ref b5), .val (.int gt), .val (.int dg), .val (.int pt), .val (.int (1 : Int32)), .val (.int xp)] [(.int (1 : Int32))])
    exact retZW (t := .boolean) X16 hS hk hZ hEL HC hx hret hlk (by simp) (hb hby at_491) eT16 (by decide) (by decide) ⟨rfl, N16⟩
  · show Goes p e below _ T4 (mkF m 33 #[.val (.int p1), .val (.int p2), .val (.int p3), .val (.int p4), .val (.int p5), .val (.int (1 : Int32)), .val (.int cc1), .val (.int cc2), .val (.int cc3), .val (.int cc4), .unset, .unset, .unset, .unset, .unset, .unset] [])
    refine Goes.of (fun _ => XS.iload X4.here hx rfl (hb hby at_33) rfl) ?_
    show Goes p e below _ T4 (mkF m 35 #[.val (.int p1), .val (.int p2), .val (.int p3), .val (.int p4), .val (.int p5), .val (.int (1 : Int32)), .val (.int cc1), .val (.int cc2), .val (.int cc3), .val (.int cc4), .unset, .unset, .unset, .unset, .unset, .unset] [(.int (1 : Int32))])
    refine Goes.of (fun _ => XS.ifYes X4.here hx rfl (pc0 := 35) (pc' := 53) rfl (hb hby at_35) rfl ((if0 _ _).trans (feq (by decide)).2) (by decide) (by decide)) ?_
    show Goes p e below _ T4 (mkF m 53 #[.val (.int p1), .val (.int p2), .val (.int p3), .val (.int p4), .val (.int p5), .val (.int (1 : Int32)), .val (.int cc1), .val (.int cc2), .val (.int cc3), .val (.int cc4), .unset, .unset, .unset, .unset, .unset, .unset] [])
    refine Goes.of (fun _ => XS.iload X4.here hx rfl (hb hby at_53) rfl) ?_
    show Goes p e below _ T4 (mkF m 55 #[.val (.int p1), .val (.int p2), .val (.int p3), .val (.int p4), .val (.int p5), .val (.int (1 : Int32)), .val (.int cc1), .val (.int cc2), .val (.int cc3), .val (.int cc4), .unset, .unset, .unset, .unset, .unset, .unset] [(.int (1 : Int32))])
    refine Goes.of (fun _ => XS.iconst X4.here hx rfl (hb hby at_55)) ?_
    show Goes p e below _ T4 (mkF m 56 #[.val (.int p1), .val (.int p2), .val (.int p3), .val (.int p4), .val (.int p5), .val (.int (1 : Int32)), .val (.int cc1), .val (.int cc2), .val (.int cc3), .val (.int cc4), .unset, .unset, .unset, .unset, .unset, .unset] [(.int (1 : Int32)), (.int (1 : Int32))])
    refine Goes.of (fun _ => XS.icmpNo X4.here hx rfl (hb hby at_56) rfl (teq (by decide)).2) ?_
    show Goes p e below _ T4 (mkF m 59 #[.val (.int p1), .val (.int p2), .val (.int p3), .val (.int p4), .val (.int p5), .val (.int (1 : Int32)), .val (.int cc1), .val (.int cc2), .val (.int cc3), .val (.int cc4), .unset, .unset, .unset, .unset, .unset, .unset] [])
    refine goNew X4 hx hZ hown (hw _ (List.mem_of_getElem? (i := 5) rfl)) (hw _ (List.mem_of_getElem? (i := 6) rfl)) (hw _ (List.mem_of_getElem? (i := 7) rfl)) (rfl : T4.heap = _) (g := (mkF m 59 #[.val (.int p1), .val (.int p2), .val (.int p3), .val (.int p4), .val (.int p5), .val (.int (1 : Int32)), .val (.int cc1), .val (.int cc2), .val (.int cc3), .val (.int cc4), .unset, .unset, .unset, .unset, .unset, .unset] [])) rfl (hb hby at_59) (by decide) (by decide) ?_
    intro T17 h17 b17 X17 eT17 E17 hb17 A17 D17
    have g_b17 : n0 ≤ b17 := Nat.le_trans (oldLe O0) hb17
    have hk := Nat.le_trans hk E17.1
    have HC := HC.trans (CHr.ext E17 HC.1)
    have O0 := O0.ext E17
    have F17_value : Fld Z h17 b17 "java/lang/String" "value" "[B" .null := D17 (Or.inr (hw _ (List.mem_of_getElem? (i := 21) rfl))) (ty := (.array .byte)) (by decide)
    have F17_coder : Fld Z h17 b17 "java/lang/String" "coder" "B" (.int (0 : Int32)) := D17 (Or.inr (hw _ (List.mem_of_getElem? (i := 22) rfl))) (ty := .byte) (by decide)
    show Goes p e below _ T17 (mkF m 62 #[.val (.int p1), .val (.int p2), .val (.int p3), .val (.int p4), .val (.int p5), .val (.int (1 : Int32)), .val (.int cc1), .val (.int cc2), .val (.int cc3), .val (.int cc4), .unset, .unset, .unset, .unset, .unset, .unset] [(.ref b17)])
    refine Goes.of (fun _ => XS.dup X17.here hx rfl (hb hby at_62) rfl rfl) ?_
    show Goes p e below _ T17 (mkF m 63 #[.val (.int p1), .val (.int p2), .val (.int p3), .val (.int p4), .val (.int p5), .val (.int (1 : Int32)), .val (.int cc1), .val (.int cc2), .val (.int cc3), .val (.int cc4), .unset, .unset, .unset, .unset, .unset, .unset] [(.ref b17), (.ref b17)])
    refine Goes.of (fun _ => XS.iconst X17.here hx rfl (hb hby at_63)) ?_
    show Goes p e below _ T17 (mkF m 64 #[.val (.int p1), .val (.int p2), .val (.int p3), .val (.int p4), .val (.int p5), .val (.int (1 : Int32)), .val (.int cc1), .val (.int cc2), .val (.int cc3), .val (.int cc4), .unset, .unset, .unset, .unset, .unset, .unset] [(.int (1 : Int32)), (.ref b17), (.ref b17)])
    refine goNewP 1 X17 hx hZ (hw _ (List.mem_of_getElem? (i := 8) rfl)) eT17 (g := (mkF m 64 #[.val (.int p1), .val (.int p2), .val (.int p3), .val (.int p4), .val (.int p5), .val (.int (1 : Int32)), .val (.int cc1), .val (.int cc2), .val (.int cc3), .val (.int cc4), .unset, .unset, .unset, .unset, .unset, .unset] [(.int (1 : Int32)), (.ref b17), (.ref b17)])) rfl (hb hby at_64) rfl (by decide) (by decide) (by decide) (by decide) (by decide) (ad := "[C") (by first | rfl | decide) ?_
    intro T18 h18 b18 kA18 X18 eT18 E18 hb18 V18 A18
    have g_b18 : n0 ≤ b18 := Nat.le_trans (oldLe O0) hb18
    have ne_b17_b18 : b17 ≠ b18 := Nat.ne_of_lt (Nat.lt_of_lt_of_le A17.lt hb18)
    have A17 := A17.ext E18
    have F17_value := F17_value.ext E18
    have F17_coder := F17_coder.ext E18
    have hk := Nat.le_trans hk E18.1
    have HC := HC.trans (CHr.ext E18 HC.1)
    have O0 := O0.ext E18
    have V18 : Arv Z h18 b18 kA18 .char (1 : Int32) [(.int (0 : Int32))] (.int (0 : Int32)) := V18
    show Goes p e below _ T18 (mkF m 66 #[.val (.int p1), .val (.int p2), .val (.int p3), .val (.int p4), .val (.int p5), .val (.int (1 : Int32)), .val (.int cc1), .val (.int cc2), .val (.int cc3), .val (.int cc4), .unset, .unset, .unset, .unset, .unset, .unset] [(.ref b18), (.ref b17), (.ref b17)])
    refine Goes.of (fun _ => XS.dup X18.here hx rfl (hb hby at_66) rfl rfl) ?_
    show Goes p e below _ T18 (mkF m 67 #[.val (.int p1), .val (.int p2), .val (.int p3), .val (.int p4), .val (.int p5), .val (.int (1 : Int32)), .val (.int cc1), .val (.int cc2), .val (.int cc3), .val (.int cc4), .unset, .unset, .unset, .unset, .unset, .unset] [(.ref b18), (.ref b18), (.ref b17), (.ref b17)])
    refine Goes.of (fun _ => XS.iconst X18.here hx rfl (hb hby at_67)) ?_
    show Goes p e below _ T18 (mkF m 68 #[.val (.int p1), .val (.int p2), .val (.int p3), .val (.int p4), .val (.int p5), .val (.int (1 : Int32)), .val (.int cc1), .val (.int cc2), .val (.int cc3), .val (.int cc4), .unset, .unset, .unset, .unset, .unset, .unset] [(.int (0 : Int32)), (.ref b18), (.ref b18), (.ref b17), (.ref b17)])
    refine Goes.of (fun _ => XS.iload X18.here hx rfl (hb hby at_68) rfl) ?_
    show Goes p e below _ T18 (mkF m 70 #[.val (.int p1), .val (.int p2), .val (.int p3), .val (.int p4), .val (.int p5), .val (.int (1 : Int32)), .val (.int cc1), .val (.int cc2), .val (.int cc3), .val (.int cc4), .unset, .unset, .unset, .unset, .unset, .unset] [(.int cc1), (.int (0 : Int32)), (.ref b18), (.ref b18), (.ref b17), (.ref b17)])
    have Sf_b18 : Safe Z EL _ h18 b18 := Safe.arv hZ.alike V18 (by decide)
    refine goStC 0 X18 hx hZ eT18 V18 (by decide) (by decide) rfl (Nat.lt_of_lt_of_le (Nat.lt_succ_self _) (Nat.le_of_ble_eq_true rfl)) (g := (mkF m 70 #[.val (.int p1), .val (.int p2), .val (.int p3), .val (.int p4), .val (.int p5), .val (.int (1 : Int32)), .val (.int cc1), .val (.int cc2), .val (.int cc3), .val (.int cc4), .unset, .unset, .unset, .unset, .unset, .unset] [(.int cc1), (.int (0 : Int32)), (.ref b18), (.ref b18), (.ref b17), (.ref b17)])) rfl rfl (hb hby at_70) ?_
    intro T19 h19 X19 eT19 W19 V18
    have N19 := Fr.snoc X19 N4 g_b18
    have A17 := A17.wr W19
    have F17_value := F17_value.other W19 (Or.inl ne_b17_b18)
    have F17_coder := F17_coder.other W19 (Or.inl ne_b17_b18)
    have A18 := A18.wr W19
    have HC := HC.trans (CHr.wr W19 Sf_b18 HC.1)
    have hk := Nat.le_trans hk (Nat.le_of_eq (Wr.size W19).symm)
    have O0 := O0.wr W19 g_b18
    have V18 : Arv Z h19 b18 kA18 .char (1 : Int32) [(.int (nar .char cc1))] (.int (0 : Int32)) := V18
    show Goes p e below _ T19 (mkF m 71 #[.val (.int p1), .val (.int p2), .val (.int p3), .val (.int p4), .val (.int p5), .val (.int (1 : Int32)), .val (.int cc1), .val (.int cc2), .val (.int cc3), .val (.int cc4), .unset, .unset, .unset, .unset, .unset, .unset] [(.ref b18), (.ref b17), (.ref b17)])
    have Sf_b17 : Safe Z EL _ h19 b17 := safeNull hZ.alike A17 F17_value
    refine goNewS (cs := [(nar .char cc1)]) 1 1 X19 hx hZ hown (hwsOf hw) (hw _ (List.mem_of_getElem? (i := 9) rfl)) (hw _ (List.mem_of_getElem? (i := 10) rfl)) (hw _ (List.mem_of_getElem? (i := 11) rfl)) (hw _ (List.mem_of_getElem? (i := 6) rfl)) g_b17 (oldLe O0) A17 F17_value F17_coder V18 rfl (Sc.ext O0.2) hcz rfl rfl (by decide) (by decide) (by intro c hc; simp only [List.mem_cons, List.not_mem_nil, or_false] at hc; rcases hc with rfl; (· rw [narC hcc1.1 (le255 hcc1.2)]; exact hcc1)) eT19 (g := (mkF m 71 #[.val (.int p1), .val (.int p2), .val (.int p3), .val (.int p4), .val (.int p5), .val (.int (1 : Int32)), .val (.int cc1), .val (.int cc2), .val (.int cc3), .val (.int cc4), .unset, .unset, .unset, .unset, .unset, .unset] [(.ref b18), (.ref b17), (.ref b17)])) rfl (by rw [hml]; rfl) [(.ref b17)] (lenOf pd___C_V rfl) rfl (by show 2 * 0 + _ ≤ _; exact Nat.le_of_eq rfl) (hb hby at_71) (by decide) (by decide) (by decide) (by decide) ?_
    intro T20 L20 X20 Nq20 Kq20 S20
    have S20 := S20.of (show [(nar .char cc1)] = [cc1] by (try rw [narC hcc1.1 (le255 hcc1.2)]))
    have N20 := Fr.app N19 Nq20
    have V18 := V18.keep Kq20 (ninS (Ne.symm ne_b17_b18) nin0)
    have A18 := A18.keep Kq20
    have HC := HC.trans (CHr.keep Kq20 (sfS Sf_b17 sf0) HC.1)
    have hk := Nat.le_trans hk Kq20.1
    have O0 := O0.keep Kq20 (allS g_b17 all0)
    show Goes p e below _ T20 (mkF m 74 #[.val (.int p1), .val (.int p2), .val (.int p3), .val (.int p4), .val (.int p5), .val (.int (1 : Int32)), .val (.int cc1), .val (.int cc2), .val (.int cc3), .val (.int cc4), .unset, .unset, .unset, .unset, .unset, .unset] [(.ref b17)])
    refine Goes.of (fun _ => XS.astore X20.here hx rfl (hb hby at_74) rfl rfl (l' := #[.val (.int p1), .val (.int p2), .val (.int p3), .val (.int p4), .val (.int p5), .val (.int (1 : Int32)), .val (.int cc1), .val (.int cc2), .val (.int cc3), .val (.int cc4), .val (.ref b17), .unset, .unset, .unset, .unset, .unset]) rfl) ?_
    show Goes p e below _ T20 (mkF m 76 #[.val (.int p1), .val (.int p2), .val (.int p3), .val (.int p4), .val (.int p5), .val (.int (1 : Int32)), .val (.int cc1), .val (.int cc2), .val (.int cc3), .val (.int cc4), .val (.ref b17), .unset, .unset, .unset, .unset, .unset] [])
    refine Goes.of (fun _ => XS.goto X20.here hx rfl (pc0 := 76) (pc' := 178) rfl (hb hby at_76) (by decide) (by decide)) ?_
    show Goes p e below _ T20 (mkF m 178 #[.val (.int p1), .val (.int p2), .val (.int p3), .val (.int p4), .val (.int p5), .val (.int (1 : Int32)), .val (.int cc1), .val (.int cc2), .val (.int cc3), .val (.int cc4), .val (.ref b17), .unset, .unset, .unset, .unset, .unset] [])
    refine Goes.of (fun _ => XS.aload X20.here hx rfl (hb hby at_178) rfl rfl) ?_
    show Goes p e below _ T20 (mkF m 180 #[.val (.int p1), .val (.int p2), .val (.int p3), .val (.int p4), .val (.int p5), .val (.int (1 : Int32)), .val (.int cc1), .val (.int cc2), .val (.int cc3), .val (.int cc4), .val (.ref b17), .unset, .unset, .unset, .unset, .unset] [(.ref b17)])
    refine goStatic 0 X20 hx hZ hown (hw _ (List.mem_of_getElem? (i := 27) rfl)) (hw _ (List.mem_of_getElem? (i := 28) rfl)) (hw _ (List.mem_of_getElem? (i := 29) rfl)) (hw _ (List.mem_of_getElem? (i := 30) rfl)) (by decide) (rm_plain l Z a0 hw b17 ([cc1] : List Int32) cz fm T20.heap n0 O0 Sc hcz Sf hfm S20 (by intro c hc; simp only [List.mem_cons, List.not_mem_nil, or_false] at hc; rcases hc with rfl; (· exact hcc1.2))) (rfl : T20.heap = _) (g := (mkF m 180 #[.val (.int p1), .val (.int p2), .val (.int p3), .val (.int p4), .val (.int p5), .val (.int (1 : Int32)), .val (.int cc1), .val (.int cc2), .val (.int cc3), .val (.int cc4), .val (.ref b17), .unset, .unset, .unset, .unset, .unset] [(.ref b17)])) rfl (by rw [hml]; rfl) [(.ref b17)] [] (lenOf pd__Ljava_lang_String__Z rfl) rfl rfl (by show 2 * 0 + _ ≤ _; exact Nat.le_of_eq rfl) (hb hby at_180) (by decide) (by decide) (by decide) (by decide) ?_
    intro v21 T21 L21 X21 q21
    obtain ⟨rfl, Nq21, eT21⟩ := q21
    have N21 := Fr.app N20 Nq21
    show Goes p e below _ T21 (mkF m 183 #[.val (.int p1), .val (.int p2), .val (.int p3), .val (.int p4), .val (.int p5), .val (.int (1 : Int32)), .val (.int cc1), .val (.int cc2), .val (.int cc3), .val (.int cc4), .val (.ref b17), .unset, .unset, .unset, .unset, .unset] [(.int (plainGo 0 (0 : Int32) (0 : Int32) ([cc1] : List Int32)))])
    refine Goes.of (fun _ => XS.istore X21.here hx rfl (hb hby at_183) rfl (l' := #[.val (.int p1), .val (.int p2), .val (.int p3), .val (.int p4), .val (.int p5), .val (.int (1 : Int32)), .val (.int cc1), .val (.int cc2), .val (.int cc3), .val (.int cc4), .val (.ref b17), .val (.int (plainGo 0 (0 : Int32) (0 : Int32) ([cc1] : List Int32))), .unset, .unset, .unset, .unset]) rfl) ?_
    show Goes p e below _ T21 (mkF m 185 #[.val (.int p1), .val (.int p2), .val (.int p3), .val (.int p4), .val (.int p5), .val (.int (1 : Int32)), .val (.int cc1), .val (.int cc2), .val (.int cc3), .val (.int cc4), .val (.ref b17), .val (.int (plainGo 0 (0 : Int32) (0 : Int32) ([cc1] : List Int32))), .unset, .unset, .unset, .unset] [])
    generalize egt : (plainGo 0 (0 : Int32) (0 : Int32) ([cc1] : List Int32)) = gt
    show Goes p e below _ T21 (mkF m 185 #[.val (.int p1), .val (.int p2), .val (.int p3), .val (.int p4), .val (.int p5), .val (.int (1 : Int32)), .val (.int cc1), .val (.int cc2), .val (.int cc3), .val (.int cc4), .val (.ref b17), .val (.int gt), .unset, .unset, .unset, .unset] [])
    refine Goes.of (fun _ => XS.iload X21.here hx rfl (hb hby at_185) rfl) ?_
    show Goes p e below _ T21 (mkF m 187 #[.val (.int p1), .val (.int p2), .val (.int p3), .val (.int p4), .val (.int p5), .val (.int (1 : Int32)), .val (.int cc1), .val (.int cc2), .val (.int cc3), .val (.int cc4), .val (.ref b17), .val (.int gt), .unset, .unset, .unset, .unset] [(.int (1 : Int32))])
    refine Goes.of (fun _ => XS.ifNo X21.here hx rfl (hb hby at_187) rfl ((if0 _ _).trans (tlt (by decide)).2.2.2)) ?_
    show Goes p e below _ T21 (mkF m 190 #[.val (.int p1), .val (.int p2), .val (.int p3), .val (.int p4), .val (.int p5), .val (.int (1 : Int32)), .val (.int cc1), .val (.int cc2), .val (.int cc3), .val (.int cc4), .val (.ref b17), .val (.int gt), .unset, .unset, .unset, .unset] [])
    refine Goes.of (fun _ => XS.iload X21.here hx rfl (hb hby at_190) rfl) ?_
    show Goes p e below _ T21 (mkF m 192 #[.val (.int p1), .val (.int p2), .val (.int p3), .val (.int p4), .val (.int p5), .val (.int (1 : Int32)), .val (.int cc1), .val (.int cc2), .val (.int cc3), .val (.int cc4), .val (.ref b17), .val (.int gt), .unset, .unset, .unset, .unset] [(.int cc1)])
    refine goStatic 0 X21 hx hZ hown (hw _ (List.mem_of_getElem? (i := 77) rfl)) (hw _ (List.mem_of_getElem? (i := 78) rfl)) (hw _ (List.mem_of_getElem? (i := 3) rfl)) (hw _ (List.mem_of_getElem? (i := 79) rfl)) (by decide) (rm_dig l Z a0 hw cc1 T20.heap n0 O0) eT21 (g := (mkF m 192 #[.val (.int p1), .val (.int p2), .val (.int p3), .val (.int p4), .val (.int p5), .val (.int (1 : Int32)), .val (.int cc1), .val (.int cc2), .val (.int cc3), .val (.int cc4), .val (.ref b17), .val (.int gt), .unset, .unset, .unset, .unset] [(.int cc1)])) rfl (by rw [hml]; rfl) [(.int cc1)] [] (lenOf pd__C_Z rfl) rfl rfl (by show 2 * 0 + _ ≤ _; exact Nat.le_of_eq rfl) (hb hby at_192) (by decide) (by decide) (by decide) (by decide) ?_
    intro v22 T22 L22 X22 q22
    obtain ⟨rfl, Nq22, eT22⟩ := q22
    have N22 := Fr.app N21 Nq22
    show Goes p e below _ T22 (mkF m 195 #[.val (.int p1), .val (.int p2), .val (.int p3), .val (.int p4), .val (.int p5), .val (.int (1 : Int32)), .val (.int cc1), .val (.int cc2), .val (.int cc3), .val (.int cc4), .val (.ref b17), .val (.int gt), .unset, .unset, .unset, .unset] [(.int (digS cc1))])
    refine Goes.of (T' := T22) (f' := (mkF m 203 #[.val (.int p1), .val (.int p2), .val (.int p3), .val (.int p4), .val (.int p5), .val (.int (1 : Int32)), .val (.int cc1), .val (.int cc2), .val (.int cc3), .val (.int cc4), .val (.ref b17), .val (.int gt), .unset, .unset, .unset, .unset] [(.int (if (digS cc1) = (0 : Int32) then (0 : Int32) else (1 : Int32)))])) (fun t kt => ?_) ?_
    · show Steps p.tables e below (T22.setTop (mkF m 195 #[.val (.int p1), .val (.int p2), .val (.int p3), .val (.int p4), .val (.int p5), .val (.int (1 : Int32)), .val (.int cc1), .val (.int cc2), .val (.int cc3), .val (.int cc4), .val (.ref b17), .val (.int gt), .unset, .unset, .unset, .unset] [(.int (digS cc1))])) _
      by_cases hq195 : (digS cc1) = (0 : Int32)
      · simp only [if_pos hq195] at kt
        refine XS.ifYes X22.here hx rfl (pc0 := 195) (pc' := 202) rfl (hb hby at_195) rfl ((if0 _ _).trans (teq hq195).1) (by decide) (by decide) ?_
        show Steps p.tables e below (T22.setTop (mkF m 202 #[.val (.int p1), .val (.int p2), .val (.int p3), .val (.int p4), .val (.int p5), .val (.int (1 : Int32)), .val (.int cc1), .val (.int cc2), .val (.int cc3), .val (.int cc4), .val (.ref b17), .val (.int gt), .unset, .unset, .unset, .unset] [])) _
        refine XS.iconst X22.here hx rfl (hb hby at_202) ?_
        show Steps p.tables e below (T22.setTop (mkF m 203 #[.val (.int p1), .val (.int p2), .val (.int p3), .val (.int p4), .val (.int p5), .val (.int (1 : Int32)), .val (.int cc1), .val (.int cc2), .val (.int cc3), .val (.int cc4), .val (.ref b17), .val (.int gt), .unset, .unset, .unset, .unset] [(.int (0 : Int32))])) _
        exact kt
      · simp only [if_neg hq195] at kt
        refine XS.ifNo X22.here hx rfl (hb hby at_195) rfl ((if0 _ _).trans (feq hq195).1) ?_
        show Steps p.tables e below (T22.setTop (mkF m 198 #[.val (.int p1), .val (.int p2), .val (.int p3), .val (.int p4), .val (.int p5), .val (.int (1 : Int32)), .val (.int cc1), .val (.int cc2), .val (.int cc3), .val (.int cc4), .val (.ref b17), .val (.int gt), .unset, .unset, .unset, .unset] [])) _
        refine XS.iconst X22.here hx rfl (hb hby at_198) ?_
        show Steps p.tables e below (T22.setTop (mkF m 199 #[.val (.int p1), .val (.int p2), .val (.int p3), .val (.int p4), .val (.int p5), .val (.int (1 : Int32)), .val (.int cc1), .val (.int cc2), .val (.int cc3), .val (.int cc4), .val (.ref b17), .val (.int gt), .unset, .unset, .unset, .unset] [(.int (1 : Int32))])) _
        refine XS.goto X22.here hx rfl (pc0 := 199) (pc' := 203) rfl (hb hby at_199) (by decide) (by decide) ?_
        show Steps p.tables e below (T22.setTop (mkF m 203 #[.val (.int p1), .val (.int p2), .val (.int p3), .val (.int p4), .val (.int p5), .val (.int (1 : Int32)), .val (.int cc1), .val (.int cc2), .val (.int cc3), .val (.int cc4), .val (.ref b17), .val (.int gt), .unset, .unset, .unset, .unset] [(.int (1 : Int32))])) _
        exact kt
    show Goes p e below _ T22 (mkF m 203 #[.val (.int p1), .val (.int p2), .val (.int p3), .val (.int p4), .val (.int p5), .val (.int (1 : Int32)), .val (.int cc1), .val (.int cc2), .val (.int cc3), .val (.int cc4), .val (.ref b17), .val (.int gt), .unset, .unset, .unset, .unset] [(.int (if (digS cc1) = (0 : Int32) then (0 : Int32) else (1 : Int32)))])
    refine goStatic 0 X22 hx hZ hown (hw _ (List.mem_of_getElem? (i := 42) rfl)) (hw _ (List.mem_of_getElem? (i := 43) rfl)) (hw _ (List.mem_of_getElem? (i := 3) rfl)) (hw _ (List.mem_of_getElem? (i := 44) rfl)) (by decide) (rm_one l Z a0 hw (if (digS cc1) = (0 : Int32) then (0 : Int32) else (1 : Int32)) T20.heap n0 O0) eT22 (g := (mkF m 203 #[.val (.int p1), .val (.int p2), .val (.int p3), .val (.int p4), .val (.int p5), .val (.int (1 : Int32)), .val (.int cc1), .val (.int cc2), .val (.int cc3), .val (.int cc4), .val (.ref b17), .val (.int gt), .unset, .unset, .unset, .unset] [(.int (if (digS cc1) = (0 : Int32) then (0 : Int32) else (1 : Int32)))])) rfl (by rw [hml]; rfl) [(.int (if (digS cc1) = (0 : Int32) then (0 : Int32) else (1 : Int32)))] [] (lenOf pd__Z_I rfl) rfl rfl (by show 2 * 0 + _ ≤ _; exact Nat.le_of_eq rfl) (hb hby at_203) (by decide) (by decide) (by decide) (by decide) ?_
    intro v23 T23 L23 X23 q23
    obtain ⟨rfl, Nq23, eT23⟩ := q23
    have N23 := Fr.app N22 Nq23
    show Goes p e below _ T23 (mkF m 206 #[.val (.int p1), .val (.int p2), .val (.int p3), .val (.int p4), .val (.int p5), .val (.int (1 : Int32)), .val (.int cc1), .val (.int cc2), .val (.int cc3), .val (.int cc4), .val (.ref b17), .val (.int gt), .unset, .unset, .unset, .unset] [(.int (if (if (digS cc1) = (0 : Int32) then (0 : Int32) else (1 : Int32)) = (0 : Int32) then (0 : Int32) else (1 : Int32)))])
    generalize eo1 : (if (if (digS cc1) = (0 : Int32) then (0 : Int32) else (1 : Int32)) = (0 : Int32) then (0 : Int32) else (1 : Int32)) = o1
    show Goes p e below _ T23 (mkF m 206 #[.val (.int p1), .val (.int p2), .val (.int p3), .val (.int p4), .val (.int p5), .val (.int (1 : Int32)), .val (.int cc1), .val (.int cc2), .val (.int cc3), .val (.int cc4), .val (.ref b17), .val (.int gt), .unset, .unset, .unset, .unset] [(.int o1)])
    refine Goes.of (fun _ => XS.iload X23.here hx rfl (hb hby at_206) rfl) ?_
    show Goes p e below _ T23 (mkF m 208 #[.val (.int p1), .val (.int p2), .val (.int p3), .val (.int p4), .val (.int p5), .val (.int (1 : Int32)), .val (.int cc1), .val (.int cc2), .val (.int cc3), .val (.int cc4), .val (.ref b17), .val (.int gt), .unset, .unset, .unset, .unset] [(.int (1 : Int32)), (.int o1)])
    refine Goes.of (fun _ => XS.iconst X23.here hx rfl (hb hby at_208)) ?_
    show Goes p e below _ T23 (mkF m 209 #[.val (.int p1), .val (.int p2), .val (.int p3), .val (.int p4), .val (.int p5), .val (.int (1 : Int32)), .val (.int cc1), .val (.int cc2), .val (.int cc3), .val (.int cc4), .val (.ref b17), .val (.int gt), .unset, .unset, .unset, .unset] [(.int (1 : Int32)), (.int (1 : Int32)), (.int o1)])
    refine Goes.of (fun _ => XS.icmpYes X23.here hx rfl (pc0 := 209) (pc' := 224) rfl (hb hby at_209) rfl (flt (by decide)).2.2.2 (by decide) (by decide)) ?_
    show Goes p e below _ T23 (mkF m 224 #[.val (.int p1), .val (.int p2), .val (.int p3), .val (.int p4), .val (.int p5), .val (.int (1 : Int32)), .val (.int cc1), .val (.int cc2), .val (.int cc3), .val (.int cc4), .val (.ref b17), .val (.int gt), .unset, .unset, .unset, .unset] [(.int o1)])
    refine Goes.of (fun _ => XS.iconst X23.here hx rfl (hb hby at_224)) ?_
    show Goes p e below _ T23 (mkF m 225 #[.val (.int p1), .val (.int p2), .val (.int p3), .val (.int p4), .val (.int p5), .val (.int (1 : Int32)), .val (.int cc1), .val (.int cc2), .val (.int cc3), .val (.int cc4), .val (.ref b17), .val (.int gt), .unset, .unset, .unset, .unset] [(.int (0 : Int32)), (.int o1)])
    refine goStatic 1 X23 hx hZ hown (hw _ (List.mem_of_getElem? (i := 42) rfl)) (hw _ (List.mem_of_getElem? (i := 43) rfl)) (hw _ (List.mem_of_getElem? (i := 3) rfl)) (hw _ (List.mem_of_getElem? (i := 44) rfl)) (by decide) (rm_one l Z a0 hw (0 : Int32) T20.heap n0 O0) eT23 (g := (mkF m 225 #[.val (.int p1), .val (.int p2), .val (.int p3), .val (.int p4), .val (.int p5), .val (.int (1 : Int32)), .val (.int cc1), .val (.int cc2), .val (.int cc3), .val (.int cc4), .val (.ref b17), .val (.int gt), .unset, .unset, .unset, .unset] [(.int (0 : Int32)), (.int o1)])) rfl (by rw [hml]; rfl) [(.int (0 : Int32))] [(.int o1)] (lenOf pd__Z_I rfl) rfl rfl (by show 2 * 0 + _ ≤ _; exact Nat.le_of_eq rfl) (hb hby at_225) (by decide) (by decide) (by decide) (by decide) ?_
    intro v24 T24 L24 X24 q24
    obtain ⟨rfl, Nq24, eT24⟩ := q24
    have N24 := Fr.app N23 Nq24
    show Goes p e below _ T24 (mkF m 228 #[.val (.int p1), .val (.int p2), .val (.int p3), .val (.int p4), .val (.int p5), .val (.int (1 : Int32)), .val (.int cc1), .val (.int cc2), .val (.int cc3), .val (.int cc4), .val (.ref b17), .val (.int gt), .unset, .unset, .unset, .unset] [(.int (if (0 : Int32) = (0 : Int32) then (0 : Int32) else (1 : Int32))), (.int o1)])
    generalize eo2 : (if (0 : Int32) = (0 : Int32) then (0 : Int32) else (1 : Int32)) = o2
    show Goes p e below _ T24 (mkF m 228 #[.val (.int p1), .val (.int p2), .val (.int p3), .val (.int p4), .val (.int p5), .val (.int (1 : Int32)), .val (.int cc1), .val (.int cc2), .val (.int cc3), .val (.int cc4), .val (.ref b17), .val (.int gt), .unset, .unset, .unset, .unset] [(.int o2), (.int o1)])
    refine Goes.of (fun _ => XS.iadd X24.here hx rfl (hb hby at_228) rfl) ?_
    show Goes p e below _ T24 (mkF m 229 #[.val (.int p1), .val (.int p2), .val (.int p3), .val (.int p4), .val (.int p5), .val (.int (1 : Int32)), .val (.int cc1), .val (.int cc2), .val (.int cc3), .val (.int cc4), .val (.ref b17), .val (.int gt), .unset, .unset, .unset, .unset] [(.int (o1 + o2))])
    refine Goes.of (fun _ => XS.iload X24.here hx rfl (hb hby at_229) rfl) ?_
    show Goes p e below _ T24 (mkF m 231 #[.val (.int p1), .val (.int p2), .val (.int p3), .val (.int p4), .val (.int p5), .val (.int (1 : Int32)), .val (.int cc1), .val (.int cc2), .val (.int cc3), .val (.int cc4), .val (.ref b17), .val (.int gt), .unset, .unset, .unset, .unset] [(.int (1 : Int32)), (.int (o1 + o2))])
    refine Goes.of (fun _ => XS.iconst X24.here hx rfl (hb hby at_231)) ?_
    show Goes p e below _ T24 (mkF m 232 #[.val (.int p1), .val (.int p2), .val (.int p3), .val (.int p4), .val (.int p5), .val (.int (1 : Int32)), .val (.int cc1), .val (.int cc2), .val (.int cc3), .val (.int cc4), .val (.ref b17), .val (.int gt), .unset, .unset, .unset, .unset] [(.int (2 : Int32)), (.int (1 : Int32)), (.int (o1 + o2))])
    refine Goes.of (fun _ => XS.icmpYes X24.here hx rfl (pc0 := 232) (pc' := 247) rfl (hb hby at_232) rfl (flt (by decide)).2.2.2 (by decide) (by decide)) ?_
    show Goes p e below _ T24 (mkF m 247 #[.val (.int p1), .val (.int p2), .val (.int p3), .val (.int p4), .val (.int p5), .val (.int (1 : Int32)), .val (.int cc1), .val (.int cc2), .val (.int cc3), .val (.int cc4), .val (.ref b17), .val (.int gt), .unset, .unset, .unset, .unset] [(.int (o1 + o2))])
    refine Goes.of (fun _ => XS.iconst X24.here hx rfl (hb hby at_247)) ?_
    show Goes p e below _ T24 (mkF m 248 #[.val (.int p1), .val (.int p2), .val (.int p3), .val (.int p4), .val (.int p5), .val (.int (1 : Int32)), .val (.int cc1), .val (.int cc2), .val (.int cc3), .val (.int cc4), .val (.ref b17), .val (.int gt), .unset, .unset, .unset, .unset] [(.int (0 : Int32)), (.int (o1 + o2))])
    refine goStatic 1 X24 hx hZ hown (hw _ (List.mem_of_getElem? (i := 42) rfl)) (hw _ (List.mem_of_getElem? (i := 43) rfl)) (hw _ (List.mem_of_getElem? (i := 3) rfl)) (hw _ (List.mem_of_getElem? (i := 44) rfl)) (by decide) (rm_one l Z a0 hw (0 : Int32) T20.heap n0 O0) eT24 (g := (mkF m 248 #[.val (.int p1), .val (.int p2), .val (.int p3), .val (.int p4), .val (.int p5), .val (.int (1 : Int32)), .val (.int cc1), .val (.int cc2), .val (.int cc3), .val (.int cc4), .val (.ref b17), .val (.int gt), .unset, .unset, .unset, .unset] [(.int (0 : Int32)), (.int (o1 + o2))])) rfl (by rw [hml]; rfl) [(.int (0 : Int32))] [(.int (o1 + o2))] (lenOf pd__Z_I rfl) rfl rfl (by show 2 * 0 + _ ≤ _; exact Nat.le_of_eq rfl) (hb hby at_248) (by decide) (by decide) (by decide) (by decide) ?_
    intro v25 T25 L25 X25 q25
    obtain ⟨rfl, Nq25, eT25⟩ := q25
    have N25 := Fr.app N24 Nq25
    show Goes p e below _ T25 (mkF m 251 #[.val (.int p1), .val (.int p2), .val (.int p3), .val (.int p4), .val (.int p5), .val (.int (1 : Int32)), .val (.int cc1), .val (.int cc2), .val (.int cc3), .val (.int cc4), .val (.ref b17), .val (.int gt), .unset, .unset, .unset, .unset] [(.int (if (0 : Int32) = (0 : Int32) then (0 : Int32) else (1 : Int32))), (.int (o1 + o2))])
    generalize eo3 : (if (0 : Int32) = (0 : Int32) then (0 : Int32) else (1 : Int32)) = o3
    show Goes p e below _ T25 (mkF m 251 #[.val (.int p1), .val (.int p2), .val (.int p3), .val (.int p4), .val (.int p5), .val (.int (1 : Int32)), .val (.int cc1), .val (.int cc2), .val (.int cc3), .val (.int cc4), .val (.ref b17), .val (.int gt), .unset, .unset, .unset, .unset] [(.int o3), (.int (o1 + o2))])
    refine Goes.of (fun _ => XS.iadd X25.here hx rfl (hb hby at_251) rfl) ?_
    show Goes p e below _ T25 (mkF m 252 #[.val (.int p1), .val (.int p2), .val (.int p3), .val (.int p4), .val (.int p5), .val (.int (1 : Int32)), .val (.int cc1), .val (.int cc2), .val (.int cc3), .val (.int cc4), .val (.ref b17), .val (.int gt), .unset, .unset, .unset, .unset] [(.int ((o1 + o2) + o3))])
    refine Goes.of (fun _ => XS.iload X25.here hx rfl (hb hby at_252) rfl) ?_
    show Goes p e below _ T25 (mkF m 254 #[.val (.int p1), .val (.int p2), .val (.int p3), .val (.int p4), .val (.int p5), .val (.int (1 : Int32)), .val (.int cc1), .val (.int cc2), .val (.int cc3), .val (.int cc4), .val (.ref b17), .val (.int gt), .unset, .unset, .unset, .unset] [(.int (1 : Int32)), (.int ((o1 + o2) + o3))])
    refine Goes.of (fun _ => XS.iconst X25.here hx rfl (hb hby at_254)) ?_
    show Goes p e below _ T25 (mkF m 255 #[.val (.int p1), .val (.int p2), .val (.int p3), .val (.int p4), .val (.int p5), .val (.int (1 : Int32)), .val (.int cc1), .val (.int cc2), .val (.int cc3), .val (.int cc4), .val (.ref b17), .val (.int gt), .unset, .unset, .unset, .unset] [(.int (3 : Int32)), (.int (1 : Int32)), (.int ((o1 + o2) + o3))])
    refine Goes.of (fun _ => XS.icmpYes X25.here hx rfl (pc0 := 255) (pc' := 270) rfl (hb hby at_255) rfl (flt (by decide)).2.2.2 (by decide) (by decide)) ?_
    show Goes p e below _ T25 (mkF m 270 #[.val (.int p1), .val (.int p2), .val (.int p3), .val (.int p4), .val (.int p5), .val (.int (1 : Int32)), .val (.int cc1), .val (.int cc2), .val (.int cc3), .val (.int cc4), .val (.ref b17), .val (.int gt), .unset, .unset, .unset, .unset] [(.int ((o1 + o2) + o3))])
    refine Goes.of (fun _ => XS.iconst X25.here hx rfl (hb hby at_270)) ?_
    show Goes p e below _ T25 (mkF m 271 #[.val (.int p1), .val (.int p2), .val (.int p3), .val (.int p4), .val (.int p5), .val (.int (1 : Int32)), .val (.int cc1), .val (.int cc2), .val (.int cc3), .val (.int cc4), .val (.ref b17), .val (.int gt), .unset, .unset, .unset, .unset] [(.int (0 : Int32)), (.int ((o1 + o2) + o3))])
    refine goStatic 1 X25 hx hZ hown (hw _ (List.mem_of_getElem? (i := 42) rfl)) (hw _ (List.mem_of_getElem? (i := 43) rfl)) (hw _ (List.mem_of_getElem? (i := 3) rfl)) (hw _ (List.mem_of_getElem? (i := 44) rfl)) (by decide) (rm_one l Z a0 hw (0 : Int32) T20.heap n0 O0) eT25 (g := (mkF m 271 #[.val (.int p1), .val (.int p2), .val (.int p3), .val (.int p4), .val (.int p5), .val (.int (1 : Int32)), .val (.int cc1), .val (.int cc2), .val (.int cc3), .val (.int cc4), .val (.ref b17), .val (.int gt), .unset, .unset, .unset, .unset] [(.int (0 : Int32)), (.int ((o1 + o2) + o3))])) rfl (by rw [hml]; rfl) [(.int (0 : Int32))] [(.int ((o1 + o2) + o3))] (lenOf pd__Z_I rfl) rfl rfl (by show 2 * 0 + _ ≤ _; exact Nat.le_of_eq rfl) (hb hby at_271) (by decide) (by decide) (by decide) (by decide) ?_
    intro v26 T26 L26 X26 q26
    obtain ⟨rfl, Nq26, eT26⟩ := q26
    have N26 := Fr.app N25 Nq26
    show Goes p e below _ T26 (mkF m 274 #[.val (.int p1), .val (.int p2), .val (.int p3), .val (.int p4), .val (.int p5), .val (.int (1 : Int32)), .val (.int cc1), .val (.int cc2), .val (.int cc3), .val (.int cc4), .val (.ref b17), .val (.int gt), .unset, .unset, .unset, .unset] [(.int (if (0 : Int32) = (0 : Int32) then (0 : Int32) else (1 : Int32))), (.int ((o1 + o2) + o3))])
    generalize eo4 : (if (0 : Int32) = (0 : Int32) then (0 : Int32) else (1 : Int32)) = o4
    show Goes p e below _ T26 (mkF m 274 #[.val (.int p1), .val (.int p2), .val (.int p3), .val (.int p4), .val (.int p5), .val (.int (1 : Int32)), .val (.int cc1), .val (.int cc2), .val (.int cc3), .val (.int cc4), .val (.ref b17), .val (.int gt), .unset, .unset, .unset, .unset] [(.int o4), (.int ((o1 + o2) + o3))])
    refine Goes.of (fun _ => XS.iadd X26.here hx rfl (hb hby at_274) rfl) ?_
    show Goes p e below _ T26 (mkF m 275 #[.val (.int p1), .val (.int p2), .val (.int p3), .val (.int p4), .val (.int p5), .val (.int (1 : Int32)), .val (.int cc1), .val (.int cc2), .val (.int cc3), .val (.int cc4), .val (.ref b17), .val (.int gt), .unset, .unset, .unset, .unset] [(.int (((o1 + o2) + o3) + o4))])
    refine Goes.of (fun _ => XS.istore X26.here hx rfl (hb hby at_275) rfl (l' := #[.val (.int p1), .val (.int p2), .val (.int p3), .val (.int p4), .val (.int p5), .val (.int (1 : Int32)), .val (.int cc1), .val (.int cc2), .val (.int cc3), .val (.int cc4), .val (.ref b17), .val (.int gt), .val (.int (((o1 + o2) + o3) + o4)), .unset, .unset, .unset]) rfl) ?_
    show Goes p e below _ T26 (mkF m 277 #[.val (.int p1), .val (.int p2), .val (.int p3), .val (.int p4), .val (.int p5), .val (.int (1 : Int32)), .val (.int cc1), .val (.int cc2), .val (.int cc3), .val (.int cc4), .val (.ref b17), .val (.int gt), .val (.int (((o1 + o2) + o3) + o4)), .unset, .unset, .unset] [])
    generalize edg : (((o1 + o2) + o3) + o4) = dg
    show Goes p e below _ T26 (mkF m 277 #[.val (.int p1), .val (.int p2), .val (.int p3), .val (.int p4), .val (.int p5), .val (.int (1 : Int32)), .val (.int cc1), .val (.int cc2), .val (.int cc3), .val (.int cc4), .val (.ref b17), .val (.int gt), .val (.int dg), .unset, .unset, .unset] [])
    refine Goes.of (fun _ => XS.iload X26.here hx rfl (hb hby at_277) rfl) ?_
    show Goes p e below _ T26 (mkF m 279 #[.val (.int p1), .val (.int p2), .val (.int p3), .val (.int p4), .val (.int p5), .val (.int (1 : Int32)), .val (.int cc1), .val (.int cc2), .val (.int cc3), .val (.int cc4), .val (.ref b17), .val (.int gt), .val (.int dg), .unset, .unset, .unset] [(.int (1 : Int32))])
    refine Goes.of (fun _ => XS.ifNo X26.here hx rfl (hb hby at_279) rfl ((if0 _ _).trans (tlt (by decide)).2.2.2)) ?_
    show Goes p e below _ T26 (mkF m 282 #[.val (.int p1), .val (.int p2), .val (.int p3), .val (.int p4), .val (.int p5), .val (.int (1 : Int32)), .val (.int cc1), .val (.int cc2), .val (.int cc3), .val (.int cc4), .val (.ref b17), .val (.int gt), .val (.int dg), .unset, .unset, .unset] [])
    refine Goes.of (fun _ => XS.iload X26.here hx rfl (hb hby at_282) rfl) ?_
    show Goes p e below _ T26 (mkF m 284 #[.val (.int p1), .val (.int p2), .val (.int p3), .val (.int p4), .val (.int p5), .val (.int (1 : Int32)), .val (.int cc1), .val (.int cc2), .val (.int cc3), .val (.int cc4), .val (.ref b17), .val (.int gt), .val (.int dg), .unset, .unset, .unset] [(.int cc1)])
    refine Goes.of (fun _ => XS.bipush X26.here hx rfl (hb hby at_284)) ?_
    show Goes p e below _ T26 (mkF m 286 #[.val (.int p1), .val (.int p2), .val (.int p3), .val (.int p4), .val (.int p5), .val (.int (1 : Int32)), .val (.int cc1), .val (.int cc2), .val (.int cc3), .val (.int cc4), .val (.ref b17), .val (.int gt), .val (.int dg), .unset, .unset, .unset] [(.int (46 : Int32)), (.int cc1)])
    refine Goes.of (T' := T26) (f' := (mkF m 294 #[.val (.int p1), .val (.int p2), .val (.int p3), .val (.int p4), .val (.int p5), .val (.int (1 : Int32)), .val (.int cc1), .val (.int cc2), .val (.int cc3), .val (.int cc4), .val (.ref b17), .val (.int gt), .val (.int dg), .unset, .unset, .unset] [(.int (if cc1 = (46 : Int32) then (1 : Int32) else (0 : Int32)))])) (fun t kt => ?_) ?_
    · show Steps p.tables e below (T26.setTop (mkF m 286 #[.val (.int p1), .val (.int p2), .val (.int p3), .val (.int p4), .val (.int p5), .val (.int (1 : Int32)), .val (.int cc1), .val (.int cc2), .val (.int cc3), .val (.int cc4), .val (.ref b17), .val (.int gt), .val (.int dg), .unset, .unset, .unset] [(.int (46 : Int32)), (.int cc1)])) _
      by_cases hq286 : cc1 = (46 : Int32)
      · simp only [if_pos hq286] at kt
        refine XS.icmpNo X26.here hx rfl (hb hby at_286) rfl (teq hq286).2 ?_
        show Steps p.tables e below (T26.setTop (mkF m 289 #[.val (.int p1), .val (.int p2), .val (.int p3), .val (.int p4), .val (.int p5), .val (.int (1 : Int32)), .val (.int cc1), .val (.int cc2), .val (.int cc3), .val (.int cc4), .val (.ref b17), .val (.int gt), .val (.int dg), .unset, .unset, .unset] [])) _
        refine XS.iconst X26.here hx rfl (hb hby at_289) ?_
        show Steps p.tables e below (T26.setTop (mkF m 290 #[.val (.int p1), .val (.int p2), .val (.int p3), .val (.int p4), .val (.int p5), .val (.int (1 : Int32)), .val (.int cc1), .val (.int cc2), .val (.int cc3), .val (.int cc4), .val (.ref b17), .val (.int gt), .val (.int dg), .unset, .unset, .unset] [(.int (1 : Int32))])) _
        refine XS.goto X26.here hx rfl (pc0 := 290) (pc' := 294) rfl (hb hby at_290) (by decide) (by decide) ?_
        show Steps p.tables e below (T26.setTop (mkF m 294 #[.val (.int p1), .val (.int p2), .val (.int p3), .val (.int p4), .val (.int p5), .val (.int (1 : Int32)), .val (.int cc1), .val (.int cc2), .val (.int cc3), .val (.int cc4), .val (.ref b17), .val (.int gt), .val (.int dg), .unset, .unset, .unset] [(.int (1 : Int32))])) _
        exact kt
      · simp only [if_neg hq286] at kt
        refine XS.icmpYes X26.here hx rfl (pc0 := 286) (pc' := 293) rfl (hb hby at_286) rfl (feq hq286).2 (by decide) (by decide) ?_
        show Steps p.tables e below (T26.setTop (mkF m 293 #[.val (.int p1), .val (.int p2), .val (.int p3), .val (.int p4), .val (.int p5), .val (.int (1 : Int32)), .val (.int cc1), .val (.int cc2), .val (.int cc3), .val (.int cc4), .val (.ref b17), .val (.int gt), .val (.int dg), .unset, .unset, .unset] [])) _
        refine XS.iconst X26.here hx rfl (hb hby at_293) ?_
        show Steps p.tables e below (T26.setTop (mkF m 294 #[.val (.int p1), .val (.int p2), .val (.int p3), .val (.int p4), .val (.int p5), .val (.int (1 : Int32)), .val (.int cc1), .val (.int cc2), .val (.int cc3), .val (.int cc4), .val (.ref b17), .val (.int gt), .val (.int dg), .unset, .unset, .unset] [(.int (0 : Int32))])) _
        exact kt
    show Goes p e below _ T26 (mkF m 294 #[.val (.int p1), .val (.int p2), .val (.int p3), .val (.int p4), .val (.int p5), .val (.int (1 : Int32)), .val (.int cc1), .val (.int cc2), .val (.int cc3), .val (.int cc4), .val (.ref b17), .val (.int gt), .val (.int dg), .unset, .unset, .unset] [(.int (if cc1 = (46 : Int32) then (1 : Int32) else (0 : Int32)))])
    refine goStatic 0 X26 hx hZ hown (hw _ (List.mem_of_getElem? (i := 42) rfl)) (hw _ (List.mem_of_getElem? (i := 43) rfl)) (hw _ (List.mem_of_getElem? (i := 3) rfl)) (hw _ (List.mem_of_getElem? (i := 44) rfl)) (by decide) (rm_one l Z a0 hw (if cc1 = (46 : Int32) then (1 : Int32) else (0 : Int32)) T20.heap n0 O0) eT26 (g := (mkF m 294 #[.val (.int p1), .val (.int p2), .val (.int p3), .val (.int p4), .val (.int p5), .val (.int (1 : Int32)), .val (.int cc1), .val (.int cc2), .val (.int cc3), .val (.int cc4), .val (.ref b17), .val (.int gt), .val (.int dg), .unset, .unset, .unset] [(.int (if cc1 = (46 : Int32) then (1 : Int32) else (0 : Int32)))])) rfl (by rw [hml]; rfl) [(.int (if cc1 = (46 : Int32) then (1 : Int32) else (0 : Int32)))] [] (lenOf pd__Z_I rfl) rfl rfl (by show 2 * 0 + _ ≤ _; exact Nat.le_of_eq rfl) (hb hby at_294) (by decide) (by decide) (by decide) (by decide) ?_
    intro v27 T27 L27 X27 q27
    obtain ⟨rfl, Nq27, eT27⟩ := q27
    have N27 := Fr.app N26 Nq27
    show Goes p e below _ T27 (mkF m 297 #[.val (.int p1), .val (.int p2), .val (.int p3), .val (.int p4), .val (.int p5), .val (.int (1 : Int32)), .val (.int cc1), .val (.int cc2), .val (.int cc3), .val (.int cc4), .val (.ref b17), .val (.int gt), .val (.int dg), .unset, .unset, .unset] [(.int (if (if cc1 = (46 : Int32) then (1 : Int32) else (0 : Int32)) = (0 : Int32) then (0 : Int32) else (1 : Int32)))])
    generalize er1 : (if (if cc1 = (46 : Int32) then (1 : Int32) else (0 : Int32)) = (0 : Int32) then (0 : Int32) else (1 : Int32)) = r1
    show Goes p e below _ T27 (mkF m 297 #[.val (.int p1), .val (.int p2), .val (.int p3), .val (.int p4), .val (.int p5), .val (.int (1 : Int32)), .val (.int cc1), .val (.int cc2), .val (.int cc3), .val (.int cc4), .val (.ref b17), .val (.int gt), .val (.int dg), .unset, .unset, .unset] [(.int r1)])
    refine Goes.of (fun _ => XS.iload X27.here hx rfl (hb hby at_297) rfl) ?_
    show Goes p e below _ T27 (mkF m 299 #[.val (.int p1), .val (.int p2), .val (.int p3), .val (.int p4), .val (.int p5), .val (.int (1 : Int32)), .val (.int cc1), .val (.int cc2), .val (.int cc3), .val (.int cc4), .val (.ref b17), .val (.int gt), .val (.int dg), .unset, .unset, .unset] [(.int (1 : Int32)), (.int r1)])
    refine Goes.of (fun _ => XS.iconst X27.here hx rfl (hb hby at_299)) ?_
    show Goes p e below _ T27 (mkF m 300 #[.val (.int p1), .val (.int p2), .val (.int p3), .val (.int p4), .val (.int p5), .val (.int (1 : Int32)), .val (.int cc1), .val (.int cc2), .val (.int cc3), .val (.int cc4), .val (.ref b17), .val (.int gt), .val (.int dg), .unset, .unset, .unset] [(.int (1 : Int32)), (.int (1 : Int32)), (.int r1)])
    refine Goes.of (fun _ => XS.icmpYes X27.here hx rfl (pc0 := 300) (pc' := 314) rfl (hb hby at_300) rfl (flt (by decide)).2.2.2 (by decide) (by decide)) ?_
    show Goes p e below _ T27 (mkF m 314 #[.val (.int p1), .val (.int p2), .val (.int p3), .val (.int p4), .val (.int p5), .val (.int (1 : Int32)), .val (.int cc1), .val (.int cc2), .val (.int cc3), .val (.int cc4), .val (.ref b17), .val (.int gt), .val (.int dg), .unset, .unset, .unset] [(.int r1)])
    refine Goes.of (fun _ => XS.iconst X27.here hx rfl (hb hby at_314)) ?_
    show Goes p e below _ T27 (mkF m 315 #[.val (.int p1), .val (.int p2), .val (.int p3), .val (.int p4), .val (.int p5), .val (.int (1 : Int32)), .val (.int cc1), .val (.int cc2), .val (.int cc3), .val (.int cc4), .val (.ref b17), .val (.int gt), .val (.int dg), .unset, .unset, .unset] [(.int (0 : Int32)), (.int r1)])
    refine goStatic 1 X27 hx hZ hown (hw _ (List.mem_of_getElem? (i := 42) rfl)) (hw _ (List.mem_of_getElem? (i := 43) rfl)) (hw _ (List.mem_of_getElem? (i := 3) rfl)) (hw _ (List.mem_of_getElem? (i := 44) rfl)) (by decide) (rm_one l Z a0 hw (0 : Int32) T20.heap n0 O0) eT27 (g := (mkF m 315 #[.val (.int p1), .val (.int p2), .val (.int p3), .val (.int p4), .val (.int p5), .val (.int (1 : Int32)), .val (.int cc1), .val (.int cc2), .val (.int cc3), .val (.int cc4), .val (.ref b17), .val (.int gt), .val (.int dg), .unset, .unset, .unset] [(.int (0 : Int32)), (.int r1)])) rfl (by rw [hml]; rfl) [(.int (0 : Int32))] [(.int r1)] (lenOf pd__Z_I rfl) rfl rfl (by show 2 * 0 + _ ≤ _; exact Nat.le_of_eq rfl) (hb hby at_315) (by decide) (by decide) (by decide) (by decide) ?_
    intro v28 T28 L28 X28 q28
    obtain ⟨rfl, Nq28, eT28⟩ := q28
    have N28 := Fr.app N27 Nq28
    show Goes p e below _ T28 (mkF m 318 #[.val (.int p1), .val (.int p2), .val (.int p3), .val (.int p4), .val (.int p5), .val (.int (1 : Int32)), .val (.int cc1), .val (.int cc2), .val (.int cc3), .val (.int cc4), .val (.ref b17), .val (.int gt), .val (.int dg), .unset, .unset, .unset] [(.int (if (0 : Int32) = (0 : Int32) then (0 : Int32) else (1 : Int32))), (.int r1)])
    generalize er2 : (if (0 : Int32) = (0 : Int32) then (0 : Int32) else (1 : Int32)) = r2
    show Goes p e below _ T28 (mkF m 318 #[.val (.int p1), .val (.int p2), .val (.int p3), .val (.int p4), .val (.int p5), .val (.int (1 : Int32)), .val (.int cc1), .val (.int cc2), .val (.int cc3), .val (.int cc4), .val (.ref b17), .val (.int gt), .val (.int dg), .unset, .unset, .unset] [(.int r2), (.int r1)])
    refine Goes.of (fun _ => XS.iadd X28.here hx rfl (hb hby at_318) rfl) ?_
    show Goes p e below _ T28 (mkF m 319 #[.val (.int p1), .val (.int p2), .val (.int p3), .val (.int p4), .val (.int p5), .val (.int (1 : Int32)), .val (.int cc1), .val (.int cc2), .val (.int cc3), .val (.int cc4), .val (.ref b17), .val (.int gt), .val (.int dg), .unset, .unset, .unset] [(.int (r1 + r2))])
    refine Goes.of (fun _ => XS.iload X28.here hx rfl (hb hby at_319) rfl) ?_
    show Goes p e below _ T28 (mkF m 321 #[.val (.int p1), .val (.int p2), .val (.int p3), .val (.int p4), .val (.int p5), .val (.int (1 : Int32)), .val (.int cc1), .val (.int cc2), .val (.int cc3), .val (.int cc4), .val (.ref b17), .val (.int gt), .val (.int dg), .unset, .unset, .unset] [(.int (1 : Int32)), (.int (r1 + r2))])
    refine Goes.of (fun _ => XS.iconst X28.here hx rfl (hb hby at_321)) ?_
    show Goes p e below _ T28 (mkF m 322 #[.val (.int p1), .val (.int p2), .val (.int p3), .val (.int p4), .val (.int p5), .val (.int (1 : Int32)), .val (.int cc1), .val (.int cc2), .val (.int cc3), .val (.int cc4), .val (.ref b17), .val (.int gt), .val (.int dg), .unset, .unset, .unset] [(.int (2 : Int32)), (.int (1 : Int32)), (.int (r1 + r2))])
    refine Goes.of (fun _ => XS.icmpYes X28.here hx rfl (pc0 := 322) (pc' := 336) rfl (hb hby at_322) rfl (flt (by decide)).2.2.2 (by decide) (by decide)) ?_
    show Goes p e below _ T28 (mkF m 336 #[.val (.int p1), .val (.int p2), .val (.int p3), .val (.int p4), .val (.int p5), .val (.int (1 : Int32)), .val (.int cc1), .val (.int cc2), .val (.int cc3), .val (.int cc4), .val (.ref b17), .val (.int gt), .val (.int dg), .unset, .unset, .unset] [(.int (r1 + r2))])
    refine Goes.of (fun _ => XS.iconst X28.here hx rfl (hb hby at_336)) ?_
    show Goes p e below _ T28 (mkF m 337 #[.val (.int p1), .val (.int p2), .val (.int p3), .val (.int p4), .val (.int p5), .val (.int (1 : Int32)), .val (.int cc1), .val (.int cc2), .val (.int cc3), .val (.int cc4), .val (.ref b17), .val (.int gt), .val (.int dg), .unset, .unset, .unset] [(.int (0 : Int32)), (.int (r1 + r2))])
    refine goStatic 1 X28 hx hZ hown (hw _ (List.mem_of_getElem? (i := 42) rfl)) (hw _ (List.mem_of_getElem? (i := 43) rfl)) (hw _ (List.mem_of_getElem? (i := 3) rfl)) (hw _ (List.mem_of_getElem? (i := 44) rfl)) (by decide) (rm_one l Z a0 hw (0 : Int32) T20.heap n0 O0) eT28 (g := (mkF m 337 #[.val (.int p1), .val (.int p2), .val (.int p3), .val (.int p4), .val (.int p5), .val (.int (1 : Int32)), .val (.int cc1), .val (.int cc2), .val (.int cc3), .val (.int cc4), .val (.ref b17), .val (.int gt), .val (.int dg), .unset, .unset, .unset] [(.int (0 : Int32)), (.int (r1 + r2))])) rfl (by rw [hml]; rfl) [(.int (0 : Int32))] [(.int (r1 + r2))] (lenOf pd__Z_I rfl) rfl rfl (by show 2 * 0 + _ ≤ _; exact Nat.le_of_eq rfl) (hb hby at_337) (by decide) (by decide) (by decide) (by decide) ?_
    intro v29 T29 L29 X29 q29
    obtain ⟨rfl, Nq29, eT29⟩ := q29
    have N29 := Fr.app N28 Nq29
    show Goes p e below _ T29 (mkF m 340 #[.val (.int p1), .val (.int p2), .val (.int p3), .val (.int p4), .val (.int p5), .val (.int (1 : Int32)), .val (.int cc1), .val (.int cc2), .val (.int cc3), .val (.int cc4), .val (.ref b17), .val (.int gt), .val (.int dg), .unset, .unset, .unset] [(.int (if (0 : Int32) = (0 : Int32) then (0 : Int32) else (1 : Int32))), (.int (r1 + r2))])
    generalize er3 : (if (0 : Int32) = (0 : Int32) then (0 : Int32) else (1 : Int32)) = r3
    show Goes p e below _ T29 (mkF m 340 #[.val (.int p1), .val (.int p2), .val (.int p3), .val (.int p4), .val (.int p5), .val (.int (1 : Int32)), .val (.int cc1), .val (.int cc2), .val (.int cc3), .val (.int cc4), .val (.ref b17), .val (.int gt), .val (.int dg), .unset, .unset, .unset] [(.int r3), (.int (r1 + r2))])
    refine Goes.of (fun _ => XS.iadd X29.here hx rfl (hb hby at_340) rfl) ?_
    show Goes p e below _ T29 (mkF m 341 #[.val (.int p1), .val (.int p2), .val (.int p3), .val (.int p4), .val (.int p5), .val (.int (1 : Int32)), .val (.int cc1), .val (.int cc2), .val (.int cc3), .val (.int cc4), .val (.ref b17), .val (.int gt), .val (.int dg), .unset, .unset, .unset] [(.int ((r1 + r2) + r3))])
    refine Goes.of (fun _ => XS.iload X29.here hx rfl (hb hby at_341) rfl) ?_
    show Goes p e below _ T29 (mkF m 343 #[.val (.int p1), .val (.int p2), .val (.int p3), .val (.int p4), .val (.int p5), .val (.int (1 : Int32)), .val (.int cc1), .val (.int cc2), .val (.int cc3), .val (.int cc4), .val (.ref b17), .val (.int gt), .val (.int dg), .unset, .unset, .unset] [(.int (1 : Int32)), (.int ((r1 + r2) + r3))])
    refine Goes.of (fun _ => XS.iconst X29.here hx rfl (hb hby at_343)) ?_
    show Goes p e below _ T29 (mkF m 344 #[.val (.int p1), .val (.int p2), .val (.int p3), .val (.int p4), .val (.int p5), .val (.int (1 : Int32)), .val (.int cc1), .val (.int cc2), .val (.int cc3), .val (.int cc4), .val (.ref b17), .val (.int gt), .val (.int dg), .unset, .unset, .unset] [(.int (3 : Int32)), (.int (1 : Int32)), (.int ((r1 + r2) + r3))])
    refine Goes.of (fun _ => XS.icmpYes X29.here hx rfl (pc0 := 344) (pc' := 358) rfl (hb hby at_344) rfl (flt (by decide)).2.2.2 (by decide) (by decide)) ?_
    show Goes p e below _ T29 (mkF m 358 #[.val (.int p1), .val (.int p2), .val (.int p3), .val (.int p4), .val (.int p5), .val (.int (1 : Int32)), .val (.int cc1), .val (.int cc2), .val (.int cc3), .val (.int cc4), .val (.ref b17), .val (.int gt), .val (.int dg), .unset, .unset, .unset] [(.int ((r1 + r2) + r3))])
    refine Goes.of (fun _ => XS.iconst X29.here hx rfl (hb hby at_358)) ?_
    show Goes p e below _ T29 (mkF m 359 #[.val (.int p1), .val (.int p2), .val (.int p3), .val (.int p4), .val (.int p5), .val (.int (1 : Int32)), .val (.int cc1), .val (.int cc2), .val (.int cc3), .val (.int cc4), .val (.ref b17), .val (.int gt), .val (.int dg), .unset, .unset, .unset] [(.int (0 : Int32)), (.int ((r1 + r2) + r3))])
    refine goStatic 1 X29 hx hZ hown (hw _ (List.mem_of_getElem? (i := 42) rfl)) (hw _ (List.mem_of_getElem? (i := 43) rfl)) (hw _ (List.mem_of_getElem? (i := 3) rfl)) (hw _ (List.mem_of_getElem? (i := 44) rfl)) (by decide) (rm_one l Z a0 hw (0 : Int32) T20.heap n0 O0) eT29 (g := (mkF m 359 #[.val (.int p1), .val (.int p2), .val (.int p3), .val (.int p4), .val (.int p5), .val (.int (1 : Int32)), .val (.int cc1), .val (.int cc2), .val (.int cc3), .val (.int cc4), .val (.ref b17), .val (.int gt), .val (.int dg), .unset, .unset, .unset] [(.int (0 : Int32)), (.int ((r1 + r2) + r3))])) rfl (by rw [hml]; rfl) [(.int (0 : Int32))] [(.int ((r1 + r2) + r3))] (lenOf pd__Z_I rfl) rfl rfl (by show 2 * 0 + _ ≤ _; exact Nat.le_of_eq rfl) (hb hby at_359) (by decide) (by decide) (by decide) (by decide) ?_
    intro v30 T30 L30 X30 q30
    obtain ⟨rfl, Nq30, eT30⟩ := q30
    have N30 := Fr.app N29 Nq30
    show Goes p e below _ T30 (mkF m 362 #[.val (.int p1), .val (.int p2), .val (.int p3), .val (.int p4), .val (.int p5), .val (.int (1 : Int32)), .val (.int cc1), .val (.int cc2), .val (.int cc3), .val (.int cc4), .val (.ref b17), .val (.int gt), .val (.int dg), .unset, .unset, .unset] [(.int (if (0 : Int32) = (0 : Int32) then (0 : Int32) else (1 : Int32))), (.int ((r1 + r2) + r3))])
    generalize er4 : (if (0 : Int32) = (0 : Int32) then (0 : Int32) else (1 : Int32)) = r4
    show Goes p e below _ T30 (mkF m 362 #[.val (.int p1), .val (.int p2), .val (.int p3), .val (.int p4), .val (.int p5), .val (.int (1 : Int32)), .val (.int cc1), .val (.int cc2), .val (.int cc3), .val (.int cc4), .val (.ref b17), .val (.int gt), .val (.int dg), .unset, .unset, .unset] [(.int r4), (.int ((r1 + r2) + r3))])
    refine Goes.of (fun _ => XS.iadd X30.here hx rfl (hb hby at_362) rfl) ?_
    show Goes p e below _ T30 (mkF m 363 #[.val (.int p1), .val (.int p2), .val (.int p3), .val (.int p4), .val (.int p5), .val (.int (1 : Int32)), .val (.int cc1), .val (.int cc2), .val (.int cc3), .val (.int cc4), .val (.ref b17), .val (.int gt), .val (.int dg), .unset, .unset, .unset] [(.int (((r1 + r2) + r3) + r4))])
    refine Goes.of (fun _ => XS.istore X30.here hx rfl (hb hby at_363) rfl (l' := #[.val (.int p1), .val (.int p2), .val (.int p3), .val (.int p4), .val (.int p5), .val (.int (1 : Int32)), .val (.int cc1), .val (.int cc2), .val (.int cc3), .val (.int cc4), .val (.ref b17), .val (.int gt), .val (.int dg), .val (.int (((r1 + r2) + r3) + r4)), .unset, .unset]) rfl) ?_
    show Goes p e below _ T30 (mkF m 365 #[.val (.int p1), .val (.int p2), .val (.int p3), .val (.int p4), .val (.int p5), .val (.int (1 : Int32)), .val (.int cc1), .val (.int cc2), .val (.int cc3), .val (.int cc4), .val (.ref b17), .val (.int gt), .val (.int dg), .val (.int (((r1 + r2) + r3) + r4)), .unset, .unset] [])
    generalize ept : (((r1 + r2) + r3) + r4) = pt
    show Goes p e below _ T30 (mkF m 365 #[.val (.int p1), .val (.int p2), .val (.int p3), .val (.int p4), .val (.int p5), .val (.int (1 : Int32)), .val (.int cc1), .val (.int cc2), .val (.int cc3), .val (.int cc4), .val (.ref b17), .val (.int gt), .val (.int dg), .val (.int pt), .unset, .unset] [])
    refine Goes.of (fun _ => XS.iconst X30.here hx rfl (hb hby at_365)) ?_
    show Goes p e below _ T30 (mkF m 366 #[.val (.int p1), .val (.int p2), .val (.int p3), .val (.int p4), .val (.int p5), .val (.int (1 : Int32)), .val (.int cc1), .val (.int cc2), .val (.int cc3), .val (.int cc4), .val (.ref b17), .val (.int gt), .val (.int dg), .val (.int pt), .unset, .unset] [(.int (1 : Int32))])
    refine Goes.of (fun _ => XS.istore X30.here hx rfl (hb hby at_366) rfl (l' := #[.val (.int p1), .val (.int p2), .val (.int p3), .val (.int p4), .val (.int p5), .val (.int (1 : Int32)), .val (.int cc1), .val (.int cc2), .val (.int cc3), .val (.int cc4), .val (.ref b17), .val (.int gt), .val (.int dg), .val (.int pt), .val (.int (1 : Int32)), .unset]) rfl) ?_
    show Goes p e below _ T30 (mkF m 368 #[.val (.int p1), .val (.int p2), .val (.int p3), .val (.int p4), .val (.int p5), .val (.int (1 : Int32)), .val (.int cc1), .val (.int cc2), .val (.int cc3), .val (.int cc4), .val (.ref b17), .val (.int gt), .val (.int dg), .val (.int pt), .val (.int (1 : Int32)), .unset] [])
    refine Goes.of (fun _ => XS.iload X30.here hx rfl (hb hby at_368) rfl) ?_
    show Goes p e below _ T30 (mkF m 370 #[.val (.int p1), .val (.int p2), .val (.int p3), .val (.int p4), .val (.int p5), .val (.int (1 : Int32)), .val (.int cc1), .val (.int cc2), .val (.int cc3), .val (.int cc4), .val (.ref b17), .val (.int gt), .val (.int dg), .val (.int pt), .val (.int (1 : Int32)), .unset] [(.int (1 : Int32))])
    refine Goes.of (fun _ => XS.ifNo X30.here hx rfl (hb hby at_370) rfl ((if0 _ _).trans (tlt (by decide)).2.2.2)) ?_
    show Goes p e below _ T30 (mkF m 373 #[.val (.int p1), .val (.int p2), .val (.int p3), .val (.int p4), .val (.int p5), .val (.int (1 : Int32)), .val (.int cc1), .val (.int cc2), .val (.int cc3), .val (.int cc4), .val (.ref b17), .val (.int gt), .val (.int dg), .val (.int pt), .val (.int (1 : Int32)), .unset] [])
    refine Goes.of (fun _ => XS.iload X30.here hx rfl (hb hby at_373) rfl) ?_
    show Goes p e below _ T30 (mkF m 375 #[.val (.int p1), .val (.int p2), .val (.int p3), .val (.int p4), .val (.int p5), .val (.int (1 : Int32)), .val (.int cc1), .val (.int cc2), .val (.int cc3), .val (.int cc4), .val (.ref b17), .val (.int gt), .val (.int dg), .val (.int pt), .val (.int (1 : Int32)), .unset] [(.int cc1)])
    refine goStatic 0 X30 hx hZ hown (hw _ (List.mem_of_getElem? (i := 77) rfl)) (hw _ (List.mem_of_getElem? (i := 78) rfl)) (hw _ (List.mem_of_getElem? (i := 3) rfl)) (hw _ (List.mem_of_getElem? (i := 79) rfl)) (by decide) (rm_dig l Z a0 hw cc1 T20.heap n0 O0) eT30 (g := (mkF m 375 #[.val (.int p1), .val (.int p2), .val (.int p3), .val (.int p4), .val (.int p5), .val (.int (1 : Int32)), .val (.int cc1), .val (.int cc2), .val (.int cc3), .val (.int cc4), .val (.ref b17), .val (.int gt), .val (.int dg), .val (.int pt), .val (.int (1 : Int32)), .unset] [(.int cc1)])) rfl (by rw [hml]; rfl) [(.int cc1)] [] (lenOf pd__C_Z rfl) rfl rfl (by show 2 * 0 + _ ≤ _; exact Nat.le_of_eq rfl) (hb hby at_375) (by decide) (by decide) (by decide) (by decide) ?_
    intro v31 T31 L31 X31 q31
    obtain ⟨rfl, Nq31, eT31⟩ := q31
    have N31 := Fr.app N30 Nq31
    show Goes p e below _ T31 (mkF m 378 #[.val (.int p1), .val (.int p2), .val (.int p3), .val (.int p4), .val (.int p5), .val (.int (1 : Int32)), .val (.int cc1), .val (.int cc2), .val (.int cc3), .val (.int cc4), .val (.ref b17), .val (.int gt), .val (.int dg), .val (.int pt), .val (.int (1 : Int32)), .unset] [(.int (digS cc1))])
    refine Goes.of (T' := T31) (f' := (mkF m 405 #[.val (.int p1), .val (.int p2), .val (.int p3), .val (.int p4), .val (.int p5), .val (.int (1 : Int32)), .val (.int cc1), .val (.int cc2), .val (.int cc3), .val (.int cc4), .val (.ref b17), .val (.int gt), .val (.int dg), .val (.int pt), .val (.int (if (digS cc1) = (0 : Int32) then (if cc1 = (46 : Int32) then (1 : Int32) else (if cc1 = (43 : Int32) then (1 : Int32) else (if cc1 = (45 : Int32) then (1 : Int32) else (0 : Int32)))) else (1 : Int32))), .unset] [])) (fun t kt => ?_) ?_
    · show Steps p.tables e below (T31.setTop (mkF m 378 #[.val (.int p1), .val (.int p2), .val (.int p3), .val (.int p4), .val (.int p5), .val (.int (1 : Int32)), .val (.int cc1), .val (.int cc2), .val (.int cc3), .val (.int cc4), .val (.ref b17), .val (.int gt), .val (.int dg), .val (.int pt), .val (.int (1 : Int32)), .unset] [(.int (digS cc1))])) _
      by_cases hq378 : (digS cc1) = (0 : Int32)
      · simp only [if_pos hq378] at kt
        refine XS.ifNo X31.here hx rfl (hb hby at_378) rfl ((if0 _ _).trans (teq hq378).2) ?_
        show Steps p.tables e below (T31.setTop (mkF m 381 #[.val (.int p1), .val (.int p2), .val (.int p3), .val (.int p4), .val (.int p5), .val (.int (1 : Int32)), .val (.int cc1), .val (.int cc2), .val (.int cc3), .val (.int cc4), .val (.ref b17), .val (.int gt), .val (.int dg), .val (.int pt), .val (.int (1 : Int32)), .unset] [])) _
        refine XS.iload X31.here hx rfl (hb hby at_381) rfl ?_
        show Steps p.tables e below (T31.setTop (mkF m 383 #[.val (.int p1), .val (.int p2), .val (.int p3), .val (.int p4), .val (.int p5), .val (.int (1 : Int32)), .val (.int cc1), .val (.int cc2), .val (.int cc3), .val (.int cc4), .val (.ref b17), .val (.int gt), .val (.int dg), .val (.int pt), .val (.int (1 : Int32)), .unset] [(.int cc1)])) _
        refine XS.bipush X31.here hx rfl (hb hby at_383) ?_
        show Steps p.tables e below (T31.setTop (mkF m 385 #[.val (.int p1), .val (.int p2), .val (.int p3), .val (.int p4), .val (.int p5), .val (.int (1 : Int32)), .val (.int cc1), .val (.int cc2), .val (.int cc3), .val (.int cc4), .val (.ref b17), .val (.int gt), .val (.int dg), .val (.int pt), .val (.int (1 : Int32)), .unset] [(.int (46 : Int32)), (.int cc1)])) _
        by_cases hq385 : cc1 = (46 : Int32)
        · simp only [if_pos hq385] at kt
          refine XS.icmpYes X31.here hx rfl (pc0 := 385) (pc' := 405) rfl (hb hby at_385) rfl (teq hq385).1 (by decide) (by decide) ?_
          show Steps p.tables e below (T31.setTop (mkF m 405 #[.val (.int p1), .val (.int p2), .val (.int p3), .val (.int p4), .val (.int p5), .val (.int (1 : Int32)), .val (.int cc1), .val (.int cc2), .val (.int cc3), .val (.int cc4), .val (.ref b17), .val (.int gt), .val (.int dg), .val (.int pt), .val (.int (1 : Int32)), .unset] [])) _
          exact kt
        · simp only [if_neg hq385] at kt
          refine XS.icmpNo X31.here hx rfl (hb hby at_385) rfl (feq hq385).1 ?_
          show Steps p.tables e below (T31.setTop (mkF m 388 #[.val (.int p1), .val (.int p2), .val (.int p3), .val (.int p4), .val (.int p5), .val (.int (1 : Int32)), .val (.int cc1), .val (.int cc2), .val (.int cc3), .val (.int cc4), .val (.ref b17), .val (.int gt), .val (.int dg), .val (.int pt), .val (.int (1 : Int32)), .unset] [])) _
          refine XS.iload X31.here hx rfl (hb hby at_388) rfl ?_
          show Steps p.tables e below (T31.setTop (mkF m 390 #[.val (.int p1), .val (.int p2), .val (.int p3), .val (.int p4), .val (.int p5), .val (.int (1 : Int32)), .val (.int cc1), .val (.int cc2), .val (.int cc3), .val (.int cc4), .val (.ref b17), .val (.int gt), .val (.int dg), .val (.int pt), .val (.int (1 : Int32)), .unset] [(.int cc1)])) _
          refine XS.bipush X31.here hx rfl (hb hby at_390) ?_
          show Steps p.tables e below (T31.setTop (mkF m 392 #[.val (.int p1), .val (.int p2), .val (.int p3), .val (.int p4), .val (.int p5), .val (.int (1 : Int32)), .val (.int cc1), .val (.int cc2), .val (.int cc3), .val (.int cc4), .val (.ref b17), .val (.int gt), .val (.int dg), .val (.int pt), .val (.int (1 : Int32)), .unset] [(.int (43 : Int32)), (.int cc1)])) _
          by_cases hq392 : cc1 = (43 : Int32)
          · simp only [if_pos hq392] at kt
            refine XS.icmpYes X31.here hx rfl (pc0 := 392) (pc' := 405) rfl (hb hby at_392) rfl (teq hq392).1 (by decide) (by decide) ?_
            show Steps p.tables e below (T31.setTop (mkF m 405 #[.val (.int p1), .val (.int p2), .val (.int p3), .val (.int p4), .val (.int p5), .val (.int (1 : Int32)), .val (.int cc1), .val (.int cc2), .val (.int cc3), .val (.int cc4), .val (.ref b17), .val (.int gt), .val (.int dg), .val (.int pt), .val (.int (1 : Int32)), .unset] [])) _
            exact kt
          · simp only [if_neg hq392] at kt
            refine XS.icmpNo X31.here hx rfl (hb hby at_392) rfl (feq hq392).1 ?_
            show Steps p.tables e below (T31.setTop (mkF m 395 #[.val (.int p1), .val (.int p2), .val (.int p3), .val (.int p4), .val (.int p5), .val (.int (1 : Int32)), .val (.int cc1), .val (.int cc2), .val (.int cc3), .val (.int cc4), .val (.ref b17), .val (.int gt), .val (.int dg), .val (.int pt), .val (.int (1 : Int32)), .unset] [])) _
            refine XS.iload X31.here hx rfl (hb hby at_395) rfl ?_
            show Steps p.tables e below (T31.setTop (mkF m 397 #[.val (.int p1), .val (.int p2), .val (.int p3), .val (.int p4), .val (.int p5), .val (.int (1 : Int32)), .val (.int cc1), .val (.int cc2), .val (.int cc3), .val (.int cc4), .val (.ref b17), .val (.int gt), .val (.int dg), .val (.int pt), .val (.int (1 : Int32)), .unset] [(.int cc1)])) _
            refine XS.bipush X31.here hx rfl (hb hby at_397) ?_
            show Steps p.tables e below (T31.setTop (mkF m 399 #[.val (.int p1), .val (.int p2), .val (.int p3), .val (.int p4), .val (.int p5), .val (.int (1 : Int32)), .val (.int cc1), .val (.int cc2), .val (.int cc3), .val (.int cc4), .val (.ref b17), .val (.int gt), .val (.int dg), .val (.int pt), .val (.int (1 : Int32)), .unset] [(.int (45 : Int32)), (.int cc1)])) _
            by_cases hq399 : cc1 = (45 : Int32)
            · simp only [if_pos hq399] at kt
              refine XS.icmpYes X31.here hx rfl (pc0 := 399) (pc' := 405) rfl (hb hby at_399) rfl (teq hq399).1 (by decide) (by decide) ?_
              show Steps p.tables e below (T31.setTop (mkF m 405 #[.val (.int p1), .val (.int p2), .val (.int p3), .val (.int p4), .val (.int p5), .val (.int (1 : Int32)), .val (.int cc1), .val (.int cc2), .val (.int cc3), .val (.int cc4), .val (.ref b17), .val (.int gt), .val (.int dg), .val (.int pt), .val (.int (1 : Int32)), .unset] [])) _
              exact kt
            · simp only [if_neg hq399] at kt
              refine XS.icmpNo X31.here hx rfl (hb hby at_399) rfl (feq hq399).1 ?_
              show Steps p.tables e below (T31.setTop (mkF m 402 #[.val (.int p1), .val (.int p2), .val (.int p3), .val (.int p4), .val (.int p5), .val (.int (1 : Int32)), .val (.int cc1), .val (.int cc2), .val (.int cc3), .val (.int cc4), .val (.ref b17), .val (.int gt), .val (.int dg), .val (.int pt), .val (.int (1 : Int32)), .unset] [])) _
              refine XS.iconst X31.here hx rfl (hb hby at_402) ?_
              show Steps p.tables e below (T31.setTop (mkF m 403 #[.val (.int p1), .val (.int p2), .val (.int p3), .val (.int p4), .val (.int p5), .val (.int (1 : Int32)), .val (.int cc1), .val (.int cc2), .val (.int cc3), .val (.int cc4), .val (.ref b17), .val (.int gt), .val (.int dg), .val (.int pt), .val (.int (1 : Int32)), .unset] [(.int (0 : Int32))])) _
              refine XS.istore X31.here hx rfl (hb hby at_403) rfl (l' := #[.val (.int p1), .val (.int p2), .val (.int p3), .val (.int p4), .val (.int p5), .val (.int (1 : Int32)), .val (.int cc1), .val (.int cc2), .val (.int cc3), .val (.int cc4), .val (.ref b17), .val (.int gt), .val (.int dg), .val (.int pt), .val (.int (0 : Int32)), .unset]) rfl ?_
              show Steps p.tables e below (T31.setTop (mkF m 405 #[.val (.int p1), .val (.int p2), .val (.int p3), .val (.int p4), .val (.int p5), .val (.int (1 : Int32)), .val (.int cc1), .val (.int cc2), .val (.int cc3), .val (.int cc4), .val (.ref b17), .val (.int gt), .val (.int dg), .val (.int pt), .val (.int (0 : Int32)), .unset] [])) _
              exact kt
      · simp only [if_neg hq378] at kt
        refine XS.ifYes X31.here hx rfl (pc0 := 378) (pc' := 405) rfl (hb hby at_378) rfl ((if0 _ _).trans (feq hq378).2) (by decide) (by decide) ?_
        show Steps p.tables e below (T31.setTop (mkF m 405 #[.val (.int p1), .val (.int p2), .val (.int p3), .val (.int p4), .val (.int p5), .val (.int (1 : Int32)), .val (.int cc1), .val (.int cc2), .val (.int cc3), .val (.int cc4), .val (.ref b17), .val (.int gt), .val (.int dg), .val (.int pt), .val (.int (1 : Int32)), .unset] [])) _
        exact kt
    show Goes p e below _ T31 (mkF m 405 #[.val (.int p1), .val (.int p2), .val (.int p3), .val (.int p4), .val (.int p5), .val (.int (1 : Int32)), .val (.int cc1), .val (.int cc2), .val (.int cc3), .val (.int cc4), .val (.ref b17), .val (.int gt), .val (.int dg), .val (.int pt), .val (.int (if (digS cc1) = (0 : Int32) then (if cc1 = (46 : Int32) then (1 : Int32) else (if cc1 = (43 : Int32) then (1 : Int32) else (if cc1 = (45 : Int32) then (1 : Int32) else (0 : Int32)))) else (1 : Int32))), .unset] [])
    generalize es1 : (if (digS cc1) = (0 : Int32) then (if cc1 = (46 : Int32) then (1 : Int32) else (if cc1 = (43 : Int32) then (1 : Int32) else (if cc1 = (45 : Int32) then (1 : Int32) else (0 : Int32)))) else (1 : Int32)) = s1
    show Goes p e below _ T31 (mkF m 405 #[.val (.int p1), .val (.int p2), .val (.int p3), .val (.int p4), .val (.int p5), .val (.int (1 : Int32)), .val (.int cc1), .val (.int cc2), .val (.int cc3), .val (.int cc4), .val (.ref b17), .val (.int gt), .val (.int dg), .val (.int pt), .val (.int s1), .unset] [])
    refine Goes.of (fun _ => XS.iload X31.here hx rfl (hb hby at_405) rfl) ?_
    show Goes p e below _ T31 (mkF m 407 #[.val (.int p1), .val (.int p2), .val (.int p3), .val (.int p4), .val (.int p5), .val (.int (1 : Int32)), .val (.int cc1), .val (.int cc2), .val (.int cc3), .val (.int cc4), .val (.ref b17), .val (.int gt), .val (.int dg), .val (.int pt), .val (.int s1), .unset] [(.int (1 : Int32))])
    refine Goes.of (fun _ => XS.iconst X31.here hx rfl (hb hby at_407)) ?_
    show Goes p e below _ T31 (mkF m 408 #[.val (.int p1), .val (.int p2), .val (.int p3), .val (.int p4), .val (.int p5), .val (.int (1 : Int32)), .val (.int cc1), .val (.int cc2), .val (.int cc3), .val (.int cc4), .val (.ref b17), .val (.int gt), .val (.int dg), .val (.int pt), .val (.int s1), .unset] [(.int (1 : Int32)), (.int (1 : Int32))])
    refine Goes.of (fun _ => XS.icmpYes X31.here hx rfl (pc0 := 408) (pc' := 422) rfl (hb hby at_408) rfl (flt (by decide)).2.2.2 (by decide) (by decide)) ?_
    show Goes p e below _ T31 (mkF m 422 #[.val (.int p1), .val (.int p2), .val (.int p3), .val (.int p4), .val (.int p5), .val (.int (1 : Int32)), .val (.int cc1), .val (.int cc2), .val (.int cc3), .val (.int cc4), .val (.ref b17), .val (.int gt), .val (.int dg), .val (.int pt), .val (.int s1), .unset] [])
    refine Goes.of (fun _ => XS.iload X31.here hx rfl (hb hby at_422) rfl) ?_
    show Goes p e below _ T31 (mkF m 424 #[.val (.int p1), .val (.int p2), .val (.int p3), .val (.int p4), .val (.int p5), .val (.int (1 : Int32)), .val (.int cc1), .val (.int cc2), .val (.int cc3), .val (.int cc4), .val (.ref b17), .val (.int gt), .val (.int dg), .val (.int pt), .val (.int s1), .unset] [(.int (1 : Int32))])
    refine Goes.of (fun _ => XS.iconst X31.here hx rfl (hb hby at_424)) ?_
    show Goes p e below _ T31 (mkF m 425 #[.val (.int p1), .val (.int p2), .val (.int p3), .val (.int p4), .val (.int p5), .val (.int (1 : Int32)), .val (.int cc1), .val (.int cc2), .val (.int cc3), .val (.int cc4), .val (.ref b17), .val (.int gt), .val (.int dg), .val (.int pt), .val (.int s1), .unset] [(.int (2 : Int32)), (.int (1 : Int32))])
    refine Goes.of (fun _ => XS.icmpYes X31.here hx rfl (pc0 := 425) (pc' := 439) rfl (hb hby at_425) rfl (flt (by decide)).2.2.2 (by decide) (by decide)) ?_
    show Goes p e below _ T31 (mkF m 439 #[.val (.int p1), .val (.int p2), .val (.int p3), .val (.int p4), .val (.int p5), .val (.int (1 : Int32)), .val (.int cc1), .val (.int cc2), .val (.int cc3), .val (.int cc4), .val (.ref b17), .val (.int gt), .val (.int dg), .val (.int pt), .val (.int s1), .unset] [])
    refine Goes.of (fun _ => XS.iload X31.here hx rfl (hb hby at_439) rfl) ?_
    show Goes p e below _ T31 (mkF m 441 #[.val (.int p1), .val (.int p2), .val (.int p3), .val (.int p4), .val (.int p5), .val (.int (1 : Int32)), .val (.int cc1), .val (.int cc2), .val (.int cc3), .val (.int cc4), .val (.ref b17), .val (.int gt), .val (.int dg), .val (.int pt), .val (.int s1), .unset] [(.int (1 : Int32))])
    refine Goes.of (fun _ => XS.iconst X31.here hx rfl (hb hby at_441)) ?_
    show Goes p e below _ T31 (mkF m 442 #[.val (.int p1), .val (.int p2), .val (.int p3), .val (.int p4), .val (.int p5), .val (.int (1 : Int32)), .val (.int cc1), .val (.int cc2), .val (.int cc3), .val (.int cc4), .val (.ref b17), .val (.int gt), .val (.int dg), .val (.int pt), .val (.int s1), .unset] [(.int (3 : Int32)), (.int (1 : Int32))])
    refine Goes.of (fun _ => XS.icmpYes X31.here hx rfl (pc0 := 442) (pc' := 456) rfl (hb hby at_442) rfl (flt (by decide)).2.2.2 (by decide) (by decide)) ?_
    show Goes p e below _ T31 (mkF m 456 #[.val (.int p1), .val (.int p2), .val (.int p3), .val (.int p4), .val (.int p5), .val (.int (1 : Int32)), .val (.int cc1), .val (.int cc2), .val (.int cc3), .val (.int cc4), .val (.ref b17), .val (.int gt), .val (.int dg), .val (.int pt), .val (.int s1), .unset] [])
    refine Goes.of (fun _ => XS.iload X31.here hx rfl (hb hby at_456) rfl) ?_
    show Goes p e below _ T31 (mkF m 458 #[.val (.int p1), .val (.int p2), .val (.int p3), .val (.int p4), .val (.int p5), .val (.int (1 : Int32)), .val (.int cc1), .val (.int cc2), .val (.int cc3), .val (.int cc4), .val (.ref b17), .val (.int gt), .val (.int dg), .val (.int pt), .val (.int s1), .unset] [(.int s1)])
    refine Goes.of (T' := T31) (f' := (mkF m 477 #[.val (.int p1), .val (.int p2), .val (.int p3), .val (.int p4), .val (.int p5), .val (.int (1 : Int32)), .val (.int cc1), .val (.int cc2), .val (.int cc3), .val (.int cc4), .val (.ref b17), .val (.int gt), .val (.int dg), .val (.int pt), .val (.int s1), .unset] [(.int (if s1 = (0 : Int32) then (0 : Int32) else (if (0 : Int32) < dg then (if (1 : Int32) < pt then (0 : Int32) else (1 : Int32)) else (0 : Int32))))])) (fun t kt => ?_) ?_
    · show Steps p.tables e below (T31.setTop (mkF m 458 #[.val (.int p1), .val (.int p2), .val (.int p3), .val (.int p4), .val (.int p5), .val (.int (1 : Int32)), .val (.int cc1), .val (.int cc2), .val (.int cc3), .val (.int cc4), .val (.ref b17), .val (.int gt), .val (.int dg), .val (.int pt), .val (.int s1), .unset] [(.int s1)])) _
      by_cases hq458 : s1 = (0 : Int32)
      · simp only [if_pos hq458] at kt
        refine XS.ifYes X31.here hx rfl (pc0 := 458) (pc' := 476) rfl (hb hby at_458) rfl ((if0 _ _).trans (teq hq458).1) (by decide) (by decide) ?_
        show Steps p.tables e below (T31.setTop (mkF m 476 #[.val (.int p1), .val (.int p2), .val (.int p3), .val (.int p4), .val (.int p5), .val (.int (1 : Int32)), .val (.int cc1), .val (.int cc2), .val (.int cc3), .val (.int cc4), .val (.ref b17), .val (.int gt), .val (.int dg), .val (.int pt), .val (.int s1), .unset] [])) _
        refine XS.iconst X31.here hx rfl (hb hby at_476) ?_
        show Steps p.tables e below (T31.setTop (mkF m 477 #[.val (.int p1), .val (.int p2), .val (.int p3), .val (.int p4), .val (.int p5), .val (.int (1 : Int32)), .val (.int cc1), .val (.int cc2), .val (.int cc3), .val (.int cc4), .val (.ref b17), .val (.int gt), .val (.int dg), .val (.int pt), .val (.int s1), .unset] [(.int (0 : Int32))])) _
        exact kt
      · simp only [if_neg hq458] at kt
        refine XS.ifNo X31.here hx rfl (hb hby at_458) rfl ((if0 _ _).trans (feq hq458).1) ?_
        show Steps p.tables e below (T31.setTop (mkF m 461 #[.val (.int p1), .val (.int p2), .val (.int p3), .val (.int p4), .val (.int p5), .val (.int (1 : Int32)), .val (.int cc1), .val (.int cc2), .val (.int cc3), .val (.int cc4), .val (.ref b17), .val (.int gt), .val (.int dg), .val (.int pt), .val (.int s1), .unset] [])) _
        refine XS.iload X31.here hx rfl (hb hby at_461) rfl ?_
        show Steps p.tables e below (T31.setTop (mkF m 463 #[.val (.int p1), .val (.int p2), .val (.int p3), .val (.int p4), .val (.int p5), .val (.int (1 : Int32)), .val (.int cc1), .val (.int cc2), .val (.int cc3), .val (.int cc4), .val (.ref b17), .val (.int gt), .val (.int dg), .val (.int pt), .val (.int s1), .unset] [(.int dg)])) _
        by_cases hq463 : (0 : Int32) < dg
        · simp only [if_pos hq463] at kt
          refine XS.ifNo X31.here hx rfl (hb hby at_463) rfl ((if0 _ _).trans (tlt hq463).2.2.2) ?_
          show Steps p.tables e below (T31.setTop (mkF m 466 #[.val (.int p1), .val (.int p2), .val (.int p3), .val (.int p4), .val (.int p5), .val (.int (1 : Int32)), .val (.int cc1), .val (.int cc2), .val (.int cc3), .val (.int cc4), .val (.ref b17), .val (.int gt), .val (.int dg), .val (.int pt), .val (.int s1), .unset] [])) _
          refine XS.iload X31.here hx rfl (hb hby at_466) rfl ?_
          show Steps p.tables e below (T31.setTop (mkF m 468 #[.val (.int p1), .val (.int p2), .val (.int p3), .val (.int p4), .val (.int p5), .val (.int (1 : Int32)), .val (.int cc1), .val (.int cc2), .val (.int cc3), .val (.int cc4), .val (.ref b17), .val (.int gt), .val (.int dg), .val (.int pt), .val (.int s1), .unset] [(.int pt)])) _
          refine XS.iconst X31.here hx rfl (hb hby at_468) ?_
          show Steps p.tables e below (T31.setTop (mkF m 469 #[.val (.int p1), .val (.int p2), .val (.int p3), .val (.int p4), .val (.int p5), .val (.int (1 : Int32)), .val (.int cc1), .val (.int cc2), .val (.int cc3), .val (.int cc4), .val (.ref b17), .val (.int gt), .val (.int dg), .val (.int pt), .val (.int s1), .unset] [(.int (1 : Int32)), (.int pt)])) _
          by_cases hq469 : (1 : Int32) < pt
          · simp only [if_pos hq469] at kt
            refine XS.icmpYes X31.here hx rfl (pc0 := 469) (pc' := 476) rfl (hb hby at_469) rfl (tlt hq469).2.2.1 (by decide) (by decide) ?_
            show Steps p.tables e below (T31.setTop (mkF m 476 #[.val (.int p1), .val (.int p2), .val (.int p3), .val (.int p4), .val (.int p5), .val (.int (1 : Int32)), .val (.int cc1), .val (.int cc2), .val (.int cc3), .val (.int cc4), .val (.ref b17), .val (.int gt), .val (.int dg), .val (.int pt), .val (.int s1), .unset] [])) _
            refine XS.iconst X31.here hx rfl (hb hby at_476) ?_
            show Steps p.tables e below (T31.setTop (mkF m 477 #[.val (.int p1), .val (.int p2), .val (.int p3), .val (.int p4), .val (.int p5), .val (.int (1 : Int32)), .val (.int cc1), .val (.int cc2), .val (.int cc3), .val (.int cc4), .val (.ref b17), .val (.int gt), .val (.int dg), .val (.int pt), .val (.int s1), .unset] [(.int (0 : Int32))])) _
            exact kt
          · simp only [if_neg hq469] at kt
            refine XS.icmpNo X31.here hx rfl (hb hby at_469) rfl (flt hq469).2.2.1 ?_
            show Steps p.tables e below (T31.setTop (mkF m 472 #[.val (.int p1), .val (.int p2), .val (.int p3), .val (.int p4), .val (.int p5), .val (.int (1 : Int32)), .val (.int cc1), .val (.int cc2), .val (.int cc3), .val (.int cc4), .val (.ref b17), .val (.int gt), .val (.int dg), .val (.int pt), .val (.int s1), .unset] [])) _
            refine XS.iconst X31.here hx rfl (hb hby at_472) ?_
            show Steps p.tables e below (T31.setTop (mkF m 473 #[.val (.int p1), .val (.int p2), .val (.int p3), .val (.int p4), .val (.int p5), .val (.int (1 : Int32)), .val (.int cc1), .val (.int cc2), .val (.int cc3), .val (.int cc4), .val (.ref b17), .val (.int gt), .val (.int dg), .val (.int pt), .val (.int s1), .unset] [(.int (1 : Int32))])) _
            refine XS.goto X31.here hx rfl (pc0 := 473) (pc' := 477) rfl (hb hby at_473) (by decide) (by decide) ?_
            show Steps p.tables e below (T31.setTop (mkF m 477 #[.val (.int p1), .val (.int p2), .val (.int p3), .val (.int p4), .val (.int p5), .val (.int (1 : Int32)), .val (.int cc1), .val (.int cc2), .val (.int cc3), .val (.int cc4), .val (.ref b17), .val (.int gt), .val (.int dg), .val (.int pt), .val (.int s1), .unset] [(.int (1 : Int32))])) _
            exact kt
        · simp only [if_neg hq463] at kt
          refine XS.ifYes X31.here hx rfl (pc0 := 463) (pc' := 476) rfl (hb hby at_463) rfl ((if0 _ _).trans (flt hq463).2.2.2) (by decide) (by decide) ?_
          show Steps p.tables e below (T31.setTop (mkF m 476 #[.val (.int p1), .val (.int p2), .val (.int p3), .val (.int p4), .val (.int p5), .val (.int (1 : Int32)), .val (.int cc1), .val (.int cc2), .val (.int cc3), .val (.int cc4), .val (.ref b17), .val (.int gt), .val (.int dg), .val (.int pt), .val (.int s1), .unset] [])) _
          refine XS.iconst X31.here hx rfl (hb hby at_476) ?_
          show Steps p.tables e below (T31.setTop (mkF m 477 #[.val (.int p1), .val (.int p2), .val (.int p3), .val (.int p4), .val (.int p5), .val (.int (1 : Int32)), .val (.int cc1), .val (.int cc2), .val (.int cc3), .val (.int cc4), .val (.ref b17), .val (.int gt), .val (.int dg), .val (.int pt), .val (.int s1), .unset] [(.int (0 : Int32))])) _
          exact kt
    show Goes p e below _ T31 (mkF m 477 #[.val (.int p1), .val (.int p2), .val (.int p3), .val (.int p4), .val (.int p5), .val (.int (1 : Int32)), .val (.int cc1), .val (.int cc2), .val (.int cc3), .val (.int cc4), .val (.ref b17), .val (.int gt), .val (.int dg), .val (.int pt), .val (.int s1), .unset] [(.int (if s1 = (0 : Int32) then (0 : Int32) else (if (0 : Int32) < dg then (if (1 : Int32) < pt then (0 : Int32) else (1 : Int32)) else (0 : Int32))))])
    refine Goes.of (fun _ => XS.istore X31.here hx rfl (hb hby at_477) rfl (l' := #[.val (.int p1), .val (.int p2), .val (.int p3), .val (.int p4), .val (.int p5), .val (.int (1 : Int32)), .val (.int cc1), .val (.int cc2), .val (.int cc3), .val (.int cc4), .val (.ref b17), .val (.int gt), .val (.int dg), .val (.int pt), .val (.int s1), .val (.int (if s1 = (0 : Int32) then (0 : Int32) else (if (0 : Int32) < dg then (if (1 : Int32) < pt then (0 : Int32) else (1 : Int32)) else (0 : Int32))))]) rfl) ?_
    show Goes p e below _ T31 (mkF m 479 #[.val (.int p1), .val (.int p2), .val (.int p3), .val (.int p4), .val (.int p5), .val (.int (1 : Int32)), .val (.int cc1), .val (.int cc2), .val (.int cc3), .val (.int cc4), .val (.ref b17), .val (.int gt), .val (.int dg), .val (.int pt), .val (.int s1), .val (.int (if s1 = (0 : Int32) then (0 : Int32) else (if (0 : Int32) < dg then (if (1 : Int32) < pt then (0 : Int32) else (1 : Int32)) else (0 : Int32))))] [])
    generalize exp : (if s1 = (0 : Int32) then (0 : Int32) else (if (0 : Int32) < dg then (if (1 : Int32) < pt then (0 : Int32) else (1 : Int32)) else (0 : Int32))) = xp
    show Goes p e below _ T31 (mkF m 479 #[.val (.int p1), .val (.int p2), .val (.int p3), .val (.int p4), .val (.int p5), .val (.int (1 : Int32)), .val (.int cc1), .val (.int cc2), .val (.int cc3), .val (.int cc4), .val (.ref b17), .val (.int gt), .val (.int dg), .val (.int pt), .val (.int s1), .val (.int xp)] [])
    refine Goes.of (fun _ => XS.iload X31.here hx rfl (hb hby at_479) rfl) ?_
    show Goes p e below _ T31 (mkF m 481 #[.val (.int p1), .val (.int p2), .val (.int p3), .val (.int p4), .val (.int p5), .val (.int (1 : Int32)), .val (.int cc1), .val (.int cc2), .val (.int cc3), .val (.int cc4), .val (.ref b17), .val (.int gt), .val (.int dg), .val (.int pt), .val (.int s1), .val (.int xp)] [(.int gt)])
    refine Goes.of (fun _ => XS.iload X31.here hx rfl (hb hby at_481) rfl) ?_
    show Goes p e below _ T31 (mkF m 483 #[.val (.int p1), .val (.int p2), .val (.int p3), .val (.int p4), .val (.int p5), .val (.int (1 : Int32)), .val (.int cc1), .val (.int cc2), .val (.int cc3), .val (.int cc4), .val (.ref b17), .val (.int gt), .val (.int dg), .val (.int pt), .val (.int s1), .val (.int xp)] [(.int xp), (.int gt)])
    refine Goes.of (fun _ => XS.icmpNo X31.here hx rfl (hb hby at_483) rfl (teq (by subst exp es1 ept er4 er3 er2 er1 edg eo4 eo3 eo2 eo1 egt; exact fin1 cc1)).2) ?_
    show Goes p e below _ T31 (mkF m 486 #[.val (.int p1), .val (.int p2), .val (.int p3), .val (.int p4), .val (.int p5), .val (.int (1 : Int32)), .val (.int cc1), .val (.int cc2), .val (.int cc3), .val (.int cc4), .val (.ref b17), .val (.int gt), .val (.int dg), .val (.int pt), .val (.int s1), .val (.int xp)] [])
    refine Goes.of (fun _ => XS.iconst X31.here hx rfl (hb hby at_486)) ?_
    show Goes p e below _ T31 (mkF m 487 #[.val (.int p1), .val (.int p2), .val (.int p3), .val (.int p4), .val (.int p5), .val (.int (1 : Int32)), .val (.int cc1), .val (.int cc2), .val (.int cc3), .val (.int cc4), .val (.ref b17), .val (.int gt), .val (.int dg), .val (.int pt), .val (.int s1), .val (.int xp)] [(.int (1 : Int32))])
    refine Goes.of (fun _ => XS.goto X31.here hx rfl (pc0 := 487) (pc' := 491) rfl (hb hby at_487) (by decide) (by decide)) ?_
    show Goes p e below _ T31 (mkF m 491 #[.val (.int p1), .val (.int p2), .val (.int p3), .val (.int p4), .val (.int p5), .val (.int (1 : Int32)), .val (.int cc1), .val (.int cc2), .val (.int cc3), .val (.int cc4), .val (.ref b17), .val (.int gt), .val (.int dg), .val (.int pt), .val (.int s1), .val (.int xp)] [(.int (1 : Int32))])
    exact retZW (t := .boolean) X31 hS hk hZ hEL HC hx hret hlk (by simp) (hb hby at_491) eT31 (by decide) (by decide) ⟨rfl, N31⟩
  · show Goes p e below _ T4 (mkF m 33 #[.val (.int p1), .val (.int p2), .val (.int p3), .val (.int p4), .val (.int p5), .val (.int (2 : Int32)), .val (.int cc1), .val (.int cc2), .val (.int cc3), .val (.int cc4), .unset, .unset, .unset, .unset, .unset, .unset] [])
    refine Goes.of (fun _ => XS.iload X4.here hx rfl (hb hby at_33) rfl) ?_
    show Goes p e below _ T4 (mkF m 35 #[.val (.int p1), .val (.int p2), .val (.int p3), .val (.int p4), .val (.int p5), .val (.int (2 : Int32)), .val (.int cc1), .val (.int cc2), .val (.int cc3), .val (.int cc4), .unset, .unset, .unset, .unset, .unset, .unset] [(.int (2 : Int32))])
    refine Goes.of (fun _ => XS.ifYes X4.here hx rfl (pc0 := 35) (pc' := 53) rfl (hb hby at_35) rfl ((if0 _ _).trans (feq (by decide)).2) (by decide) (by decide)) ?_
    show Goes p e below _ T4 (mkF m 53 #[.val (.int p1), .val (.int p2), .val (.int p3), .val (.int p4), .val (.int p5), .val (.int (2 : Int32)), .val (.int cc1), .val (.int cc2), .val (.int cc3), .val (.int cc4), .unset, .unset, .unset, .unset, .unset, .unset] [])
    refine Goes.of (fun _ => XS.iload X4.here hx rfl (hb hby at_53) rfl) ?_
    show Goes p e below _ T4 (mkF m 55 #[.val (.int p1), .val (.int p2), .val (.int p3), .val (.int p4), .val (.int p5), .val (.int (2 : Int32)), .val (.int cc1), .val (.int cc2), .val (.int cc3), .val (.int cc4), .unset, .unset, .unset, .unset, .unset, .unset] [(.int (2 : Int32))])
    refine Goes.of (fun _ => XS.iconst X4.here hx rfl (hb hby at_55)) ?_
    show Goes p e below _ T4 (mkF m 56 #[.val (.int p1), .val (.int p2), .val (.int p3), .val (.int p4), .val (.int p5), .val (.int (2 : Int32)), .val (.int cc1), .val (.int cc2), .val (.int cc3), .val (.int cc4), .unset, .unset, .unset, .unset, .unset, .unset] [(.int (1 : Int32)), (.int (2 : Int32))])
    refine Goes.of (fun _ => XS.icmpYes X4.here hx rfl (pc0 := 56) (pc' := 79) rfl (hb hby at_56) rfl (feq (by decide)).2 (by decide) (by decide)) ?_
    show Goes p e below _ T4 (mkF m 79 #[.val (.int p1), .val (.int p2), .val (.int p3), .val (.int p4), .val (.int p5), .val (.int (2 : Int32)), .val (.int cc1), .val (.int cc2), .val (.int cc3), .val (.int cc4), .unset, .unset, .unset, .unset, .unset, .unset] [])
    refine Goes.of (fun _ => XS.iload X4.here hx rfl (hb hby at_79) rfl) ?_
    show Goes p e below _ T4 (mkF m 81 #[.val (.int p1), .val (.int p2), .val (.int p3), .val (.int p4), .val (.int p5), .val (.int (2 : Int32)), .val (.int cc1), .val (.int cc2), .val (.int cc3), .val (.int cc4), .unset, .unset, .unset, .unset, .unset, .unset] [(.int (2 : Int32))])
    refine Goes.of (fun _ => XS.iconst X4.here hx rfl (hb hby at_81)) ?_
    show Goes p e below _ T4 (mkF m 82 #[.val (.int p1), .val (.int p2), .val (.int p3), .val (.int p4), .val (.int p5), .val (.int (2 : Int32)), .val (.int cc1), .val (.int cc2), .val (.int cc3), .val (.int cc4), .unset, .unset, .unset, .unset, .unset, .unset] [(.int (2 : Int32)), (.int (2 : Int32))])
    refine Goes.of (fun _ => XS.icmpNo X4.here hx rfl (hb hby at_82) rfl (teq (by decide)).2) ?_
    show Goes p e below _ T4 (mkF m 85 #[.val (.int p1), .val (.int p2), .val (.int p3), .val (.int p4), .val (.int p5), .val (.int (2 : Int32)), .val (.int cc1), .val (.int cc2), .val (.int cc3), .val (.int cc4), .unset, .unset, .unset, .unset, .unset, .unset] [])
    refine goNew X4 hx hZ hown (hw _ (List.mem_of_getElem? (i := 5) rfl)) (hw _ (List.mem_of_getElem? (i := 6) rfl)) (hw _ (List.mem_of_getElem? (i := 7) rfl)) (rfl : T4.heap = _) (g := (mkF m 85 #[.val (.int p1), .val (.int p2), .val (.int p3), .val (.int p4), .val (.int p5), .val (.int (2 : Int32)), .val (.int cc1), .val (.int cc2), .val (.int cc3), .val (.int cc4), .unset, .unset, .unset, .unset, .unset, .unset] [])) rfl (hb hby at_85) (by decide) (by decide) ?_
    intro T32 h32 b32 X32 eT32 E32 hb32 A32 D32
    have g_b32 : n0 ≤ b32 := Nat.le_trans (oldLe O0) hb32
    have hk := Nat.le_trans hk E32.1
    have HC := HC.trans (CHr.ext E32 HC.1)
    have O0 := O0.ext E32
    have F32_value : Fld Z h32 b32 "java/lang/String" "value" "[B" .null := D32 (Or.inr (hw _ (List.mem_of_getElem? (i := 21) rfl))) (ty := (.array .byte)) (by decide)
    have F32_coder : Fld Z h32 b32 "java/lang/String" "coder" "B" (.int (0 : Int32)) := D32 (Or.inr (hw _ (List.mem_of_getElem? (i := 22) rfl))) (ty := .byte) (by decide)
    show Goes p e below _ T32 (mkF m 88 #[.val (.int p1), .val (.int p2), .val (.int p3), .val (.int p4), .val (.int p5), .val (.int (2 : Int32)), .val (.int cc1), .val (.int cc2), .val (.int cc3), .val (.int cc4), .unset, .unset, .unset, .unset, .unset, .unset] [(.ref b32)])
    refine Goes.of (fun _ => XS.dup X32.here hx rfl (hb hby at_88) rfl rfl) ?_
    show Goes p e below _ T32 (mkF m 89 #[.val (.int p1), .val (.int p2), .val (.int p3), .val (.int p4), .val (.int p5), .val (.int (2 : Int32)), .val (.int cc1), .val (.int cc2), .val (.int cc3), .val (.int cc4), .unset, .unset, .unset, .unset, .unset, .unset] [(.ref b32), (.ref b32)])
    refine Goes.of (fun _ => XS.iconst X32.here hx rfl (hb hby at_89)) ?_
    show Goes p e below _ T32 (mkF m 90 #[.val (.int p1), .val (.int p2), .val (.int p3), .val (.int p4), .val (.int p5), .val (.int (2 : Int32)), .val (.int cc1), .val (.int cc2), .val (.int cc3), .val (.int cc4), .unset, .unset, .unset, .unset, .unset, .unset] [(.int (2 : Int32)), (.ref b32), (.ref b32)])
    refine goNewP 2 X32 hx hZ (hw _ (List.mem_of_getElem? (i := 8) rfl)) eT32 (g := (mkF m 90 #[.val (.int p1), .val (.int p2), .val (.int p3), .val (.int p4), .val (.int p5), .val (.int (2 : Int32)), .val (.int cc1), .val (.int cc2), .val (.int cc3), .val (.int cc4), .unset, .unset, .unset, .unset, .unset, .unset] [(.int (2 : Int32)), (.ref b32), (.ref b32)])) rfl (hb hby at_90) rfl (by decide) (by decide) (by decide) (by decide) (by decide) (ad := "[C") (by first | rfl | decide) ?_
    intro T33 h33 b33 kA33 X33 eT33 E33 hb33 V33 A33
    have g_b33 : n0 ≤ b33 := Nat.le_trans (oldLe O0) hb33
    have ne_b32_b33 : b32 ≠ b33 := Nat.ne_of_lt (Nat.lt_of_lt_of_le A32.lt hb33)
    have A32 := A32.ext E33
    have F32_value := F32_value.ext E33
    have F32_coder := F32_coder.ext E33
    have hk := Nat.le_trans hk E33.1
    have HC := HC.trans (CHr.ext E33 HC.1)
    have O0 := O0.ext E33
    have V33 : Arv Z h33 b33 kA33 .char (2 : Int32) [(.int (0 : Int32)), (.int (0 : Int32))] (.int (0 : Int32)) := V33
    show Goes p e below _ T33 (mkF m 92 #[.val (.int p1), .val (.int p2), .val (.int p3), .val (.int p4), .val (.int p5), .val (.int (2 : Int32)), .val (.int cc1), .val (.int cc2), .val (.int cc3), .val (.int cc4), .unset, .unset, .unset, .unset, .unset, .unset] [(.ref b33), (.ref b32), (.ref b32)])
    refine Goes.of (fun _ => XS.dup X33.here hx rfl (hb hby at_92) rfl rfl) ?_
    show Goes p e below _ T33 (mkF m 93 #[.val (.int p1), .val (.int p2), .val (.int p3), .val (.int p4), .val (.int p5), .val (.int (2 : Int32)), .val (.int cc1), .val (.int cc2), .val (.int cc3), .val (.int cc4), .unset, .unset, .unset, .unset, .unset, .unset] [(.ref b33), (.ref b33), (.ref b32), (.ref b32)])
    refine Goes.of (fun _ => XS.iconst X33.here hx rfl (hb hby at_93)) ?_
    show Goes p e below _ T33 (mkF m 94 #[.val (.int p1), .val (.int p2), .val (.int p3), .val (.int p4), .val (.int p5), .val (.int (2 : Int32)), .val (.int cc1), .val (.int cc2), .val (.int cc3), .val (.int cc4), .unset, .unset, .unset, .unset, .unset, .unset] [(.int (0 : Int32)), (.ref b33), (.ref b33), (.ref b32), (.ref b32)])
    refine Goes.of (fun _ => XS.iload X33.here hx rfl (hb hby at_94) rfl) ?_
    show Goes p e below _ T33 (mkF m 96 #[.val (.int p1), .val (.int p2), .val (.int p3), .val (.int p4), .val (.int p5), .val (.int (2 : Int32)), .val (.int cc1), .val (.int cc2), .val (.int cc3), .val (.int cc4), .unset, .unset, .unset, .unset, .unset, .unset] [(.int cc1), (.int (0 : Int32)), (.ref b33), (.ref b33), (.ref b32), (.ref b32)])
    have Sf_b33 : Safe Z EL _ h33 b33 := Safe.arv hZ.alike V33 (by decide)
    refine goStC 0 X33 hx hZ eT33 V33 (by decide) (by decide) rfl (Nat.lt_of_lt_of_le (Nat.lt_succ_self _) (Nat.le_of_ble_eq_true rfl)) (g := (mkF m 96 #[.val (.int p1), .val (.int p2), .val (.int p3), .val (.int p4), .val (.int p5), .val (.int (2 : Int32)), .val (.int cc1), .val (.int cc2), .val (.int cc3), .val (.int cc4), .unset, .unset, .unset, .unset, .unset, .unset] [(.int cc1), (.int (0 : Int32)), (.ref b33), (.ref b33), (.ref b32), (.ref b32)])) rfl rfl (hb hby at_96) ?_
    intro T34 h34 X34 eT34 W34 V33
    have N34 := Fr.snoc X34 N4 g_b33
    have A32 := A32.wr W34
    have F32_value := F32_value.other W34 (Or.inl ne_b32_b33)
    have F32_coder := F32_coder.other W34 (Or.inl ne_b32_b33)
    have A33 := A33.wr W34
    have HC := HC.trans (CHr.wr W34 Sf_b33 HC.1)
    have hk := Nat.le_trans hk (Nat.le_of_eq (Wr.size W34).symm)
    have O0 := O0.wr W34 g_b33
    have V33 : Arv Z h34 b33 kA33 .char (2 : Int32) [(.int (nar .char cc1)), (.int (0 : Int32))] (.int (0 : Int32)) := V33
    show Goes p e below _ T34 (mkF m 97 #[.val (.int p1), .val (.int p2), .val (.int p3), .val (.int p4), .val (.int p5), .val (.int (2 : Int32)), .val (.int cc1), .val (.int cc2), .val (.int cc3), .val (.int cc4), .unset, .unset, .unset, .unset, .unset, .unset] [(.ref b33), (.ref b32), (.ref b32)])
    refine Goes.of (fun _ => XS.dup X34.here hx rfl (hb hby at_97) rfl rfl) ?_
    show Goes p e below _ T34 (mkF m 98 #[.val (.int p1), .val (.int p2), .val (.int p3), .val (.int p4), .val (.int p5), .val (.int (2 : Int32)), .val (.int cc1), .val (.int cc2), .val (.int cc3), .val (.int cc4), .unset, .unset, .unset, .unset, .unset, .unset] [(.ref b33), (.ref b33), (.ref b32), (.ref b32)])
    refine Goes.of (fun _ => XS.iconst X34.here hx rfl (hb hby at_98)) ?_
    show Goes p e below _ T34 (mkF m 99 #[.val (.int p1), .val (.int p2), .val (.int p3), .val (.int p4), .val (.int p5), .val (.int (2 : Int32)), .val (.int cc1), .val (.int cc2), .val (.int cc3), .val (.int cc4), .unset, .unset, .unset, .unset, .unset, .unset] [(.int (1 : Int32)), (.ref b33), (.ref b33), (.ref b32), (.ref b32)])
    refine Goes.of (fun _ => XS.iload X34.here hx rfl (hb hby at_99) rfl) ?_
    show Goes p e below _ T34 (mkF m 101 #[.val (.int p1), .val (.int p2), .val (.int p3), .val (.int p4), .val (.int p5), .val (.int (2 : Int32)), .val (.int cc1), .val (.int cc2), .val (.int cc3), .val (.int cc4), .unset, .unset, .unset, .unset, .unset, .unset] [(.int cc2), (.int (1 : Int32)), (.ref b33), (.ref b33), (.ref b32), (.ref b32)])
    have Sf_b33 : Safe Z EL _ h34 b33 := Safe.arv hZ.alike V33 (by decide)
    refine goStC 1 X34 hx hZ eT34 V33 (by decide) (by decide) rfl (Nat.lt_of_lt_of_le (Nat.lt_succ_self _) (Nat.le_of_ble_eq_true rfl)) (g := (mkF m 101 #[.val (.int p1), .val (.int p2), .val (.int p3), .val (.int p4), .val (.int p5), .val (.int (2 : Int32)), .val (.int cc1), .val (.int cc2), .val (.int cc3), .val (.int cc4), .unset, .unset, .unset, .unset, .unset, .unset] [(.int cc2), (.int (1 : Int32)), (.ref b33), (.ref b33), (.ref b32), (.ref b32)])) rfl rfl (hb hby at_101) ?_
    intro T35 h35 X35 eT35 W35 V33
    have N35 := Fr.snoc X35 N34 g_b33
    have A32 := A32.wr W35
    have F32_value := F32_value.other W35 (Or.inl ne_b32_b33)
    have F32_coder := F32_coder.other W35 (Or.inl ne_b32_b33)
    have A33 := A33.wr W35
    have HC := HC.trans (CHr.wr W35 Sf_b33 HC.1)
    have hk := Nat.le_trans hk (Nat.le_of_eq (Wr.size W35).symm)
    have O0 := O0.wr W35 g_b33
    have V33 : Arv Z h35 b33 kA33 .char (2 : Int32) [(.int (nar .char cc1)), (.int (nar .char cc2))] (.int (0 : Int32)) := V33
    show Goes p e below _ T35 (mkF m 102 #[.val (.int p1), .val (.int p2), .val (.int p3), .val (.int p4), .val (.int p5), .val (.int (2 : Int32)), .val (.int cc1), .val (.int cc2), .val (.int cc3), .val (.int cc4), .unset, .unset, .unset, .unset, .unset, .unset] [(.ref b33), (.ref b32), (.ref b32)])
    have Sf_b32 : Safe Z EL _ h35 b32 := safeNull hZ.alike A32 F32_value
    refine goNewS (cs := [(nar .char cc1), (nar .char cc2)]) 2 1 X35 hx hZ hown (hwsOf hw) (hw _ (List.mem_of_getElem? (i := 9) rfl)) (hw _ (List.mem_of_getElem? (i := 10) rfl)) (hw _ (List.mem_of_getElem? (i := 11) rfl)) (hw _ (List.mem_of_getElem? (i := 6) rfl)) g_b32 (oldLe O0) A32 F32_value F32_coder V33 rfl (Sc.ext O0.2) hcz rfl rfl (by decide) (by decide) (by intro c hc; simp only [List.mem_cons, List.not_mem_nil, or_false] at hc; rcases hc with rfl | rfl; (· rw [narC hcc1.1 (le255 hcc1.2)]; exact hcc1); (· rw [narC hcc2.1 (le255 hcc2.2)]; exact hcc2)) eT35 (g := (mkF m 102 #[.val (.int p1), .val (.int p2), .val (.int p3), .val (.int p4), .val (.int p5), .val (.int (2 : Int32)), .val (.int cc1), .val (.int cc2), .val (.int cc3), .val (.int cc4), .unset, .unset, .unset, .unset, .unset, .unset] [(.ref b33), (.ref b32), (.ref b32)])) rfl (by rw [hml]; rfl) [(.ref b32)] (lenOf pd___C_V rfl) rfl (by show 2 * 0 + _ ≤ _; exact Nat.le_of_eq rfl) (hb hby at_102) (by decide) (by decide) (by decide) (by decide) ?_
    intro T36 L36 X36 Nq36 Kq36 S36
    have S36 := S36.of (show [(nar .char cc1), (nar .char cc2)] = [cc1, cc2] by (try rw [narC hcc1.1 (le255 hcc1.2)]); (try rw [narC hcc2.1 (le255 hcc2.2)]))
    have N36 := Fr.app N35 Nq36
    have V33 := V33.keep Kq36 (ninS (Ne.symm ne_b32_b33) nin0)
    have A33 := A33.keep Kq36
    have HC := HC.trans (CHr.keep Kq36 (sfS Sf_b32 sf0) HC.1)
    have hk := Nat.le_trans hk Kq36.1
    have O0 := O0.keep Kq36 (allS g_b32 all0)
    show Goes p e below _ T36 (mkF m 105 #[.val (.int p1), .val (.int p2), .val (.int p3), .val (.int p4), .val (.int p5), .val (.int (2 : Int32)), .val (.int cc1), .val (.int cc2), .val (.int cc3), .val (.int cc4), .unset, .unset, .unset, .unset, .unset, .unset] [(.ref b32)])
    refine Goes.of (fun _ => XS.astore X36.here hx rfl (hb hby at_105) rfl rfl (l' := #[.val (.int p1), .val (.int p2), .val (.int p3), .val (.int p4), .val (.int p5), .val (.int (2 : Int32)), .val (.int cc1), .val (.int cc2), .val (.int cc3), .val (.int cc4), .val (.ref b32), .unset, .unset, .unset, .unset, .unset]) rfl) ?_
    show Goes p e below _ T36 (mkF m 107 #[.val (.int p1), .val (.int p2), .val (.int p3), .val (.int p4), .val (.int p5), .val (.int (2 : Int32)), .val (.int cc1), .val (.int cc2), .val (.int cc3), .val (.int cc4), .val (.ref b32), .unset, .unset, .unset, .unset, .unset] [])
    refine Goes.of (fun _ => XS.goto X36.here hx rfl (pc0 := 107) (pc' := 178) rfl (hb hby at_107) (by decide) (by decide)) ?_
    show Goes p e below _ T36 (mkF m 178 #[.val (.int p1), .val (.int p2), .val (.int p3), .val (.int p4), .val (.int p5), .val (.int (2 : Int32)), .val (.int cc1), .val (.int cc2), .val (.int cc3), .val (.int cc4), .val (.ref b32), .unset, .unset, .unset, .unset, .unset] [])
    refine Goes.of (fun _ => XS.aload X36.here hx rfl (hb hby at_178) rfl rfl) ?_
    show Goes p e below _ T36 (mkF m 180 #[.val (.int p1), .val (.int p2), .val (.int p3), .val (.int p4), .val (.int p5), .val (.int (2 : Int32)), .val (.int cc1), .val (.int cc2), .val (.int cc3), .val (.int cc4), .val (.ref b32), .unset, .unset, .unset, .unset, .unset] [(.ref b32)])
    refine goStatic 0 X36 hx hZ hown (hw _ (List.mem_of_getElem? (i := 27) rfl)) (hw _ (List.mem_of_getElem? (i := 28) rfl)) (hw _ (List.mem_of_getElem? (i := 29) rfl)) (hw _ (List.mem_of_getElem? (i := 30) rfl)) (by decide) (rm_plain l Z a0 hw b32 ([cc1, cc2] : List Int32) cz fm T36.heap n0 O0 Sc hcz Sf hfm S36 (by intro c hc; simp only [List.mem_cons, List.not_mem_nil, or_false] at hc; rcases hc with rfl | rfl; (· exact hcc1.2); (· exact hcc2.2))) (rfl : T36.heap = _) (g := (mkF m 180 #[.val (.int p1), .val (.int p2), .val (.int p3), .val (.int p4), .val (.int p5), .val (.int (2 : Int32)), .val (.int cc1), .val (.int cc2), .val (.int cc3), .val (.int cc4), .val (.ref b32), .unset, .unset, .unset, .unset, .unset] [(.ref b32)])) rfl (by rw [hml]; rfl) [(.ref b32)] [] (lenOf pd__Ljava_lang_String__Z rfl) rfl rfl (by show 2 * 0 + _ ≤ _; exact Nat.le_of_eq rfl) (hb hby at_180) (by decide) (by decide) (by decide) (by decide) ?_
    intro v37 T37 L37 X37 q37
    obtain ⟨rfl, Nq37, eT37⟩ := q37
    have N37 := Fr.app N36 Nq37
    show Goes p e below _ T37 (mkF m 183 #[.val (.int p1), .val (.int p2), .val (.int p3), .val (.int p4), .val (.int p5), .val (.int (2 : Int32)), .val (.int cc1), .val (.int cc2), .val (.int cc3), .val (.int cc4), .val (.ref b32), .unset, .unset, .unset, .unset, .unset] [(.int (plainGo 0 (0 : Int32) (0 : Int32) ([cc1, cc2] : List Int32)))])
    refine Goes.of (fun _ => XS.istore X37.here hx rfl (hb hby at_183) rfl (l' := #[.val (.int p1), .val (.int p2), .val (.int p3), .val (.int p4), .val (.int p5), .val (.int (2 : Int32)), .val (.int cc1), .val (.int cc2), .val (.int cc3), .val (.int cc4), .val (.ref b32), .val (.int (plainGo 0 (0 : Int32) (0 : Int32) ([cc1, cc2] : List Int32))), .unset, .unset, .unset, .unset]) rfl) ?_
    show Goes p e below _ T37 (mkF m 185 #[.val (.int p1), .val (.int p2), .val (.int p3), .val (.int p4), .val (.int p5), .val (.int (2 : Int32)), .val (.int cc1), .val (.int cc2), .val (.int cc3), .val (.int cc4), .val (.ref b32), .val (.int (plainGo 0 (0 : Int32) (0 : Int32) ([cc1, cc2] : List Int32))), .unset, .unset, .unset, .unset] [])
    generalize egt : (plainGo 0 (0 : Int32) (0 : Int32) ([cc1, cc2] : List Int32)) = gt
    show Goes p e below _ T37 (mkF m 185 #[.val (.int p1), .val (.int p2), .val (.int p3), .val (.int p4), .val (.int p5), .val (.int (2 : Int32)), .val (.int cc1), .val (.int cc2), .val (.int cc3), .val (.int cc4), .val (.ref b32), .val (.int gt), .unset, .unset, .unset, .unset] [])
    refine Goes.of (fun _ => XS.iload X37.here hx rfl (hb hby at_185) rfl) ?_
    show Goes p e below _ T37 (mkF m 187 #[.val (.int p1), .val (.int p2), .val (.int p3), .val (.int p4), .val (.int p5), .val (.int (2 : Int32)), .val (.int cc1), .val (.int cc2), .val (.int cc3), .val (.int cc4), .val (.ref b32), .val (.int gt), .unset, .unset, .unset, .unset] [(.int (2 : Int32))])
    refine Goes.of (fun _ => XS.ifNo X37.here hx rfl (hb hby at_187) rfl ((if0 _ _).trans (tlt (by decide)).2.2.2)) ?_
    show Goes p e below _ T37 (mkF m 190 #[.val (.int p1), .val (.int p2), .val (.int p3), .val (.int p4), .val (.int p5), .val (.int (2 : Int32)), .val (.int cc1), .val (.int cc2), .val (.int cc3), .val (.int cc4), .val (.ref b32), .val (.int gt), .unset, .unset, .unset, .unset] [])
    refine Goes.of (fun _ => XS.iload X37.here hx rfl (hb hby at_190) rfl) ?_
    show Goes p e below _ T37 (mkF m 192 #[.val (.int p1), .val (.int p2), .val (.int p3), .val (.int p4), .val (.int p5), .val (.int (2 : Int32)), .val (.int cc1), .val (.int cc2), .val (.int cc3), .val (.int cc4), .val (.ref b32), .val (.int gt), .unset, .unset, .unset, .unset] [(.int cc1)])
    refine goStatic 0 X37 hx hZ hown (hw _ (List.mem_of_getElem? (i := 77) rfl)) (hw _ (List.mem_of_getElem? (i := 78) rfl)) (hw _ (List.mem_of_getElem? (i := 3) rfl)) (hw _ (List.mem_of_getElem? (i := 79) rfl)) (by decide) (rm_dig l Z a0 hw cc1 T36.heap n0 O0) eT37 (g := (mkF m 192 #[.val (.int p1), .val (.int p2), .val (.int p3), .val (.int p4), .val (.int p5), .val (.int (2 : Int32)), .val (.int cc1), .val (.int cc2), .val (.int cc3), .val (.int cc4), .val (.ref b32), .val (.int gt), .unset, .unset, .unset, .unset] [(.int cc1)])) rfl (by rw [hml]; rfl) [(.int cc1)] [] (lenOf pd__C_Z rfl) rfl rfl (by show 2 * 0 + _ ≤ _; exact Nat.le_of_eq rfl) (hb hby at_192) (by decide) (by decide) (by decide) (by decide) ?_
    intro v38 T38 L38 X38 q38
    obtain ⟨rfl, Nq38, eT38⟩ := q38
    have N38 := Fr.app N37 Nq38
    show Goes p e below _ T38 (mkF m 195 #[.val (.int p1), .val (.int p2), .val (.int p3), .val (.int p4), .val (.int p5), .val (.int (2 : Int32)), .val (.int cc1), .val (.int cc2), .val (.int cc3), .val (.int cc4), .val (.ref b32), .val (.int gt), .unset, .unset, .unset, .unset] [(.int (digS cc1))])
    refine Goes.of (T' := T38) (f' := (mkF m 203 #[.val (.int p1), .val (.int p2), .val (.int p3), .val (.int p4), .val (.int p5), .val (.int (2 : Int32)), .val (.int cc1), .val (.int cc2), .val (.int cc3), .val (.int cc4), .val (.ref b32), .val (.int gt), .unset, .unset, .unset, .unset] [(.int (if (digS cc1) = (0 : Int32) then (0 : Int32) else (1 : Int32)))])) (fun t kt => ?_) ?_
    · show Steps p.tables e below (T38.setTop (mkF m 195 #[.val (.int p1), .val (.int p2), .val (.int p3), .val (.int p4), .val (.int p5), .val (.int (2 : Int32)), .val (.int cc1), .val (.int cc2), .val (.int cc3), .val (.int cc4), .val (.ref b32), .val (.int gt), .unset, .unset, .unset, .unset] [(.int (digS cc1))])) _
      by_cases hq195 : (digS cc1) = (0 : Int32)
      · simp only [if_pos hq195] at kt
        refine XS.ifYes X38.here hx rfl (pc0 := 195) (pc' := 202) rfl (hb hby at_195) rfl ((if0 _ _).trans (teq hq195).1) (by decide) (by decide) ?_
        show Steps p.tables e below (T38.setTop (mkF m 202 #[.val (.int p1), .val (.int p2), .val (.int p3), .val (.int p4), .val (.int p5), .val (.int (2 : Int32)), .val (.int cc1), .val (.int cc2), .val (.int cc3), .val (.int cc4), .val (.ref b32), .val (.int gt), .unset, .unset, .unset, .unset] [])) _
        refine XS.iconst X38.here hx rfl (hb hby at_202) ?_
        show Steps p.tables e below (T38.setTop (mkF m 203 #[.val (.int p1), .val (.int p2), .val (.int p3), .val (.int p4), .val (.int p5), .val (.int (2 : Int32)), .val (.int cc1), .val (.int cc2), .val (.int cc3), .val (.int cc4), .val (.ref b32), .val (.int gt), .unset, .unset, .unset, .unset] [(.int (0 : Int32))])) _
        exact kt
      · simp only [if_neg hq195] at kt
        refine XS.ifNo X38.here hx rfl (hb hby at_195) rfl ((if0 _ _).trans (feq hq195).1) ?_
        show Steps p.tables e below (T38.setTop (mkF m 198 #[.val (.int p1), .val (.int p2), .val (.int p3), .val (.int p4), .val (.int p5), .val (.int (2 : Int32)), .val (.int cc1), .val (.int cc2), .val (.int cc3), .val (.int cc4), .val (.ref b32), .val (.int gt), .unset, .unset, .unset, .unset] [])) _
        refine XS.iconst X38.here hx rfl (hb hby at_198) ?_
        show Steps p.tables e below (T38.setTop (mkF m 199 #[.val (.int p1), .val (.int p2), .val (.int p3), .val (.int p4), .val (.int p5), .val (.int (2 : Int32)), .val (.int cc1), .val (.int cc2), .val (.int cc3), .val (.int cc4), .val (.ref b32), .val (.int gt), .unset, .unset, .unset, .unset] [(.int (1 : Int32))])) _
        refine XS.goto X38.here hx rfl (pc0 := 199) (pc' := 203) rfl (hb hby at_199) (by decide) (by decide) ?_
        show Steps p.tables e below (T38.setTop (mkF m 203 #[.val (.int p1), .val (.int p2), .val (.int p3), .val (.int p4), .val (.int p5), .val (.int (2 : Int32)), .val (.int cc1), .val (.int cc2), .val (.int cc3), .val (.int cc4), .val (.ref b32), .val (.int gt), .unset, .unset, .unset, .unset] [(.int (1 : Int32))])) _
        exact kt
    show Goes p e below _ T38 (mkF m 203 #[.val (.int p1), .val (.int p2), .val (.int p3), .val (.int p4), .val (.int p5), .val (.int (2 : Int32)), .val (.int cc1), .val (.int cc2), .val (.int cc3), .val (.int cc4), .val (.ref b32), .val (.int gt), .unset, .unset, .unset, .unset] [(.int (if (digS cc1) = (0 : Int32) then (0 : Int32) else (1 : Int32)))])
    refine goStatic 0 X38 hx hZ hown (hw _ (List.mem_of_getElem? (i := 42) rfl)) (hw _ (List.mem_of_getElem? (i := 43) rfl)) (hw _ (List.mem_of_getElem? (i := 3) rfl)) (hw _ (List.mem_of_getElem? (i := 44) rfl)) (by decide) (rm_one l Z a0 hw (if (digS cc1) = (0 : Int32) then (0 : Int32) else (1 : Int32)) T36.heap n0 O0) eT38 (g := (mkF m 203 #[.val (.int p1), .val (.int p2), .val (.int p3), .val (.int p4), .val (.int p5), .val (.int (2 : Int32)), .val (.int cc1), .val (.int cc2), .val (.int cc3), .val (.int cc4), .val (.ref b32), .val (.int gt), .unset, .unset, .unset, .unset] [(.int (if (digS cc1) = (0 : Int32) then (0 : Int32) else (1 : Int32)))])) rfl (by rw [hml]; rfl) [(.int (if (digS cc1) = (0 : Int32) then (0 : Int32) else (1 : Int32)))] [] (lenOf pd__Z_I rfl) rfl rfl (by show 2 * 0 + _ ≤ _; exact Nat.le_of_eq rfl) (hb hby at_203) (by decide) (by decide) (by decide) (by decide) ?_
    intro v39 T39 L39 X39 q39
    obtain ⟨rfl, Nq39, eT39⟩ := q39
    have N39 := Fr.app N38 Nq39
    show Goes p e below _ T39 (mkF m 206 #[.val (.int p1), .val (.int p2), .val (.int p3), .val (.int p4), .val (.int p5), .val (.int (2 : Int32)), .val (.int cc1), .val (.int cc2), .val (.int cc3), .val (.int cc4), .val (.ref b32), .val (.int gt), .unset, .unset, .unset, .unset] [(.int (if (if (digS cc1) = (0 : Int32) then (0 : Int32) else (1 : Int32)) = (0 : Int32) then (0 : Int32) else (1 : Int32)))])
    generalize eo1 : (if (if (digS cc1) = (0 : Int32) then (0 : Int32) else (1 : Int32)) = (0 : Int32) then (0 : Int32) else (1 : Int32)) = o1
    show Goes p e below _ T39 (mkF m 206 #[.val (.int p1), .val (.int p2), .val (.int p3), .val (.int p4), .val (.int p5), .val (.int (2 : Int32)), .val (.int cc1), .val (.int cc2), .val (.int cc3), .val (.int cc4), .val (.ref b32), .val (.int gt), .unset, .unset, .unset, .unset] [(.int o1)])
    refine Goes.of (fun _ => XS.iload X39.here hx rfl (hb hby at_206) rfl) ?_
    show Goes p e below _ T39 (mkF m 208 #[.val (.int p1), .val (.int p2), .val (.int p3), .val (.int p4), .val (.int p5), .val (.int (2 : Int32)), .val (.int cc1), .val (.int cc2), .val (.int cc3), .val (.int cc4), .val (.ref b32), .val (.int gt), .unset, .unset, .unset, .unset] [(.int (2 : Int32)), (.int o1)])
    refine Goes.of (fun _ => XS.iconst X39.here hx rfl (hb hby at_208)) ?_
    show Goes p e below _ T39 (mkF m 209 #[.val (.int p1), .val (.int p2), .val (.int p3), .val (.int p4), .val (.int p5), .val (.int (2 : Int32)), .val (.int cc1), .val (.int cc2), .val (.int cc3), .val (.int cc4), .val (.ref b32), .val (.int gt), .unset, .unset, .unset, .unset] [(.int (1 : Int32)), (.int (2 : Int32)), (.int o1)])
    refine Goes.of (fun _ => XS.icmpNo X39.here hx rfl (hb hby at_209) rfl (tlt (by decide)).2.2.2) ?_
    show Goes p e below _ T39 (mkF m 212 #[.val (.int p1), .val (.int p2), .val (.int p3), .val (.int p4), .val (.int p5), .val (.int (2 : Int32)), .val (.int cc1), .val (.int cc2), .val (.int cc3), .val (.int cc4), .val (.ref b32), .val (.int gt), .unset, .unset, .unset, .unset] [(.int o1)])
    refine Goes.of (fun _ => XS.iload X39.here hx rfl (hb hby at_212) rfl) ?_
    show Goes p e below _ T39 (mkF m 214 #[.val (.int p1), .val (.int p2), .val (.int p3), .val (.int p4), .val (.int p5), .val (.int (2 : Int32)), .val (.int cc1), .val (.int cc2), .val (.int cc3), .val (.int cc4), .val (.ref b32), .val (.int gt), .unset, .unset, .unset, .unset] [(.int cc2), (.int o1)])
    refine goStatic 1 X39 hx hZ hown (hw _ (List.mem_of_getElem? (i := 77) rfl)) (hw _ (List.mem_of_getElem? (i := 78) rfl)) (hw _ (List.mem_of_getElem? (i := 3) rfl)) (hw _ (List.mem_of_getElem? (i := 79) rfl)) (by decide) (rm_dig l Z a0 hw cc2 T36.heap n0 O0) eT39 (g := (mkF m 214 #[.val (.int p1), .val (.int p2), .val (.int p3), .val (.int p4), .val (.int p5), .val (.int (2 : Int32)), .val (.int cc1), .val (.int cc2), .val (.int cc3), .val (.int cc4), .val (.ref b32), .val (.int gt), .unset, .unset, .unset, .unset] [(.int cc2), (.int o1)])) rfl (by rw [hml]; rfl) [(.int cc2)] [(.int o1)] (lenOf pd__C_Z rfl) rfl rfl (by show 2 * 0 + _ ≤ _; exact Nat.le_of_eq rfl) (hb hby at_214) (by decide) (by decide) (by decide) (by decide) ?_
    intro v40 T40 L40 X40 q40
    obtain ⟨rfl, Nq40, eT40⟩ := q40
    have N40 := Fr.app N39 Nq40
    show Goes p e below _ T40 (mkF m 217 #[.val (.int p1), .val (.int p2), .val (.int p3), .val (.int p4), .val (.int p5), .val (.int (2 : Int32)), .val (.int cc1), .val (.int cc2), .val (.int cc3), .val (.int cc4), .val (.ref b32), .val (.int gt), .unset, .unset, .unset, .unset] [(.int (digS cc2)), (.int o1)])
    refine Goes.of (T' := T40) (f' := (mkF m 225 #[.val (.int p1), .val (.int p2), .val (.int p3), .val (.int p4), .val (.int p5), .val (.int (2 : Int32)), .val (.int cc1), .val (.int cc2), .val (.int cc3), .val (.int cc4), .val (.ref b32), .val (.int gt), .unset, .unset, .unset, .unset] [(.int (if (digS cc2) = (0 : Int32) then (0 : Int32) else (1 : Int32))), (.int o1)])) (fun t kt => ?_) ?_
    · show Steps p.tables e below (T40.setTop (mkF m 217 #[.val (.int p1), .val (.int p2), .val (.int p3), .val (.int p4), .val (.int p5), .val (.int (2 : Int32)), .val (.int cc1), .val (.int cc2), .val (.int cc3), .val (.int cc4), .val (.ref b32), .val (.int gt), .unset, .unset, .unset, .unset] [(.int (digS cc2)), (.int o1)])) _
      by_cases hq217 : (digS cc2) = (0 : Int32)
      · simp only [if_pos hq217] at kt
        refine XS.ifYes X40.here hx rfl (pc0 := 217) (pc' := 224) rfl (hb hby at_217) rfl ((if0 _ _).trans (teq hq217).1) (by decide) (by decide) ?_
        show Steps p.tables e below (T40.setTop (mkF m 224 #[.val (.int p1), .val (.int p2), .val (.int p3), .val (.int p4), .val (.int p5), .val (.int (2 : Int32)), .val (.int cc1), .val (.int cc2), .val (.int cc3), .val (.int cc4), .val (.ref b32), .val (.int gt), .unset, .unset, .unset, .unset] [(.int o1)])) _
        refine XS.iconst X40.here hx rfl (hb hby at_224) ?_
        show Steps p.tables e below (T40.setTop (mkF m 225 #[.val (.int p1), .val (.int p2), .val (.int p3), .val (.int p4), .val (.int p5), .val (.int (2 : Int32)), .val (.int cc1), .val (.int cc2), .val (.int cc3), .val (.int cc4), .val (.ref b32), .val (.int gt), .unset, .unset, .unset, .unset] [(.int (0 : Int32)), (.int o1)])) _
        exact kt
      · simp only [if_neg hq217] at kt
        refine XS.ifNo X40.here hx rfl (hb hby at_217) rfl ((if0 _ _).trans (feq hq217).1) ?_
        show Steps p.tables e below (T40.setTop (mkF m 220 #[.val (.int p1), .val (.int p2), .val (.int p3), .val (.int p4), .val (.int p5), .val (.int (2 : Int32)), .val (.int cc1), .val (.int cc2), .val (.int cc3), .val (.int cc4), .val (.ref b32), .val (.int gt), .unset, .unset, .unset, .unset] [(.int o1)])) _
        refine XS.iconst X40.here hx rfl (hb hby at_220) ?_
        show Steps p.tables e below (T40.setTop (mkF m 221 #[.val (.int p1), .val (.int p2), .val (.int p3), .val (.int p4), .val (.int p5), .val (.int (2 : Int32)), .val (.int cc1), .val (.int cc2), .val (.int cc3), .val (.int cc4), .val (.ref b32), .val (.int gt), .unset, .unset, .unset, .unset] [(.int (1 : Int32)), (.int o1)])) _
        refine XS.goto X40.here hx rfl (pc0 := 221) (pc' := 225) rfl (hb hby at_221) (by decide) (by decide) ?_
        show Steps p.tables e below (T40.setTop (mkF m 225 #[.val (.int p1), .val (.int p2), .val (.int p3), .val (.int p4), .val (.int p5), .val (.int (2 : Int32)), .val (.int cc1), .val (.int cc2), .val (.int cc3), .val (.int cc4), .val (.ref b32), .val (.int gt), .unset, .unset, .unset, .unset] [(.int (1 : Int32)), (.int o1)])) _
        exact kt
    show Goes p e below _ T40 (mkF m 225 #[.val (.int p1), .val (.int p2), .val (.int p3), .val (.int p4), .val (.int p5), .val (.int (2 : Int32)), .val (.int cc1), .val (.int cc2), .val (.int cc3), .val (.int cc4), .val (.ref b32), .val (.int gt), .unset, .unset, .unset, .unset] [(.int (if (digS cc2) = (0 : Int32) then (0 : Int32) else (1 : Int32))), (.int o1)])
    refine goStatic 1 X40 hx hZ hown (hw _ (List.mem_of_getElem? (i := 42) rfl)) (hw _ (List.mem_of_getElem? (i := 43) rfl)) (hw _ (List.mem_of_getElem? (i := 3) rfl)) (hw _ (List.mem_of_getElem? (i := 44) rfl)) (by decide) (rm_one l Z a0 hw (if (digS cc2) = (0 : Int32) then (0 : Int32) else (1 : Int32)) T36.heap n0 O0) eT40 (g := (mkF m 225 #[.val (.int p1), .val (.int p2), .val (.int p3), .val (.int p4), .val (.int p5), .val (.int (2 : Int32)), .val (.int cc1), .val (.int cc2), .val (.int cc3), .val (.int cc4), .val (.ref b32), .val (.int gt), .unset, .unset, .unset, .unset] [(.int (if (digS cc2) = (0 : Int32) then (0 : Int32) else (1 : Int32))), (.int o1)])) rfl (by rw [hml]; rfl) [(.int (if (digS cc2) = (0 : Int32) then (0 : Int32) else (1 : Int32)))] [(.int o1)] (lenOf pd__Z_I rfl) rfl rfl (by show 2 * 0 + _ ≤ _; exact Nat.le_of_eq rfl) (hb hby at_225) (by decide) (by decide) (by decide) (by decide) ?_
    intro v41 T41 L41 X41 q41
    obtain ⟨rfl, Nq41, eT41⟩ := q41
    have N41 := Fr.app N40 Nq41
    show Goes p e below _ T41 (mkF m 228 #[.val (.int p1), .val (.int p2), .val (.int p3), .val (.int p4), .val (.int p5), .val (.int (2 : Int32)), .val (.int cc1), .val (.int cc2), .val (.int cc3), .val (.int cc4), .val (.ref b32), .val (.int gt), .unset, .unset, .unset, .unset] [(.int (if (if (digS cc2) = (0 : Int32) then (0 : Int32) else (1 : Int32)) = (0 : Int32) then (0 : Int32) else (1 : Int32))), (.int o1)])
    generalize eo2 : (if (if (digS cc2) = (0 : Int32) then (0 : Int32) else (1 : Int32)) = (0 : Int32) then (0 : Int32) else (1 : Int32)) = o2
    show Goes p e below _ T41 (mkF m 228 #[.val (.int p1), .val (.int p2), .val (.int p3), .val (.int p4), .val (.int p5), .val (.int (2 : Int32)), .val (.int cc1), .val (.int cc2), .val (.int cc3), .val (.int cc4), .val (.ref b32), .val (.int gt), .unset, .unset, .unset, .unset] [(.int o2), (.int o1)])
    refine Goes.of (fun _ => XS.iadd X41.here hx rfl (hb hby at_228) rfl) ?_
    show Goes p e below _ T41 (mkF m 229 #[.val (.int p1), .val (.int p2), .val (.int p3), .val (.int p4), .val (.int p5), .val (.int (2 : Int32)), .val (.int cc1), .val (.int cc2), .val (.int cc3), .val (.int cc4), .val (.ref b32), .val (.int gt), .unset, .unset, .unset, .unset] [(.int (o1 + o2))])
    refine Goes.of (fun _ => XS.iload X41.here hx rfl (hb hby at_229) rfl) ?_
    show Goes p e below _ T41 (mkF m 231 #[.val (.int p1), .val (.int p2), .val (.int p3), .val (.int p4), .val (.int p5), .val (.int (2 : Int32)), .val (.int cc1), .val (.int cc2), .val (.int cc3), .val (.int cc4), .val (.ref b32), .val (.int gt), .unset, .unset, .unset, .unset] [(.int (2 : Int32)), (.int (o1 + o2))])
    refine Goes.of (fun _ => XS.iconst X41.here hx rfl (hb hby at_231)) ?_
    show Goes p e below _ T41 (mkF m 232 #[.val (.int p1), .val (.int p2), .val (.int p3), .val (.int p4), .val (.int p5), .val (.int (2 : Int32)), .val (.int cc1), .val (.int cc2), .val (.int cc3), .val (.int cc4), .val (.ref b32), .val (.int gt), .unset, .unset, .unset, .unset] [(.int (2 : Int32)), (.int (2 : Int32)), (.int (o1 + o2))])
    refine Goes.of (fun _ => XS.icmpYes X41.here hx rfl (pc0 := 232) (pc' := 247) rfl (hb hby at_232) rfl (flt (by decide)).2.2.2 (by decide) (by decide)) ?_
    show Goes p e below _ T41 (mkF m 247 #[.val (.int p1), .val (.int p2), .val (.int p3), .val (.int p4), .val (.int p5), .val (.int (2 : Int32)), .val (.int cc1), .val (.int cc2), .val (.int cc3), .val (.int cc4), .val (.ref b32), .val (.int gt), .unset, .unset, .unset, .unset] [(.int (o1 + o2))])
    refine Goes.of (fun _ => XS.iconst X41.here hx rfl (hb hby at_247)) ?_
    show Goes p e below _ T41 (mkF m 248 #[.val (.int p1), .val (.int p2), .val (.int p3), .val (.int p4), .val (.int p5), .val (.int (2 : Int32)), .val (.int cc1), .val (.int cc2), .val (.int cc3), .val (.int cc4), .val (.ref b32), .val (.int gt), .unset, .unset, .unset, .unset] [(.int (0 : Int32)), (.int (o1 + o2))])
    refine goStatic 1 X41 hx hZ hown (hw _ (List.mem_of_getElem? (i := 42) rfl)) (hw _ (List.mem_of_getElem? (i := 43) rfl)) (hw _ (List.mem_of_getElem? (i := 3) rfl)) (hw _ (List.mem_of_getElem? (i := 44) rfl)) (by decide) (rm_one l Z a0 hw (0 : Int32) T36.heap n0 O0) eT41 (g := (mkF m 248 #[.val (.int p1), .val (.int p2), .val (.int p3), .val (.int p4), .val (.int p5), .val (.int (2 : Int32)), .val (.int cc1), .val (.int cc2), .val (.int cc3), .val (.int cc4), .val (.ref b32), .val (.int gt), .unset, .unset, .unset, .unset] [(.int (0 : Int32)), (.int (o1 + o2))])) rfl (by rw [hml]; rfl) [(.int (0 : Int32))] [(.int (o1 + o2))] (lenOf pd__Z_I rfl) rfl rfl (by show 2 * 0 + _ ≤ _; exact Nat.le_of_eq rfl) (hb hby at_248) (by decide) (by decide) (by decide) (by decide) ?_
    intro v42 T42 L42 X42 q42
    obtain ⟨rfl, Nq42, eT42⟩ := q42
    have N42 := Fr.app N41 Nq42
    show Goes p e below _ T42 (mkF m 251 #[.val (.int p1), .val (.int p2), .val (.int p3), .val (.int p4), .val (.int p5), .val (.int (2 : Int32)), .val (.int cc1), .val (.int cc2), .val (.int cc3), .val (.int cc4), .val (.ref b32), .val (.int gt), .unset, .unset, .unset, .unset] [(.int (if (0 : Int32) = (0 : Int32) then (0 : Int32) else (1 : Int32))), (.int (o1 + o2))])
    generalize eo3 : (if (0 : Int32) = (0 : Int32) then (0 : Int32) else (1 : Int32)) = o3
    show Goes p e below _ T42 (mkF m 251 #[.val (.int p1), .val (.int p2), .val (.int p3), .val (.int p4), .val (.int p5), .val (.int (2 : Int32)), .val (.int cc1), .val (.int cc2), .val (.int cc3), .val (.int cc4), .val (.ref b32), .val (.int gt), .unset, .unset, .unset, .unset] [(.int o3), (.int (o1 + o2))])
    refine Goes.of (fun _ => XS.iadd X42.here hx rfl (hb hby at_251) rfl) ?_
    show Goes p e below _ T42 (mkF m 252 #[.val (.int p1), .val (.int p2), .val (.int p3), .val (.int p4), .val (.int p5), .val (.int (2 : Int32)), .val (.int cc1), .val (.int cc2), .val (.int cc3), .val (.int cc4), .val (.ref b32), .val (.int gt), .unset, .unset, .unset, .unset] [(.int ((o1 + o2) + o3))])
    refine Goes.of (fun _ => XS.iload X42.here hx rfl (hb hby at_252) rfl) ?_
    show Goes p e below _ T42 (mkF m 254 #[.val (.int p1), .val (.int p2), .val (.int p3), .val (.int p4), .val (.int p5), .val (.int (2 : Int32)), .val (.int cc1), .val (.int cc2), .val (.int cc3), .val (.int cc4), .val (.ref b32), .val (.int gt), .unset, .unset, .unset, .unset] [(.int (2 : Int32)), (.int ((o1 + o2) + o3))])
    refine Goes.of (fun _ => XS.iconst X42.here hx rfl (hb hby at_254)) ?_
    show Goes p e below _ T42 (mkF m 255 #[.val (.int p1), .val (.int p2), .val (.int p3), .val (.int p4), .val (.int p5), .val (.int (2 : Int32)), .val (.int cc1), .val (.int cc2), .val (.int cc3), .val (.int cc4), .val (.ref b32), .val (.int gt), .unset, .unset, .unset, .unset] [(.int (3 : Int32)), (.int (2 : Int32)), (.int ((o1 + o2) + o3))])
    refine Goes.of (fun _ => XS.icmpYes X42.here hx rfl (pc0 := 255) (pc' := 270) rfl (hb hby at_255) rfl (flt (by decide)).2.2.2 (by decide) (by decide)) ?_
    show Goes p e below _ T42 (mkF m 270 #[.val (.int p1), .val (.int p2), .val (.int p3), .val (.int p4), .val (.int p5), .val (.int (2 : Int32)), .val (.int cc1), .val (.int cc2), .val (.int cc3), .val (.int cc4), .val (.ref b32), .val (.int gt), .unset, .unset, .unset, .unset] [(.int ((o1 + o2) + o3))])
    refine Goes.of (fun _ => XS.iconst X42.here hx rfl (hb hby at_270)) ?_
    show Goes p e below _ T42 (mkF m 271 #[.val (.int p1), .val (.int p2), .val (.int p3), .val (.int p4), .val (.int p5), .val (.int (2 : Int32)), .val (.int cc1), .val (.int cc2), .val (.int cc3), .val (.int cc4), .val (.ref b32), .val (.int gt), .unset, .unset, .unset, .unset] [(.int (0 : Int32)), (.int ((o1 + o2) + o3))])
    refine goStatic 1 X42 hx hZ hown (hw _ (List.mem_of_getElem? (i := 42) rfl)) (hw _ (List.mem_of_getElem? (i := 43) rfl)) (hw _ (List.mem_of_getElem? (i := 3) rfl)) (hw _ (List.mem_of_getElem? (i := 44) rfl)) (by decide) (rm_one l Z a0 hw (0 : Int32) T36.heap n0 O0) eT42 (g := (mkF m 271 #[.val (.int p1), .val (.int p2), .val (.int p3), .val (.int p4), .val (.int p5), .val (.int (2 : Int32)), .val (.int cc1), .val (.int cc2), .val (.int cc3), .val (.int cc4), .val (.ref b32), .val (.int gt), .unset, .unset, .unset, .unset] [(.int (0 : Int32)), (.int ((o1 + o2) + o3))])) rfl (by rw [hml]; rfl) [(.int (0 : Int32))] [(.int ((o1 + o2) + o3))] (lenOf pd__Z_I rfl) rfl rfl (by show 2 * 0 + _ ≤ _; exact Nat.le_of_eq rfl) (hb hby at_271) (by decide) (by decide) (by decide) (by decide) ?_
    intro v43 T43 L43 X43 q43
    obtain ⟨rfl, Nq43, eT43⟩ := q43
    have N43 := Fr.app N42 Nq43
    show Goes p e below _ T43 (mkF m 274 #[.val (.int p1), .val (.int p2), .val (.int p3), .val (.int p4), .val (.int p5), .val (.int (2 : Int32)), .val (.int cc1), .val (.int cc2), .val (.int cc3), .val (.int cc4), .val (.ref b32), .val (.int gt), .unset, .unset, .unset, .unset] [(.int (if (0 : Int32) = (0 : Int32) then (0 : Int32) else (1 : Int32))), (.int ((o1 + o2) + o3))])
    generalize eo4 : (if (0 : Int32) = (0 : Int32) then (0 : Int32) else (1 : Int32)) = o4
    show Goes p e below _ T43 (mkF m 274 #[.val (.int p1), .val (.int p2), .val (.int p3), .val (.int p4), .val (.int p5), .val (.int (2 : Int32)), .val (.int cc1), .val (.int cc2), .val (.int cc3), .val (.int cc4), .val (.ref b32), .val (.int gt), .unset, .unset, .unset, .unset] [(.int o4), (.int ((o1 + o2) + o3))])
    refine Goes.of (fun _ => XS.iadd X43.here hx rfl (hb hby at_274) rfl) ?_
    show Goes p e below _ T43 (mkF m 275 #[.val (.int p1), .val (.int p2), .val (.int p3), .val (.int p4), .val (.int p5), .val (.int (2 : Int32)), .val (.int cc1), .val (.int cc2), .val (.int cc3), .val (.int cc4), .val (.ref b32), .val (.int gt), .unset, .unset, .unset, .unset] [(.int (((o1 + o2) + o3) + o4))])
    refine Goes.of (fun _ => XS.istore X43.here hx rfl (hb hby at_275) rfl (l' := #[.val (.int p1), .val (.int p2), .val (.int p3), .val (.int p4), .val (.int p5), .val (.int (2 : Int32)), .val (.int cc1), .val (.int cc2), .val (.int cc3), .val (.int cc4), .val (.ref b32), .val (.int gt), .val (.int (((o1 + o2) + o3) + o4)), .unset, .unset, .unset]) rfl) ?_
    show Goes p e below _ T43 (mkF m 277 #[.val (.int p1), .val (.int p2), .val (.int p3), .val (.int p4), .val (.int p5), .val (.int (2 : Int32)), .val (.int cc1), .val (.int cc2), .val (.int cc3), .val (.int cc4), .val (.ref b32), .val (.int gt), .val (.int (((o1 + o2) + o3) + o4)), .unset, .unset, .unset] [])
    generalize edg : (((o1 + o2) + o3) + o4) = dg
    show Goes p e below _ T43 (mkF m 277 #[.val (.int p1), .val (.int p2), .val (.int p3), .val (.int p4), .val (.int p5), .val (.int (2 : Int32)), .val (.int cc1), .val (.int cc2), .val (.int cc3), .val (.int cc4), .val (.ref b32), .val (.int gt), .val (.int dg), .unset, .unset, .unset] [])
    refine Goes.of (fun _ => XS.iload X43.here hx rfl (hb hby at_277) rfl) ?_
    show Goes p e below _ T43 (mkF m 279 #[.val (.int p1), .val (.int p2), .val (.int p3), .val (.int p4), .val (.int p5), .val (.int (2 : Int32)), .val (.int cc1), .val (.int cc2), .val (.int cc3), .val (.int cc4), .val (.ref b32), .val (.int gt), .val (.int dg), .unset, .unset, .unset] [(.int (2 : Int32))])
    refine Goes.of (fun _ => XS.ifNo X43.here hx rfl (hb hby at_279) rfl ((if0 _ _).trans (tlt (by decide)).2.2.2)) ?_
    show Goes p e below _ T43 (mkF m 282 #[.val (.int p1), .val (.int p2), .val (.int p3), .val (.int p4), .val (.int p5), .val (.int (2 : Int32)), .val (.int cc1), .val (.int cc2), .val (.int cc3), .val (.int cc4), .val (.ref b32), .val (.int gt), .val (.int dg), .unset, .unset, .unset] [])
    refine Goes.of (fun _ => XS.iload X43.here hx rfl (hb hby at_282) rfl) ?_
    show Goes p e below _ T43 (mkF m 284 #[.val (.int p1), .val (.int p2), .val (.int p3), .val (.int p4), .val (.int p5), .val (.int (2 : Int32)), .val (.int cc1), .val (.int cc2), .val (.int cc3), .val (.int cc4), .val (.ref b32), .val (.int gt), .val (.int dg), .unset, .unset, .unset] [(.int cc1)])
    refine Goes.of (fun _ => XS.bipush X43.here hx rfl (hb hby at_284)) ?_
    show Goes p e below _ T43 (mkF m 286 #[.val (.int p1), .val (.int p2), .val (.int p3), .val (.int p4), .val (.int p5), .val (.int (2 : Int32)), .val (.int cc1), .val (.int cc2), .val (.int cc3), .val (.int cc4), .val (.ref b32), .val (.int gt), .val (.int dg), .unset, .unset, .unset] [(.int (46 : Int32)), (.int cc1)])
    refine Goes.of (T' := T43) (f' := (mkF m 294 #[.val (.int p1), .val (.int p2), .val (.int p3), .val (.int p4), .val (.int p5), .val (.int (2 : Int32)), .val (.int cc1), .val (.int cc2), .val (.int cc3), .val (.int cc4), .val (.ref b32), .val (.int gt), .val (.int dg), .unset, .unset, .unset] [(.int (if cc1 = (46 : Int32) then (1 : Int32) else (0 : Int32)))])) (fun t kt => ?_) ?_
    · show Steps p.tables e below (T43.setTop (mkF m 286 #[.val (.int p1), .val (.int p2), .val (.int p3), .val (.int p4), .val (.int p5), .val (.int (2 : Int32)), .val (.int cc1), .val (.int cc2), .val (.int cc3), .val (.int cc4), .val (.ref b32), .val (.int gt), .val (.int dg), .unset, .unset, .unset] [(.int (46 : Int32)), (.int cc1)])) _
      by_cases hq286 : cc1 = (46 : Int32)
      · simp only [if_pos hq286] at kt
        refine XS.icmpNo X43.here hx rfl (hb hby at_286) rfl (teq hq286).2 ?_
        show Steps p.tables e below (T43.setTop (mkF m 289 #[.val (.int p1), .val (.int p2), .val (.int p3), .val (.int p4), .val (.int p5), .val (.int (2 : Int32)), .val (.int cc1), .val (.int cc2), .val (.int cc3), .val (.int cc4), .val (.ref b32), .val (.int gt), .val (.int dg), .unset, .unset, .unset] [])) _
        refine XS.iconst X43.here hx rfl (hb hby at_289) ?_
        show Steps p.tables e below (T43.setTop (mkF m 290 #[.val (.int p1), .val (.int p2), .val (.int p3), .val (.int p4), .val (.int p5), .val (.int (2 : Int32)), .val (.int cc1), .val (.int cc2), .val (.int cc3), .val (.int cc4), .val (.ref b32), .val (.int gt), .val (.int dg), .unset, .unset, .unset] [(.int (1 : Int32))])) _
        refine XS.goto X43.here hx rfl (pc0 := 290) (pc' := 294) rfl (hb hby at_290) (by decide) (by decide) ?_
        show Steps p.tables e below (T43.setTop (mkF m 294 #[.val (.int p1), .val (.int p2), .val (.int p3), .val (.int p4), .val (.int p5), .val (.int (2 : Int32)), .val (.int cc1), .val (.int cc2), .val (.int cc3), .val (.int cc4), .val (.ref b32), .val (.int gt), .val (.int dg), .unset, .unset, .unset] [(.int (1 : Int32))])) _
        exact kt
      · simp only [if_neg hq286] at kt
        refine XS.icmpYes X43.here hx rfl (pc0 := 286) (pc' := 293) rfl (hb hby at_286) rfl (feq hq286).2 (by decide) (by decide) ?_
        show Steps p.tables e below (T43.setTop (mkF m 293 #[.val (.int p1), .val (.int p2), .val (.int p3), .val (.int p4), .val (.int p5), .val (.int (2 : Int32)), .val (.int cc1), .val (.int cc2), .val (.int cc3), .val (.int cc4), .val (.ref b32), .val (.int gt), .val (.int dg), .unset, .unset, .unset] [])) _
        refine XS.iconst X43.here hx rfl (hb hby at_293) ?_
        show Steps p.tables e below (T43.setTop (mkF m 294 #[.val (.int p1), .val (.int p2), .val (.int p3), .val (.int p4), .val (.int p5), .val (.int (2 : Int32)), .val (.int cc1), .val (.int cc2), .val (.int cc3), .val (.int cc4), .val (.ref b32), .val (.int gt), .val (.int dg), .unset, .unset, .unset] [(.int (0 : Int32))])) _
        exact kt
    show Goes p e below _ T43 (mkF m 294 #[.val (.int p1), .val (.int p2), .val (.int p3), .val (.int p4), .val (.int p5), .val (.int (2 : Int32)), .val (.int cc1), .val (.int cc2), .val (.int cc3), .val (.int cc4), .val (.ref b32), .val (.int gt), .val (.int dg), .unset, .unset, .unset] [(.int (if cc1 = (46 : Int32) then (1 : Int32) else (0 : Int32)))])
    refine goStatic 0 X43 hx hZ hown (hw _ (List.mem_of_getElem? (i := 42) rfl)) (hw _ (List.mem_of_getElem? (i := 43) rfl)) (hw _ (List.mem_of_getElem? (i := 3) rfl)) (hw _ (List.mem_of_getElem? (i := 44) rfl)) (by decide) (rm_one l Z a0 hw (if cc1 = (46 : Int32) then (1 : Int32) else (0 : Int32)) T36.heap n0 O0) eT43 (g := (mkF m 294 #[.val (.int p1), .val (.int p2), .val (.int p3), .val (.int p4), .val (.int p5), .val (.int (2 : Int32)), .val (.int cc1), .val (.int cc2), .val (.int cc3), .val (.int cc4), .val (.ref b32), .val (.int gt), .val (.int dg), .unset, .unset, .unset] [(.int (if cc1 = (46 : Int32) then (1 : Int32) else (0 : Int32)))])) rfl (by rw [hml]; rfl) [(.int (if cc1 = (46 : Int32) then (1 : Int32) else (0 : Int32)))] [] (lenOf pd__Z_I rfl) rfl rfl (by show 2 * 0 + _ ≤ _; exact Nat.le_of_eq rfl) (hb hby at_294) (by decide) (by decide) (by decide) (by decide) ?_
    intro v44 T44 L44 X44 q44
    obtain ⟨rfl, Nq44, eT44⟩ := q44
    have N44 := Fr.app N43 Nq44
    show Goes p e below _ T44 (mkF m 297 #[.val (.int p1), .val (.int p2), .val (.int p3), .val (.int p4), .val (.int p5), .val (.int (2 : Int32)), .val (.int cc1), .val (.int cc2), .val (.int cc3), .val (.int cc4), .val (.ref b32), .val (.int gt), .val (.int dg), .unset, .unset, .unset] [(.int (if (if cc1 = (46 : Int32) then (1 : Int32) else (0 : Int32)) = (0 : Int32) then (0 : Int32) else (1 : Int32)))])
    generalize er1 : (if (if cc1 = (46 : Int32) then (1 : Int32) else (0 : Int32)) = (0 : Int32) then (0 : Int32) else (1 : Int32)) = r1
    show Goes p e below _ T44 (mkF m 297 #[.val (.int p1), .val (.int p2), .val (.int p3), .val (.int p4), .val (.int p5), .val (.int (2 : Int32)), .val (.int cc1), .val (.int cc2), .val (.int cc3), .val (.int cc4), .val (.ref b32), .val (.int gt), .val (.int dg), .unset, .unset, .unset] [(.int r1)])
    refine Goes.of (fun _ => XS.iload X44.here hx rfl (hb hby at_297) rfl) ?_
    show Goes p e below _ T44 (mkF m 299 #[.val (.int p1), .val (.int p2), .val (.int p3), .val (.int p4), .val (.int p5), .val (.int (2 : Int32)), .val (.int cc1), .val (.int cc2), .val (.int cc3), .val (.int cc4), .val (.ref b32), .val (.int gt), .val (.int dg), .unset, .unset, .unset] [(.int (2 : Int32)), (.int r1)])
    refine Goes.of (fun _ => XS.iconst X44.here hx rfl (hb hby at_299)) ?_
    show Goes p e below _ T44 (mkF m 300 #[.val (.int p1), .val (.int p2), .val (.int p3), .val (.int p4), .val (.int p5), .val (.int (2 : Int32)), .val (.int cc1), .val (.int cc2), .val (.int cc3), .val (.int cc4), .val (.ref b32), .val (.int gt), .val (.int dg), .unset, .unset, .unset] [(.int (1 : Int32)), (.int (2 : Int32)), (.int r1)])
    refine Goes.of (fun _ => XS.icmpNo X44.here hx rfl (hb hby at_300) rfl (tlt (by decide)).2.2.2) ?_
    show Goes p e below _ T44 (mkF m 303 #[.val (.int p1), .val (.int p2), .val (.int p3), .val (.int p4), .val (.int p5), .val (.int (2 : Int32)), .val (.int cc1), .val (.int cc2), .val (.int cc3), .val (.int cc4), .val (.ref b32), .val (.int gt), .val (.int dg), .unset, .unset, .unset] [(.int r1)])
    refine Goes.of (fun _ => XS.iload X44.here hx rfl (hb hby at_303) rfl) ?_
    show Goes p e below _ T44 (mkF m 305 #[.val (.int p1), .val (.int p2), .val (.int p3), .val (.int p4), .val (.int p5), .val (.int (2 : Int32)), .val (.int cc1), .val (.int cc2), .val (.int cc3), .val (.int cc4), .val (.ref b32), .val (.int gt), .val (.int dg), .unset, .unset, .unset] [(.int cc2), (.int r1)])
    refine Goes.of (fun _ => XS.bipush X44.here hx rfl (hb hby at_305)) ?_
    show Goes p e below _ T44 (mkF m 307 #[.val (.int p1), .val (.int p2), .val (.int p3), .val (.int p4), .val (.int p5), .val (.int (2 : Int32)), .val (.int cc1), .val (.int cc2), .val (.int cc3), .val (.int cc4), .val (.ref b32), .val (.int gt), .val (.int dg), .unset, .unset, .unset] [(.int (46 : Int32)), (.int cc2), (.int r1)])
    refine Goes.of (T' := T44) (f' := (mkF m 315 #[.val (.int p1), .val (.int p2), .val (.int p3), .val (.int p4), .val (.int p5), .val (.int (2 : Int32)), .val (.int cc1), .val (.int cc2), .val (.int cc3), .val (.int cc4), .val (.ref b32), .val (.int gt), .val (.int dg), .unset, .unset, .unset] [(.int (if cc2 = (46 : Int32) then (1 : Int32) else (0 : Int32))), (.int r1)])) (fun t kt => ?_) ?_
    · show Steps p.tables e below (T44.setTop (mkF m 307 #[.val (.int p1), .val (.int p2), .val (.int p3), .val (.int p4), .val (.int p5), .val (.int (2 : Int32)), .val (.int cc1), .val (.int cc2), .val (.int cc3), .val (.int cc4), .val (.ref b32), .val (.int gt), .val (.int dg), .unset, .unset, .unset] [(.int (46 : Int32)), (.int cc2), (.int r1)])) _
      by_cases hq307 : cc2 = (46 : Int32)
      · simp only [if_pos hq307] at kt
        refine XS.icmpNo X44.here hx rfl (hb hby at_307) rfl (teq hq307).2 ?_
        show Steps p.tables e below (T44.setTop (mkF m 310 #[.val (.int p1), .val (.int p2), .val (.int p3), .val (.int p4), .val (.int p5), .val (.int (2 : Int32)), .val (.int cc1), .val (.int cc2), .val (.int cc3), .val (.int cc4), .val (.ref b32), .val (.int gt), .val (.int dg), .unset, .unset, .unset] [(.int r1)])) _
        refine XS.iconst X44.here hx rfl (hb hby at_310) ?_
        show Steps p.tables e below (T44.setTop (mkF m 311 #[.val (.int p1), .val (.int p2), .val (.int p3), .val (.int p4), .val (.int p5), .val (.int (2 : Int32)), .val (.int cc1), .val (.int cc2), .val (.int cc3), .val (.int cc4), .val (.ref b32), .val (.int gt), .val (.int dg), .unset, .unset, .unset] [(.int (1 : Int32)), (.int r1)])) _
        refine XS.goto X44.here hx rfl (pc0 := 311) (pc' := 315) rfl (hb hby at_311) (by decide) (by decide) ?_
        show Steps p.tables e below (T44.setTop (mkF m 315 #[.val (.int p1), .val (.int p2), .val (.int p3), .val (.int p4), .val (.int p5), .val (.int (2 : Int32)), .val (.int cc1), .val (.int cc2), .val (.int cc3), .val (.int cc4), .val (.ref b32), .val (.int gt), .val (.int dg), .unset, .unset, .unset] [(.int (1 : Int32)), (.int r1)])) _
        exact kt
      · simp only [if_neg hq307] at kt
        refine XS.icmpYes X44.here hx rfl (pc0 := 307) (pc' := 314) rfl (hb hby at_307) rfl (feq hq307).2 (by decide) (by decide) ?_
        show Steps p.tables e below (T44.setTop (mkF m 314 #[.val (.int p1), .val (.int p2), .val (.int p3), .val (.int p4), .val (.int p5), .val (.int (2 : Int32)), .val (.int cc1), .val (.int cc2), .val (.int cc3), .val (.int cc4), .val (.ref b32), .val (.int gt), .val (.int dg), .unset, .unset, .unset] [(.int r1)])) _
        refine XS.iconst X44.here hx rfl (hb hby at_314) ?_
        show Steps p.tables e below (T44.setTop (mkF m 315 #[.val (.int p1), .val (.int p2), .val (.int p3), .val (.int p4), .val (.int p5), .val (.int (2 : Int32)), .val (.int cc1), .val (.int cc2), .val (.int cc3), .val (.int cc4), .val (.ref b32), .val (.int gt), .val (.int dg), .unset, .unset, .unset] [(.int (0 : Int32)), (.int r1)])) _
        exact kt
    show Goes p e below _ T44 (mkF m 315 #[.val (.int p1), .val (.int p2), .val (.int p3), .val (.int p4), .val (.int p5), .val (.int (2 : Int32)), .val (.int cc1), .val (.int cc2), .val (.int cc3), .val (.int cc4), .val (.ref b32), .val (.int gt), .val (.int dg), .unset, .unset, .unset] [(.int (if cc2 = (46 : Int32) then (1 : Int32) else (0 : Int32))), (.int r1)])
    refine goStatic 1 X44 hx hZ hown (hw _ (List.mem_of_getElem? (i := 42) rfl)) (hw _ (List.mem_of_getElem? (i := 43) rfl)) (hw _ (List.mem_of_getElem? (i := 3) rfl)) (hw _ (List.mem_of_getElem? (i := 44) rfl)) (by decide) (rm_one l Z a0 hw (if cc2 = (46 : Int32) then (1 : Int32) else (0 : Int32)) T36.heap n0 O0) eT44 (g := (mkF m 315 #[.val (.int p1), .val (.int p2), .val (.int p3), .val (.int p4), .val (.int p5), .val (.int (2 : Int32)), .val (.int cc1), .val (.int cc2), .val (.int cc3), .val (.int cc4), .val (.ref b32), .val (.int gt), .val (.int dg), .unset, .unset, .unset] [(.int (if cc2 = (46 : Int32) then (1 : Int32) else (0 : Int32))), (.int r1)])) rfl (by rw [hml]; rfl) [(.int (if cc2 = (46 : Int32) then (1 : Int32) else (0 : Int32)))] [(.int r1)] (lenOf pd__Z_I rfl) rfl rfl (by show 2 * 0 + _ ≤ _; exact Nat.le_of_eq rfl) (hb hby at_315) (by decide) (by decide) (by decide) (by decide) ?_
    intro v45 T45 L45 X45 q45
    obtain ⟨rfl, Nq45, eT45⟩ := q45
    have N45 := Fr.app N44 Nq45
    show Goes p e below _ T45 (mkF m 318 #[.val (.int p1), .val (.int p2), .val (.int p3), .val (.int p4), .val (.int p5), .val (.int (2 : Int32)), .val (.int cc1), .val (.int cc2), .val (.int cc3), .val (.int cc4), .val (.ref b32), .val (.int gt), .val (.int dg), .unset, .unset, .unset] [(.int (if (if cc2 = (46 : Int32) then (1 : Int32) else (0 : Int32)) = (0 : Int32) then (0 : Int32) else (1 : Int32))), (.int r1)])
    generalize er2 : (if (if cc2 = (46 : Int32) then (1 : Int32) else (0 : Int32)) = (0 : Int32) then (0 : Int32) else (1 : Int32)) = r2
    show Goes p e below _ T45 (mkF m 318 #[.val (.int p1), .val (.int p2), .val (.int p3), .val (.int p4), .val (.int p5), .val (.int (2 : Int32)), .val (.int cc1), .val (.int cc2), .val (.int cc3), .val (.int cc4), .val (.ref b32), .val (.int gt), .val (.int dg), .unset, .unset, .unset] [(.int r2), (.int r1)])
    refine Goes.of (fun _ => XS.iadd X45.here hx rfl (hb hby at_318) rfl) ?_
    show Goes p e below _ T45 (mkF m 319 #[.val (.int p1), .val (.int p2), .val (.int p3), .val (.int p4), .val (.int p5), .val (.int (2 : Int32)), .val (.int cc1), .val (.int cc2), .val (.int cc3), .val (.int cc4), .val (.ref b32), .val (.int gt), .val (.int dg), .unset, .unset, .unset] [(.int (r1 + r2))])
    refine Goes.of (fun _ => XS.iload X45.here hx rfl (hb hby at_319) rfl) ?_
    show Goes p e below _ T45 (mkF m 321 #[.val (.int p1), .val (.int p2), .val (.int p3), .val (.int p4), .val (.int p5), .val (.int (2 : Int32)), .val (.int cc1), .val (.int cc2), .val (.int cc3), .val (.int cc4), .val (.ref b32), .val (.int gt), .val (.int dg), .unset, .unset, .unset] [(.int (2 : Int32)), (.int (r1 + r2))])
    refine Goes.of (fun _ => XS.iconst X45.here hx rfl (hb hby at_321)) ?_
    show Goes p e below _ T45 (mkF m 322 #[.val (.int p1), .val (.int p2), .val (.int p3), .val (.int p4), .val (.int p5), .val (.int (2 : Int32)), .val (.int cc1), .val (.int cc2), .val (.int cc3), .val (.int cc4), .val (.ref b32), .val (.int gt), .val (.int dg), .unset, .unset, .unset] [(.int (2 : Int32)), (.int (2 : Int32)), (.int (r1 + r2))])
    refine Goes.of (fun _ => XS.icmpYes X45.here hx rfl (pc0 := 322) (pc' := 336) rfl (hb hby at_322) rfl (flt (by decide)).2.2.2 (by decide) (by decide)) ?_
    show Goes p e below _ T45 (mkF m 336 #[.val (.int p1), .val (.int p2), .val (.int p3), .val (.int p4), .val (.int p5), .val (.int (2 : Int32)), .val (.int cc1), .val (.int cc2), .val (.int cc3), .val (.int cc4), .val (.ref b32), .val (.int gt), .val (.int dg), .unset, .unset, .unset] [(.int (r1 + r2))])
    refine Goes.of (fun _ => XS.iconst X45.here hx rfl (hb hby at_336)) ?_
    show Goes p e below _ T45 (mkF m 337 #[.val (.int p1), .val (.int p2), .val (.int p3), .val (.int p4), .val (.int p5), .val (.int (2 : Int32)), .val (.int cc1), .val (.int cc2), .val (.int cc3), .val (.int cc4), .val (.ref b32), .val (.int gt), .val (.int dg), .unset, .unset, .unset] [(.int (0 : Int32)), (.int (r1 + r2))])
    refine goStatic 1 X45 hx hZ hown (hw _ (List.mem_of_getElem? (i := 42) rfl)) (hw _ (List.mem_of_getElem? (i := 43) rfl)) (hw _ (List.mem_of_getElem? (i := 3) rfl)) (hw _ (List.mem_of_getElem? (i := 44) rfl)) (by decide) (rm_one l Z a0 hw (0 : Int32) T36.heap n0 O0) eT45 (g := (mkF m 337 #[.val (.int p1), .val (.int p2), .val (.int p3), .val (.int p4), .val (.int p5), .val (.int (2 : Int32)), .val (.int cc1), .val (.int cc2), .val (.int cc3), .val (.int cc4), .val (.ref b32), .val (.int gt), .val (.int dg), .unset, .unset, .unset] [(.int (0 : Int32)), (.int (r1 + r2))])) rfl (by rw [hml]; rfl) [(.int (0 : Int32))] [(.int (r1 + r2))] (lenOf pd__Z_I rfl) rfl rfl (by show 2 * 0 + _ ≤ _; exact Nat.le_of_eq rfl) (hb hby at_337) (by decide) (by decide) (by decide) (by decide) ?_
    intro v46 T46 L46 X46 q46
    obtain ⟨rfl, Nq46, eT46⟩ := q46
    have N46 := Fr.app N45 Nq46
    show Goes p e below _ T46 (mkF m 340 #[.val (.int p1), .val (.int p2), .val (.int p3), .val (.int p4), .val (.int p5), .val (.int (2 : Int32)), .val (.int cc1), .val (.int cc2), .val (.int cc3), .val (.int cc4), .val (.ref b32), .val (.int gt), .val (.int dg), .unset, .unset, .unset] [(.int (if (0 : Int32) = (0 : Int32) then (0 : Int32) else (1 : Int32))), (.int (r1 + r2))])
    generalize er3 : (if (0 : Int32) = (0 : Int32) then (0 : Int32) else (1 : Int32)) = r3
    show Goes p e below _ T46 (mkF m 340 #[.val (.int p1), .val (.int p2), .val (.int p3), .val (.int p4), .val (.int p5), .val (.int (2 : Int32)), .val (.int cc1), .val (.int cc2), .val (.int cc3), .val (.int cc4), .val (.ref b32), .val (.int gt), .val (.int dg), .unset, .unset, .unset] [(.int r3), (.int (r1 + r2))])
    refine Goes.of (fun _ => XS.iadd X46.here hx rfl (hb hby at_340) rfl) ?_
    show Goes p e below _ T46 (mkF m 341 #[.val (.int p1), .val (.int p2), .val (.int p3), .val (.int p4), .val (.int p5), .val (.int (2 : Int32)), .val (.int cc1), .val (.int cc2), .val (.int cc3), .val (.int cc4), .val (.ref b32), .val (.int gt), .val (.int dg), .unset, .unset, .unset] [(.int ((r1 + r2) + r3))])
    refine Goes.of (fun _ => XS.iload X46.here hx rfl (hb hby at_341) rfl) ?_
    show Goes p e below _ T46 (mkF m 343 #[.val (.int p1), .val (.int p2), .val (.int p3), .val (.int p4), .val (.int p5), .val (.int (2 : Int32)), .val (.int cc1), .val (.int cc2), .val (.int cc3), .val (.int cc4), .val (.ref b32), .val (.int gt), .val (.int dg), .unset, .unset, .unset] [(.int (2 : Int32)), (.int ((r1 + r2) + r3))])
    refine Goes.of (fun _ => XS.iconst X46.here hx rfl (hb hby at_343)) ?_
    show Goes p e below _ T46 (mkF m 344 #[.val (.int p1), .val (.int p2), .val (.int p3), .val (.int p4), .val (.int p5), .val (.int (2 : Int32)), .val (.int cc1), .val (.int cc2), .val (.int cc3), .val (.int cc4), .val (.ref b32), .val (.int gt), .val (.int dg), .unset, .unset, .unset] [(.int (3 : Int32)), (.int (2 : Int32)), (.int ((r1 + r2) + r3))])
    refine Goes.of (fun _ => XS.icmpYes X46.here hx rfl (pc0 := 344) (pc' := 358) rfl (hb hby at_344) rfl (flt (by decide)).2.2.2 (by decide) (by decide)) ?_
    show Goes p e below _ T46 (mkF m 358 #[.val (.int p1), .val (.int p2), .val (.int p3), .val (.int p4), .val (.int p5), .val (.int (2 : Int32)), .val (.int cc1), .val (.int cc2), .val (.int cc3), .val (.int cc4), .val (.ref b32), .val (.int gt), .val (.int dg), .unset, .unset, .unset] [(.int ((r1 + r2) + r3))])
    refine Goes.of (fun _ => XS.iconst X46.here hx rfl (hb hby at_358)) ?_
    show Goes p e below _ T46 (mkF m 359 #[.val (.int p1), .val (.int p2), .val (.int p3), .val (.int p4), .val (.int p5), .val (.int (2 : Int32)), .val (.int cc1), .val (.int cc2), .val (.int cc3), .val (.int cc4), .val (.ref b32), .val (.int gt), .val (.int dg), .unset, .unset, .unset] [(.int (0 : Int32)), (.int ((r1 + r2) + r3))])
    refine goStatic 1 X46 hx hZ hown (hw _ (List.mem_of_getElem? (i := 42) rfl)) (hw _ (List.mem_of_getElem? (i := 43) rfl)) (hw _ (List.mem_of_getElem? (i := 3) rfl)) (hw _ (List.mem_of_getElem? (i := 44) rfl)) (by decide) (rm_one l Z a0 hw (0 : Int32) T36.heap n0 O0) eT46 (g := (mkF m 359 #[.val (.int p1), .val (.int p2), .val (.int p3), .val (.int p4), .val (.int p5), .val (.int (2 : Int32)), .val (.int cc1), .val (.int cc2), .val (.int cc3), .val (.int cc4), .val (.ref b32), .val (.int gt), .val (.int dg), .unset, .unset, .unset] [(.int (0 : Int32)), (.int ((r1 + r2) + r3))])) rfl (by rw [hml]; rfl) [(.int (0 : Int32))] [(.int ((r1 + r2) + r3))] (lenOf pd__Z_I rfl) rfl rfl (by show 2 * 0 + _ ≤ _; exact Nat.le_of_eq rfl) (hb hby at_359) (by decide) (by decide) (by decide) (by decide) ?_
    intro v47 T47 L47 X47 q47
    obtain ⟨rfl, Nq47, eT47⟩ := q47
    have N47 := Fr.app N46 Nq47
    show Goes p e below _ T47 (mkF m 362 #[.val (.int p1), .val (.int p2), .val (.int p3), .val (.int p4), .val (.int p5), .val (.int (2 : Int32)), .val (.int cc1), .val (.int cc2), .val (.int cc3), .val (.int cc4), .val (.ref b32), .val (.int gt), .val (.int dg), .unset, .unset, .unset] [(.int (if (0 : Int32) = (0 : Int32) then (0 : Int32) else (1 : Int32))), (.int ((r1 + r2) + r3))])
    generalize er4 : (if (0 : Int32) = (0 : Int32) then (0 : Int32) else (1 : Int32)) = r4
    show Goes p e below _ T47 (mkF m 362 #[.val (.int p1), .val (.int p2), .val (.int p3), .val (.int p4), .val (.int p5), .val (.int (2 : Int32)), .val (.int cc1), .val (.int cc2), .val (.int cc3), .val (.int cc4), .val (.ref b32), .val (.int gt), .val (.int dg), .unset, .unset, .unset] [(.int r4), (.int ((r1 + r2) + r3))])
    refine Goes.of (fun _ => XS.iadd X47.here hx rfl (hb hby at_362) rfl) ?_
    show Goes p e below _ T47 (mkF m 363 #[.val (.int p1), .val (.int p2), .val (.int p3), .val (.int p4), .val (.int p5), .val (.int (2 : Int32)), .val (.int cc1), .val (.int cc2), .val (.int cc3), .val (.int cc4), .val (.ref b32), .val (.int gt), .val (.int dg), .unset, .unset, .unset] [(.int (((r1 + r2) + r3) + r4))])
    refine Goes.of (fun _ => XS.istore X47.here hx rfl (hb hby at_363) rfl (l' := #[.val (.int p1), .val (.int p2), .val (.int p3), .val (.int p4), .val (.int p5), .val (.int (2 : Int32)), .val (.int cc1), .val (.int cc2), .val (.int cc3), .val (.int cc4), .val (.ref b32), .val (.int gt), .val (.int dg), .val (.int (((r1 + r2) + r3) + r4)), .unset, .unset]) rfl) ?_
    show Goes p e below _ T47 (mkF m 365 #[.val (.int p1), .val (.int p2), .val (.int p3), .val (.int p4), .val (.int p5), .val (.int (2 : Int32)), .val (.int cc1), .val (.int cc2), .val (.int cc3), .val (.int cc4), .val (.ref b32), .val (.int gt), .val (.int dg), .val (.int (((r1 + r2) + r3) + r4)), .unset, .unset] [])
    generalize ept : (((r1 + r2) + r3) + r4) = pt
    show Goes p e below _ T47 (mkF m 365 #[.val (.int p1), .val (.int p2), .val (.int p3), .val (.int p4), .val (.int p5), .val (.int (2 : Int32)), .val (.int cc1), .val (.int cc2), .val (.int cc3), .val (.int cc4), .val (.ref b32), .val (.int gt), .val (.int dg), .val (.int pt), .unset, .unset] [])
    refine Goes.of (fun _ => XS.iconst X47.here hx rfl (hb hby at_365)) ?_
    show Goes p e below _ T47 (mkF m 366 #[.val (.int p1), .val (.int p2), .val (.int p3), .val (.int p4), .val (.int p5), .val (.int (2 : Int32)), .val (.int cc1), .val (.int cc2), .val (.int cc3), .val (.int cc4), .val (.ref b32), .val (.int gt), .val (.int dg), .val (.int pt), .unset, .unset] [(.int (1 : Int32))])
    refine Goes.of (fun _ => XS.istore X47.here hx rfl (hb hby at_366) rfl (l' := #[.val (.int p1), .val (.int p2), .val (.int p3), .val (.int p4), .val (.int p5), .val (.int (2 : Int32)), .val (.int cc1), .val (.int cc2), .val (.int cc3), .val (.int cc4), .val (.ref b32), .val (.int gt), .val (.int dg), .val (.int pt), .val (.int (1 : Int32)), .unset]) rfl) ?_
    show Goes p e below _ T47 (mkF m 368 #[.val (.int p1), .val (.int p2), .val (.int p3), .val (.int p4), .val (.int p5), .val (.int (2 : Int32)), .val (.int cc1), .val (.int cc2), .val (.int cc3), .val (.int cc4), .val (.ref b32), .val (.int gt), .val (.int dg), .val (.int pt), .val (.int (1 : Int32)), .unset] [])
    refine Goes.of (fun _ => XS.iload X47.here hx rfl (hb hby at_368) rfl) ?_
    show Goes p e below _ T47 (mkF m 370 #[.val (.int p1), .val (.int p2), .val (.int p3), .val (.int p4), .val (.int p5), .val (.int (2 : Int32)), .val (.int cc1), .val (.int cc2), .val (.int cc3), .val (.int cc4), .val (.ref b32), .val (.int gt), .val (.int dg), .val (.int pt), .val (.int (1 : Int32)), .unset] [(.int (2 : Int32))])
    refine Goes.of (fun _ => XS.ifNo X47.here hx rfl (hb hby at_370) rfl ((if0 _ _).trans (tlt (by decide)).2.2.2)) ?_
    show Goes p e below _ T47 (mkF m 373 #[.val (.int p1), .val (.int p2), .val (.int p3), .val (.int p4), .val (.int p5), .val (.int (2 : Int32)), .val (.int cc1), .val (.int cc2), .val (.int cc3), .val (.int cc4), .val (.ref b32), .val (.int gt), .val (.int dg), .val (.int pt), .val (.int (1 : Int32)), .unset] [])
    refine Goes.of (fun _ => XS.iload X47.here hx rfl (hb hby at_373) rfl) ?_
    show Goes p e below _ T47 (mkF m 375 #[.val (.int p1), .val (.int p2), .val (.int p3), .val (.int p4), .val (.int p5), .val (.int (2 : Int32)), .val (.int cc1), .val (.int cc2), .val (.int cc3), .val (.int cc4), .val (.ref b32), .val (.int gt), .val (.int dg), .val (.int pt), .val (.int (1 : Int32)), .unset] [(.int cc1)])
    refine goStatic 0 X47 hx hZ hown (hw _ (List.mem_of_getElem? (i := 77) rfl)) (hw _ (List.mem_of_getElem? (i := 78) rfl)) (hw _ (List.mem_of_getElem? (i := 3) rfl)) (hw _ (List.mem_of_getElem? (i := 79) rfl)) (by decide) (rm_dig l Z a0 hw cc1 T36.heap n0 O0) eT47 (g := (mkF m 375 #[.val (.int p1), .val (.int p2), .val (.int p3), .val (.int p4), .val (.int p5), .val (.int (2 : Int32)), .val (.int cc1), .val (.int cc2), .val (.int cc3), .val (.int cc4), .val (.ref b32), .val (.int gt), .val (.int dg), .val (.int pt), .val (.int (1 : Int32)), .unset] [(.int cc1)])) rfl (by rw [hml]; rfl) [(.int cc1)] [] (lenOf pd__C_Z rfl) rfl rfl (by show 2 * 0 + _ ≤ _; exact Nat.le_of_eq rfl) (hb hby at_375) (by decide) (by decide) (by decide) (by decide) ?_
    intro v48 T48 L48 X48 q48
    obtain ⟨rfl, Nq48, eT48⟩ := q48
    have N48 := Fr.app N47 Nq48
    show Goes p e below _ T48 (mkF m 378 #[.val (.int p1), .val (.int p2), .val (.int p3), .val (.int p4), .val (.int p5), .val (.int (2 : Int32)), .val (.int cc1), .val (.int cc2), .val (.int cc3), .val (.int cc4), .val (.ref b32), .val (.int gt), .val (.int dg), .val (.int pt), .val (.int (1 : Int32)), .unset] [(.int (digS cc1))])
    refine Goes.of (T' := T48) (f' := (mkF m 405 #[.val (.int p1), .val (.int p2), .val (.int p3), .val (.int p4), .val (.int p5), .val (.int (2 : Int32)), .val (.int cc1), .val (.int cc2), .val (.int cc3), .val (.int cc4), .val (.ref b32), .val (.int gt), .val (.int dg), .val (.int pt), .val (.int (if (digS cc1) = (0 : Int32) then (if cc1 = (46 : Int32) then (1 : Int32) else (if cc1 = (43 : Int32) then (1 : Int32) else (if cc1 = (45 : Int32) then (1 : Int32) else (0 : Int32)))) else (1 : Int32))), .unset] [])) (fun t kt => ?_) ?_
    · show Steps p.tables e below (T48.setTop (mkF m 378 #[.val (.int p1), .val (.int p2), .val (.int p3), .val (.int p4), .val (.int p5), .val (.int (2 : Int32)), .val (.int cc1), .val (.int cc2), .val (.int cc3), .val (.int cc4), .val (.ref b32), .val (.int gt), .val (.int dg), .val (.int pt), .val (.int (1 : Int32)), .unset] [(.int (digS cc1))])) _
      by_cases hq378 : (digS cc1) = (0 : Int32)
      · simp only [if_pos hq378] at kt
        refine XS.ifNo X48.here hx rfl (hb hby at_378) rfl ((if0 _ _).trans (teq hq378).2) ?_
        show Steps p.tables e below (T48.setTop (mkF m 381 #[.val (.int p1), .val (.int p2), .val (.int p3), .val (.int p4), .val (.int p5), .val (.int (2 : Int32)), .val (.int cc1), .val (.int cc2), .val (.int cc3), .val (.int cc4), .val (.ref b32), .val (.int gt), .val (.int dg), .val (.int pt), .val (.int (1 : Int32)), .unset] [])) _
        refine XS.iload X48.here hx rfl (hb hby at_381) rfl ?_
        show Steps p.tables e below (T48.setTop (mkF m 383 #[.val (.int p1), .val (.int p2), .val (.int p3), .val (.int p4), .val (.int p5), .val (.int (2 : Int32)), .val (.int cc1), .val (.int cc2), .val (.int cc3), .val (.int cc4), .val (.ref b32), .val (.int gt), .val (.int dg), .val (.int pt), .val (.int (1 : Int32)), .unset] [(.int cc1)])) _
        refine XS.bipush X48.here hx rfl (hb hby at_383) ?_
        show Steps p.tables e below (T48.setTop (mkF m 385 #[.val (.int p1), .val (.int p2), .val (.int p3), .val (.int p4), .val (.int p5), .val (.int (2 : Int32)), .val (.int cc1), .val (.int cc2), .val (.int cc3), .val (.int cc4), .val (.ref b32), .val (.int gt), .val (.int dg), .val (.int pt), .val (.int (1 : Int32)), .unset] [(.int (46 : Int32)), (.int cc1)])) _
        by_cases hq385 : cc1 = (46 : Int32)
        · simp only [if_pos hq385] at kt
          refine XS.icmpYes X48.here hx rfl (pc0 := 385) (pc' := 405) rfl (hb hby at_385) rfl (teq hq385).1 (by decide) (by decide) ?_
          show Steps p.tables e below (T48.setTop (mkF m 405 #[.val (.int p1), .val (.int p2), .val (.int p3), .val (.int p4), .val (.int p5), .val (.int (2 : Int32)), .val (.int cc1), .val (.int cc2), .val (.int cc3), .val (.int cc4), .val (.ref b32), .val (.int gt), .val (.int dg), .val (.int pt), .val (.int (1 : Int32)), .unset] [])) _
          exact kt
        · simp only [if_neg hq385] at kt
          refine XS.icmpNo X48.here hx rfl (hb hby at_385) rfl (feq hq385).1 ?_
          show Steps p.tables e below (T48.setTop (mkF m 388 #[.val (.int p1), .val (.int p2), .val (.int p3), .val (.int p4), .val (.int p5), .val (.int (2 : Int32)), .val (.int cc1), .val (.int cc2), .val (.int cc3), .val (.int cc4), .val (.ref b32), .val (.int gt), .val (.int dg), .val (.int pt), .val (.int (1 : Int32)), .unset] [])) _
          refine XS.iload X48.here hx rfl (hb hby at_388) rfl ?_
          show Steps p.tables e below (T48.setTop (mkF m 390 #[.val (.int p1), .val (.int p2), .val (.int p3), .val (.int p4), .val (.int p5), .val (.int (2 : Int32)), .val (.int cc1), .val (.int cc2), .val (.int cc3), .val (.int cc4), .val (.ref b32), .val (.int gt), .val (.int dg), .val (.int pt), .val (.int (1 : Int32)), .unset] [(.int cc1)])) _
          refine XS.bipush X48.here hx rfl (hb hby at_390) ?_
          show Steps p.tables e below (T48.setTop (mkF m 392 #[.val (.int p1), .val (.int p2), .val (.int p3), .val (.int p4), .val (.int p5), .val (.int (2 : Int32)), .val (.int cc1), .val (.int cc2), .val (.int cc3), .val (.int cc4), .val (.ref b32), .val (.int gt), .val (.int dg), .val (.int pt), .val (.int (1 : Int32)), .unset] [(.int (43 : Int32)), (.int cc1)])) _
          by_cases hq392 : cc1 = (43 : Int32)
          · simp only [if_pos hq392] at kt
            refine XS.icmpYes X48.here hx rfl (pc0 := 392) (pc' := 405) rfl (hb hby at_392) rfl (teq hq392).1 (by decide) (by decide) ?_
            show Steps p.tables e below (T48.setTop (mkF m 405 #[.val (.int p1), .val (.int p2), .val (.int p3), .val (.int p4), .val (.int p5), .val (.int (2 : Int32)), .val (.int cc1), .val (.int cc2), .val (.int cc3), .val (.int cc4), .val (.ref b32), .val (.int gt), .val (.int dg), .val (.int pt), .val (.int (1 : Int32)), .unset] [])) _
            exact kt
          · simp only [if_neg hq392] at kt
            refine XS.icmpNo X48.here hx rfl (hb hby at_392) rfl (feq hq392).1 ?_
            show Steps p.tables e below (T48.setTop (mkF m 395 #[.val (.int p1), .val (.int p2), .val (.int p3), .val (.int p4), .val (.int p5), .val (.int (2 : Int32)), .val (.int cc1), .val (.int cc2), .val (.int cc3), .val (.int cc4), .val (.ref b32), .val (.int gt), .val (.int dg), .val (.int pt), .val (.int (1 : Int32)), .unset] [])) _
            refine XS.iload X48.here hx rfl (hb hby at_395) rfl ?_
            show Steps p.tables e below (T48.setTop (mkF m 397 #[.val (.int p1), .val (.int p2), .val (.int p3), .val (.int p4), .val (.int p5), .val (.int (2 : Int32)), .val (.int cc1), .val (.int cc2), .val (.int cc3), .val (.int cc4), .val (.ref b32), .val (.int gt), .val (.int dg), .val (.int pt), .val (.int (1 : Int32)), .unset] [(.int cc1)])) _
            refine XS.bipush X48.here hx rfl (hb hby at_397) ?_
            show Steps p.tables e below (T48.setTop (mkF m 399 #[.val (.int p1), .val (.int p2), .val (.int p3), .val (.int p4), .val (.int p5), .val (.int (2 : Int32)), .val (.int cc1), .val (.int cc2), .val (.int cc3), .val (.int cc4), .val (.ref b32), .val (.int gt), .val (.int dg), .val (.int pt), .val (.int (1 : Int32)), .unset] [(.int (45 : Int32)), (.int cc1)])) _
            by_cases hq399 : cc1 = (45 : Int32)
            · simp only [if_pos hq399] at kt
              refine XS.icmpYes X48.here hx rfl (pc0 := 399) (pc' := 405) rfl (hb hby at_399) rfl (teq hq399).1 (by decide) (by decide) ?_
              show Steps p.tables e below (T48.setTop (mkF m 405 #[.val (.int p1), .val (.int p2), .val (.int p3), .val (.int p4), .val (.int p5), .val (.int (2 : Int32)), .val (.int cc1), .val (.int cc2), .val (.int cc3), .val (.int cc4), .val (.ref b32), .val (.int gt), .val (.int dg), .val (.int pt), .val (.int (1 : Int32)), .unset] [])) _
              exact kt
            · simp only [if_neg hq399] at kt
              refine XS.icmpNo X48.here hx rfl (hb hby at_399) rfl (feq hq399).1 ?_
              show Steps p.tables e below (T48.setTop (mkF m 402 #[.val (.int p1), .val (.int p2), .val (.int p3), .val (.int p4), .val (.int p5), .val (.int (2 : Int32)), .val (.int cc1), .val (.int cc2), .val (.int cc3), .val (.int cc4), .val (.ref b32), .val (.int gt), .val (.int dg), .val (.int pt), .val (.int (1 : Int32)), .unset] [])) _
              refine XS.iconst X48.here hx rfl (hb hby at_402) ?_
              show Steps p.tables e below (T48.setTop (mkF m 403 #[.val (.int p1), .val (.int p2), .val (.int p3), .val (.int p4), .val (.int p5), .val (.int (2 : Int32)), .val (.int cc1), .val (.int cc2), .val (.int cc3), .val (.int cc4), .val (.ref b32), .val (.int gt), .val (.int dg), .val (.int pt), .val (.int (1 : Int32)), .unset] [(.int (0 : Int32))])) _
              refine XS.istore X48.here hx rfl (hb hby at_403) rfl (l' := #[.val (.int p1), .val (.int p2), .val (.int p3), .val (.int p4), .val (.int p5), .val (.int (2 : Int32)), .val (.int cc1), .val (.int cc2), .val (.int cc3), .val (.int cc4), .val (.ref b32), .val (.int gt), .val (.int dg), .val (.int pt), .val (.int (0 : Int32)), .unset]) rfl ?_
              show Steps p.tables e below (T48.setTop (mkF m 405 #[.val (.int p1), .val (.int p2), .val (.int p3), .val (.int p4), .val (.int p5), .val (.int (2 : Int32)), .val (.int cc1), .val (.int cc2), .val (.int cc3), .val (.int cc4), .val (.ref b32), .val (.int gt), .val (.int dg), .val (.int pt), .val (.int (0 : Int32)), .unset] [])) _
              exact kt
      · simp only [if_neg hq378] at kt
        refine XS.ifYes X48.here hx rfl (pc0 := 378) (pc' := 405) rfl (hb hby at_378) rfl ((if0 _ _).trans (feq hq378).2) (by decide) (by decide) ?_
        show Steps p.tables e below (T48.setTop (mkF m 405 #[.val (.int p1), .val (.int p2), .val (.int p3), .val (.int p4), .val (.int p5), .val (.int (2 : Int32)), .val (.int cc1), .val (.int cc2), .val (.int cc3), .val (.int cc4), .val (.ref b32), .val (.int gt), .val (.int dg), .val (.int pt), .val (.int (1 : Int32)), .unset] [])) _
        exact kt
    show Goes p e below _ T48 (mkF m 405 #[.val (.int p1), .val (.int p2), .val (.int p3), .val (.int p4), .val (.int p5), .val (.int (2 : Int32)), .val (.int cc1), .val (.int cc2), .val (.int cc3), .val (.int cc4), .val (.ref b32), .val (.int gt), .val (.int dg), .val (.int pt), .val (.int (if (digS cc1) = (0 : Int32) then (if cc1 = (46 : Int32) then (1 : Int32) else (if cc1 = (43 : Int32) then (1 : Int32) else (if cc1 = (45 : Int32) then (1 : Int32) else (0 : Int32)))) else (1 : Int32))), .unset] [])
    generalize es1 : (if (digS cc1) = (0 : Int32) then (if cc1 = (46 : Int32) then (1 : Int32) else (if cc1 = (43 : Int32) then (1 : Int32) else (if cc1 = (45 : Int32) then (1 : Int32) else (0 : Int32)))) else (1 : Int32)) = s1
    show Goes p e below _ T48 (mkF m 405 #[.val (.int p1), .val (.int p2), .val (.int p3), .val (.int p4), .val (.int p5), .val (.int (2 : Int32)), .val (.int cc1), .val (.int cc2), .val (.int cc3), .val (.int cc4), .val (.ref b32), .val (.int gt), .val (.int dg), .val (.int pt), .val (.int s1), .unset] [])
    refine Goes.of (fun _ => XS.iload X48.here hx rfl (hb hby at_405) rfl) ?_
    show Goes p e below _ T48 (mkF m 407 #[.val (.int p1), .val (.int p2), .val (.int p3), .val (.int p4), .val (.int p5), .val (.int (2 : Int32)), .val (.int cc1), .val (.int cc2), .val (.int cc3), .val (.int cc4), .val (.ref b32), .val (.int gt), .val (.int dg), .val (.int pt), .val (.int s1), .unset] [(.int (2 : Int32))])
    refine Goes.of (fun _ => XS.iconst X48.here hx rfl (hb hby at_407)) ?_
    show Goes p e below _ T48 (mkF m 408 #[.val (.int p1), .val (.int p2), .val (.int p3), .val (.int p4), .val (.int p5), .val (.int (2 : Int32)), .val (.int cc1), .val (.int cc2), .val (.int cc3), .val (.int cc4), .val (.ref b32), .val (.int gt), .val (.int dg), .val (.int pt), .val (.int s1), .unset] [(.int (1 : Int32)), (.int (2 : Int32))])
    refine Goes.of (fun _ => XS.icmpNo X48.here hx rfl (hb hby at_408) rfl (tlt (by decide)).2.2.2) ?_
    show Goes p e below _ T48 (mkF m 411 #[.val (.int p1), .val (.int p2), .val (.int p3), .val (.int p4), .val (.int p5), .val (.int (2 : Int32)), .val (.int cc1), .val (.int cc2), .val (.int cc3), .val (.int cc4), .val (.ref b32), .val (.int gt), .val (.int dg), .val (.int pt), .val (.int s1), .unset] [])
    refine Goes.of (fun _ => XS.iload X48.here hx rfl (hb hby at_411) rfl) ?_
    show Goes p e below _ T48 (mkF m 413 #[.val (.int p1), .val (.int p2), .val (.int p3), .val (.int p4), .val (.int p5), .val (.int (2 : Int32)), .val (.int cc1), .val (.int cc2), .val (.int cc3), .val (.int cc4), .val (.ref b32), .val (.int gt), .val (.int dg), .val (.int pt), .val (.int s1), .unset] [(.int cc2)])
    refine goStatic 0 X48 hx hZ hown (hw _ (List.mem_of_getElem? (i := 80) rfl)) (hw _ (List.mem_of_getElem? (i := 81) rfl)) (hw _ (List.mem_of_getElem? (i := 3) rfl)) (hw _ (List.mem_of_getElem? (i := 82) rfl)) (by decide) (rm_body l Z a0 hw cc2 T36.heap n0 O0) eT48 (g := (mkF m 413 #[.val (.int p1), .val (.int p2), .val (.int p3), .val (.int p4), .val (.int p5), .val (.int (2 : Int32)), .val (.int cc1), .val (.int cc2), .val (.int cc3), .val (.int cc4), .val (.ref b32), .val (.int gt), .val (.int dg), .val (.int pt), .val (.int s1), .unset] [(.int cc2)])) rfl (by rw [hml]; rfl) [(.int cc2)] [] (lenOf pd__C_Z rfl) rfl rfl (by show 2 * 0 + _ ≤ _; exact Nat.le_of_eq rfl) (hb hby at_413) (by decide) (by decide) (by decide) (by decide) ?_
    intro v49 T49 L49 X49 q49
    obtain ⟨rfl, Nq49, eT49⟩ := q49
    have N49 := Fr.app N48 Nq49
    show Goes p e below _ T49 (mkF m 416 #[.val (.int p1), .val (.int p2), .val (.int p3), .val (.int p4), .val (.int p5), .val (.int (2 : Int32)), .val (.int cc1), .val (.int cc2), .val (.int cc3), .val (.int cc4), .val (.ref b32), .val (.int gt), .val (.int dg), .val (.int pt), .val (.int s1), .unset] [(.int (bodyS cc2))])
    refine Goes.of (T' := T49) (f' := (mkF m 422 #[.val (.int p1), .val (.int p2), .val (.int p3), .val (.int p4), .val (.int p5), .val (.int (2 : Int32)), .val (.int cc1), .val (.int cc2), .val (.int cc3), .val (.int cc4), .val (.ref b32), .val (.int gt), .val (.int dg), .val (.int pt), .val (.int (if (bodyS cc2) = (0 : Int32) then (0 : Int32) else s1)), .unset] [])) (fun t kt => ?_) ?_
    · show Steps p.tables e below (T49.setTop (mkF m 416 #[.val (.int p1), .val (.int p2), .val (.int p3), .val (.int p4), .val (.int p5), .val (.int (2 : Int32)), .val (.int cc1), .val (.int cc2), .val (.int cc3), .val (.int cc4), .val (.ref b32), .val (.int gt), .val (.int dg), .val (.int pt), .val (.int s1), .unset] [(.int (bodyS cc2))])) _
      by_cases hq416 : (bodyS cc2) = (0 : Int32)
      · simp only [if_pos hq416] at kt
        refine XS.ifNo X49.here hx rfl (hb hby at_416) rfl ((if0 _ _).trans (teq hq416).2) ?_
        show Steps p.tables e below (T49.setTop (mkF m 419 #[.val (.int p1), .val (.int p2), .val (.int p3), .val (.int p4), .val (.int p5), .val (.int (2 : Int32)), .val (.int cc1), .val (.int cc2), .val (.int cc3), .val (.int cc4), .val (.ref b32), .val (.int gt), .val (.int dg), .val (.int pt), .val (.int s1), .unset] [])) _
        refine XS.iconst X49.here hx rfl (hb hby at_419) ?_
        show Steps p.tables e below (T49.setTop (mkF m 420 #[.val (.int p1), .val (.int p2), .val (.int p3), .val (.int p4), .val (.int p5), .val (.int (2 : Int32)), .val (.int cc1), .val (.int cc2), .val (.int cc3), .val (.int cc4), .val (.ref b32), .val (.int gt), .val (.int dg), .val (.int pt), .val (.int s1), .unset] [(.int (0 : Int32))])) _
        refine XS.istore X49.here hx rfl (hb hby at_420) rfl (l' := #[.val (.int p1), .val (.int p2), .val (.int p3), .val (.int p4), .val (.int p5), .val (.int (2 : Int32)), .val (.int cc1), .val (.int cc2), .val (.int cc3), .val (.int cc4), .val (.ref b32), .val (.int gt), .val (.int dg), .val (.int pt), .val (.int (0 : Int32)), .unset]) rfl ?_
        show Steps p.tables e below (T49.setTop (mkF m 422 #[.val (.int p1), .val (.int p2), .val (.int p3), .val (.int p4), .val (.int p5), .val (.int (2 : Int32)), .val (.int cc1), .val (.int cc2), .val (.int cc3), .val (.int cc4), .val (.ref b32), .val (.int gt), .val (.int dg), .val (.int pt), .val (.int (0 : Int32)), .unset] [])) _
        exact kt
      · simp only [if_neg hq416] at kt
        refine XS.ifYes X49.here hx rfl (pc0 := 416) (pc' := 422) rfl (hb hby at_416) rfl ((if0 _ _).trans (feq hq416).2) (by decide) (by decide) ?_
        show Steps p.tables e below (T49.setTop (mkF m 422 #[.val (.int p1), .val (.int p2), .val (.int p3), .val (.int p4), .val (.int p5), .val (.int (2 : Int32)), .val (.int cc1), .val (.int cc2), .val (.int cc3), .val (.int cc4), .val (.ref b32), .val (.int gt), .val (.int dg), .val (.int pt), .val (.int s1), .unset] [])) _
        exact kt
    show Goes p e below _ T49 (mkF m 422 #[.val (.int p1), .val (.int p2), .val (.int p3), .val (.int p4), .val (.int p5), .val (.int (2 : Int32)), .val (.int cc1), .val (.int cc2), .val (.int cc3), .val (.int cc4), .val (.ref b32), .val (.int gt), .val (.int dg), .val (.int pt), .val (.int (if (bodyS cc2) = (0 : Int32) then (0 : Int32) else s1)), .unset] [])
    generalize es2 : (if (bodyS cc2) = (0 : Int32) then (0 : Int32) else s1) = s2
    show Goes p e below _ T49 (mkF m 422 #[.val (.int p1), .val (.int p2), .val (.int p3), .val (.int p4), .val (.int p5), .val (.int (2 : Int32)), .val (.int cc1), .val (.int cc2), .val (.int cc3), .val (.int cc4), .val (.ref b32), .val (.int gt), .val (.int dg), .val (.int pt), .val (.int s2), .unset] [])
    refine Goes.of (fun _ => XS.iload X49.here hx rfl (hb hby at_422) rfl) ?_
    show Goes p e below _ T49 (mkF m 424 #[.val (.int p1), .val (.int p2), .val (.int p3), .val (.int p4), .val (.int p5), .val (.int (2 : Int32)), .val (.int cc1), .val (.int cc2), .val (.int cc3), .val (.int cc4), .val (.ref b32), .val (.int gt), .val (.int dg), .val (.int pt), .val (.int s2), .unset] [(.int (2 : Int32))])
    refine Goes.of (fun _ => XS.iconst X49.here hx rfl (hb hby at_424)) ?_
    show Goes p e below _ T49 (mkF m 425 #[.val (.int p1), .val (.int p2), .val (.int p3), .val (.int p4), .val (.int p5), .val (.int (2 : Int32)), .val (.int cc1), .val (.int cc2), .val (.int cc3), .val (.int cc4), .val (.ref b32), .val (.int gt), .val (.int dg), .val (.int pt), .val (.int s2), .unset] [(.int (2 : Int32)), (.int (2 : Int32))])
    refine Goes.of (fun _ => XS.icmpYes X49.here hx rfl (pc0 := 425) (pc' := 439) rfl (hb hby at_425) rfl (flt (by decide)).2.2.2 (by decide) (by decide)) ?_
    show Goes p e below _ T49 (mkF m 439 #[.val (.int p1), .val (.int p2), .val (.int p3), .val (.int p4), .val (.int p5), .val (.int (2 : Int32)), .val (.int cc1), .val (.int cc2), .val (.int cc3), .val (.int cc4), .val (.ref b32), .val (.int gt), .val (.int dg), .val (.int pt), .val (.int s2), .unset] [])
    refine Goes.of (fun _ => XS.iload X49.here hx rfl (hb hby at_439) rfl) ?_
    show Goes p e below _ T49 (mkF m 441 #[.val (.int p1), .val (.int p2), .val (.int p3), .val (.int p4), .val (.int p5), .val (.int (2 : Int32)), .val (.int cc1), .val (.int cc2), .val (.int cc3), .val (.int cc4), .val (.ref b32), .val (.int gt), .val (.int dg), .val (.int pt), .val (.int s2), .unset] [(.int (2 : Int32))])
    refine Goes.of (fun _ => XS.iconst X49.here hx rfl (hb hby at_441)) ?_
    show Goes p e below _ T49 (mkF m 442 #[.val (.int p1), .val (.int p2), .val (.int p3), .val (.int p4), .val (.int p5), .val (.int (2 : Int32)), .val (.int cc1), .val (.int cc2), .val (.int cc3), .val (.int cc4), .val (.ref b32), .val (.int gt), .val (.int dg), .val (.int pt), .val (.int s2), .unset] [(.int (3 : Int32)), (.int (2 : Int32))])
    refine Goes.of (fun _ => XS.icmpYes X49.here hx rfl (pc0 := 442) (pc' := 456) rfl (hb hby at_442) rfl (flt (by decide)).2.2.2 (by decide) (by decide)) ?_
    show Goes p e below _ T49 (mkF m 456 #[.val (.int p1), .val (.int p2), .val (.int p3), .val (.int p4), .val (.int p5), .val (.int (2 : Int32)), .val (.int cc1), .val (.int cc2), .val (.int cc3), .val (.int cc4), .val (.ref b32), .val (.int gt), .val (.int dg), .val (.int pt), .val (.int s2), .unset] [])
    refine Goes.of (fun _ => XS.iload X49.here hx rfl (hb hby at_456) rfl) ?_
    show Goes p e below _ T49 (mkF m 458 #[.val (.int p1), .val (.int p2), .val (.int p3), .val (.int p4), .val (.int p5), .val (.int (2 : Int32)), .val (.int cc1), .val (.int cc2), .val (.int cc3), .val (.int cc4), .val (.ref b32), .val (.int gt), .val (.int dg), .val (.int pt), .val (.int s2), .unset] [(.int s2)])
    refine Goes.of (T' := T49) (f' := (mkF m 477 #[.val (.int p1), .val (.int p2), .val (.int p3), .val (.int p4), .val (.int p5), .val (.int (2 : Int32)), .val (.int cc1), .val (.int cc2), .val (.int cc3), .val (.int cc4), .val (.ref b32), .val (.int gt), .val (.int dg), .val (.int pt), .val (.int s2), .unset] [(.int (if s2 = (0 : Int32) then (0 : Int32) else (if (0 : Int32) < dg then (if (1 : Int32) < pt then (0 : Int32) else (1 : Int32)) else (0 : Int32))))])) (fun t kt => ?_) ?_
    · show Steps p.tables e below (T49.setTop (mkF m 458 #[.val (.int p1), .val (.int p2), .val (.int p3), .val (.int p4), .val (.int p5), .val (.int (2 : Int32)), .val (.int cc1), .val (.int cc2), .val (.int cc3), .val (.int cc4), .val (.ref b32), .val (.int gt), .val (.int dg), .val (.int pt), .val (.int s2), .unset] [(.int s2)])) _
      by_cases hq458 : s2 = (0 : Int32)
      · simp only [if_pos hq458] at kt
        refine XS.ifYes X49.here hx rfl (pc0 := 458) (pc' := 476) rfl (hb hby at_458) rfl ((if0 _ _).trans (teq hq458).1) (by decide) (by decide) ?_
        show Steps p.tables e below (T49.setTop (mkF m 476 #[.val (.int p1), .val (.int p2), .val (.int p3), .val (.int p4), .val (.int p5), .val (.int (2 : Int32)), .val (.int cc1), .val (.int cc2), .val (.int cc3), .val (.int cc4), .val (.ref b32), .val (.int gt), .val (.int dg), .val (.int pt), .val (.int s2), .unset] [])) _
        refine XS.iconst X49.here hx rfl (hb hby at_476) ?_
        show Steps p.tables e below (T49.setTop (mkF m 477 #[.val (.int p1), .val (.int p2), .val (.int p3), .val (.int p4), .val (.int p5), .val (.int (2 : Int32)), .val (.int cc1), .val (.int cc2), .val (.int cc3), .val (.int cc4), .val (.ref b32), .val (.int gt), .val (.int dg), .val (.int pt), .val (.int s2), .unset] [(.int (0 : Int32))])) _
        exact kt
      · simp only [if_neg hq458] at kt
        refine XS.ifNo X49.here hx rfl (hb hby at_458) rfl ((if0 _ _).trans (feq hq458).1) ?_
        show Steps p.tables e below (T49.setTop (mkF m 461 #[.val (.int p1), .val (.int p2), .val (.int p3), .val (.int p4), .val (.int p5), .val (.int (2 : Int32)), .val (.int cc1), .val (.int cc2), .val (.int cc3), .val (.int cc4), .val (.ref b32), .val (.int gt), .val (.int dg), .val (.int pt), .val (.int s2), .unset] [])) _
        refine XS.iload X49.here hx rfl (hb hby at_461) rfl ?_
        show Steps p.tables e below (T49.setTop (mkF m 463 #[.val (.int p1), .val (.int p2), .val (.int p3), .val (.int p4), .val (.int p5), .val (.int (2 : Int32)), .val (.int cc1), .val (.int cc2), .val (.int cc3), .val (.int cc4), .val (.ref b32), .val (.int gt), .val (.int dg), .val (.int pt), .val (.int s2), .unset] [(.int dg)])) _
        by_cases hq463 : (0 : Int32) < dg
        · simp only [if_pos hq463] at kt
          refine XS.ifNo X49.here hx rfl (hb hby at_463) rfl ((if0 _ _).trans (tlt hq463).2.2.2) ?_
          show Steps p.tables e below (T49.setTop (mkF m 466 #[.val (.int p1), .val (.int p2), .val (.int p3), .val (.int p4), .val (.int p5), .val (.int (2 : Int32)), .val (.int cc1), .val (.int cc2), .val (.int cc3), .val (.int cc4), .val (.ref b32), .val (.int gt), .val (.int dg), .val (.int pt), .val (.int s2), .unset] [])) _
          refine XS.iload X49.here hx rfl (hb hby at_466) rfl ?_
          show Steps p.tables e below (T49.setTop (mkF m 468 #[.val (.int p1), .val (.int p2), .val (.int p3), .val (.int p4), .val (.int p5), .val (.int (2 : Int32)), .val (.int cc1), .val (.int cc2), .val (.int cc3), .val (.int cc4), .val (.ref b32), .val (.int gt), .val (.int dg), .val (.int pt), .val (.int s2), .unset] [(.int pt)])) _
          refine XS.iconst X49.here hx rfl (hb hby at_468) ?_
          show Steps p.tables e below (T49.setTop (mkF m 469 #[.val (.int p1), .val (.int p2), .val (.int p3), .val (.int p4), .val (.int p5), .val (.int (2 : Int32)), .val (.int cc1), .val (.int cc2), .val (.int cc3), .val (.int cc4), .val (.ref b32), .val (.int gt), .val (.int dg), .val (.int pt), .val (.int s2), .unset] [(.int (1 : Int32)), (.int pt)])) _
          by_cases hq469 : (1 : Int32) < pt
          · simp only [if_pos hq469] at kt
            refine XS.icmpYes X49.here hx rfl (pc0 := 469) (pc' := 476) rfl (hb hby at_469) rfl (tlt hq469).2.2.1 (by decide) (by decide) ?_
            show Steps p.tables e below (T49.setTop (mkF m 476 #[.val (.int p1), .val (.int p2), .val (.int p3), .val (.int p4), .val (.int p5), .val (.int (2 : Int32)), .val (.int cc1), .val (.int cc2), .val (.int cc3), .val (.int cc4), .val (.ref b32), .val (.int gt), .val (.int dg), .val (.int pt), .val (.int s2), .unset] [])) _
            refine XS.iconst X49.here hx rfl (hb hby at_476) ?_
            show Steps p.tables e below (T49.setTop (mkF m 477 #[.val (.int p1), .val (.int p2), .val (.int p3), .val (.int p4), .val (.int p5), .val (.int (2 : Int32)), .val (.int cc1), .val (.int cc2), .val (.int cc3), .val (.int cc4), .val (.ref b32), .val (.int gt), .val (.int dg), .val (.int pt), .val (.int s2), .unset] [(.int (0 : Int32))])) _
            exact kt
          · simp only [if_neg hq469] at kt
            refine XS.icmpNo X49.here hx rfl (hb hby at_469) rfl (flt hq469).2.2.1 ?_
            show Steps p.tables e below (T49.setTop (mkF m 472 #[.val (.int p1), .val (.int p2), .val (.int p3), .val (.int p4), .val (.int p5), .val (.int (2 : Int32)), .val (.int cc1), .val (.int cc2), .val (.int cc3), .val (.int cc4), .val (.ref b32), .val (.int gt), .val (.int dg), .val (.int pt), .val (.int s2), .unset] [])) _
            refine XS.iconst X49.here hx rfl (hb hby at_472) ?_
            show Steps p.tables e below (T49.setTop (mkF m 473 #[.val (.int p1), .val (.int p2), .val (.int p3), .val (.int p4), .val (.int p5), .val (.int (2 : Int32)), .val (.int cc1), .val (.int cc2), .val (.int cc3), .val (.int cc4), .val (.ref b32), .val (.int gt), .val (.int dg), .val (.int pt), .val (.int s2), .unset] [(.int (1 : Int32))])) _
            refine XS.goto X49.here hx rfl (pc0 := 473) (pc' := 477) rfl (hb hby at_473) (by decide) (by decide) ?_
            show Steps p.tables e below (T49.setTop (mkF m 477 #[.val (.int p1), .val (.int p2), .val (.int p3), .val (.int p4), .val (.int p5), .val (.int (2 : Int32)), .val (.int cc1), .val (.int cc2), .val (.int cc3), .val (.int cc4), .val (.ref b32), .val (.int gt), .val (.int dg), .val (.int pt), .val (.int s2), .unset] [(.int (1 : Int32))])) _
            exact kt
        · simp only [if_neg hq463] at kt
          refine XS.ifYes X49.here hx rfl (pc0 := 463) (pc' := 476) rfl (hb hby at_463) rfl ((if0 _ _).trans (flt hq463).2.2.2) (by decide) (by decide) ?_
          show Steps p.tables e below (T49.setTop (mkF m 476 #[.val (.int p1), .val (.int p2), .val (.int p3), .val (.int p4), .val (.int p5), .val (.int (2 : Int32)), .val (.int cc1), .val (.int cc2), .val (.int cc3), .val (.int cc4), .val (.ref b32), .val (.int gt), .val (.int dg), .val (.int pt), .val (.int s2), .unset] [])) _
          refine XS.iconst X49.here hx rfl (hb hby at_476) ?_
          show Steps p.tables e below (T49.setTop (mkF m 477 #[.val (.int p1), .val (.int p2), .val (.int p3), .val (.int p4), .val (.int p5), .val (.int (2 : Int32)), .val (.int cc1), .val (.int cc2), .val (.int cc3), .val (.int cc4), .val (.ref b32), .val (.int gt), .val (.int dg), .val (.int pt), .val (.int s2), .unset] [(.int (0 : Int32))])) _
          exact kt
    show Goes p e below _ T49 (mkF m 477 #[.val (.int p1), .val (.int p2), .val (.int p3), .val (.int p4), .val (.int p5), .val (.int (2 : Int32)), .val (.int cc1), .val (.int cc2), .val (.int cc3), .val (.int cc4), .val (.ref b32), .val (.int gt), .val (.int dg), .val (.int pt), .val (.int s2), .unset] [(.int (if s2 = (0 : Int32) then (0 : Int32) else (if (0 : Int32) < dg then (if (1 : Int32) < pt then (0 : Int32) else (1 : Int32)) else (0 : Int32))))])
    refine Goes.of (fun _ => XS.istore X49.here hx rfl (hb hby at_477) rfl (l' := #[.val (.int p1), .val (.int p2), .val (.int p3), .val (.int p4), .val (.int p5), .val (.int (2 : Int32)), .val (.int cc1), .val (.int cc2), .val (.int cc3), .val (.int cc4), .val (.ref b32), .val (.int gt), .val (.int dg), .val (.int pt), .val (.int s2), .val (.int (if s2 = (0 : Int32) then (0 : Int32) else (if (0 : Int32) < dg then (if (1 : Int32) < pt then (0 : Int32) else (1 : Int32)) else (0 : Int32))))]) rfl) ?_
    show Goes p e below _ T49 (mkF m 479 #[.val (.int p1), .val (.int p2), .val (.int p3), .val (.int p4), .val (.int p5), .val (.int (2 : Int32)), .val (.int cc1), .val (.int cc2), .val (.int cc3), .val (.int cc4), .val (.ref b32), .val (.int gt), .val (.int dg), .val (.int pt), .val (.int s2), .val (.int (if s2 = (0 : Int32) then (0 : Int32) else (if (0 : Int32) < dg then (if (1 : Int32) < pt then (0 : Int32) else (1 : Int32)) else (0 : Int32))))] [])
    generalize exp : (if s2 = (0 : Int32) then (0 : Int32) else (if (0 : Int32) < dg then (if (1 : Int32) < pt then (0 : Int32) else (1 : Int32)) else (0 : Int32))) = xp
    show Goes p e below _ T49 (mkF m 479 #[.val (.int p1), .val (.int p2), .val (.int p3), .val (.int p4), .val (.int p5), .val (.int (2 : Int32)), .val (.int cc1), .val (.int cc2), .val (.int cc3), .val (.int cc4), .val (.ref b32), .val (.int gt), .val (.int dg), .val (.int pt), .val (.int s2), .val (.int xp)] [])
    refine Goes.of (fun _ => XS.iload X49.here hx rfl (hb hby at_479) rfl) ?_
    show Goes p e below _ T49 (mkF m 481 #[.val (.int p1), .val (.int p2), .val (.int p3), .val (.int p4), .val (.int p5), .val (.int (2 : Int32)), .val (.int cc1), .val (.int cc2), .val (.int cc3), .val (.int cc4), .val (.ref b32), .val (.int gt), .val (.int dg), .val (.int pt), .val (.int s2), .val (.int xp)] [(.int gt)])
    refine Goes.of (fun _ => XS.iload X49.here hx rfl (hb hby at_481) rfl) ?_
    show Goes p e below _ T49 (mkF m 483 #[.val (.int p1), .val (.int p2), .val (.int p3), .val (.int p4), .val (.int p5), .val (.int (2 : Int32)), .val (.int cc1), .val (.int cc2), .val (.int cc3), .val (.int cc4), .val (.ref b32), .val (.int gt), .val (.int dg), .val (.int pt), .val (.int s2), .val (.int xp)] [(.int xp), (.int gt)])
    refine Goes.of (fun _ => XS.icmpNo X49.here hx rfl (hb hby at_483) rfl (teq (by subst exp es2 es1 ept er4 er3 er2 er1 edg eo4 eo3 eo2 eo1 egt; exact fin2 cc1 cc2)).2) ?_
    show Goes p e below _ T49 (mkF m 486 #[.val (.int p1), .val (.int p2), .val (.int p3), .val (.int p4), .val (.int p5), .val (.int (2 : Int32)), .val (.int cc1), .val (.int cc2), .val (.int cc3), .val (.int cc4), .val (.ref b32), .val (.int gt), .val (.int dg), .val (.int pt), .val (.int s2), .val (.int xp)] [])
    refine Goes.of (fun _ => XS.iconst X49.here hx rfl (hb hby at_486)) ?_
    show Goes p e below _ T49 (mkF m 487 #[.val (.int p1), .val (.int p2), .val (.int p3), .val (.int p4), .val (.int p5), .val (.int (2 : Int32)), .val (.int cc1), .val (.int cc2), .val (.int cc3), .val (.int cc4), .val (.ref b32), .val (.int gt), .val (.int dg), .val (.int pt), .val (.int s2), .val (.int xp)] [(.int (1 : Int32))])
    refine Goes.of (fun _ => XS.goto X49.here hx rfl (pc0 := 487) (pc' := 491) rfl (hb hby at_487) (by decide) (by decide)) ?_
    show Goes p e below _ T49 (mkF m 491 #[.val (.int p1), .val (.int p2), .val (.int p3), .val (.int p4), .val (.int p5), .val (.int (2 : Int32)), .val (.int cc1), .val (.int cc2), .val (.int cc3), .val (.int cc4), .val (.ref b32), .val (.int gt), .val (.int dg), .val (.int pt), .val (.int s2), .val (.int xp)] [(.int (1 : Int32))])
    exact retZW (t := .boolean) X49 hS hk hZ hEL HC hx hret hlk (by simp) (hb hby at_491) eT49 (by decide) (by decide) ⟨rfl, N49⟩
  · show Goes p e below _ T4 (mkF m 33 #[.val (.int p1), .val (.int p2), .val (.int p3), .val (.int p4), .val (.int p5), .val (.int (3 : Int32)), .val (.int cc1), .val (.int cc2), .val (.int cc3), .val (.int cc4), .unset, .unset, .unset, .unset, .unset, .unset] [])
    refine Goes.of (fun _ => XS.iload X4.here hx rfl (hb hby at_33) rfl) ?_
    show Goes p e below _ T4 (mkF m 35 #[.val (.int p1), .val (.int p2), .val (.int p3), .val (.int p4), .val (.int p5), .val (.int (3 : Int32)), .val (.int cc1), .val (.int cc2), .val (.int cc3), .val (.int cc4), .unset, .unset, .unset, .unset, .unset, .unset] [(.int (3 : Int32))])
    refine Goes.of (fun _ => XS.ifYes X4.here hx rfl (pc0 := 35) (pc' := 53) rfl (hb hby at_35) rfl ((if0 _ _).trans (feq (by decide)).2) (by decide) (by decide)) ?_
    show Goes p e below _ T4 (mkF m 53 #[.val (.int p1), .val (.int p2), .val (.int p3), .val (.int p4), .val (.int p5), .val (.int (3 : Int32)), .val (.int cc1), .val (.int cc2), .val (.int cc3), .val (.int cc4), .unset, .unset, .unset, .unset, .unset, .unset] [])
    refine Goes.of (fun _ => XS.iload X4.here hx rfl (hb hby at_53) rfl) ?_
    show Goes p e below _ T4 (mkF m 55 #[.val (.int p1), .val (.int p2), .val (.int p3), .val (.int p4), .val (.int p5), .val (.int (3 : Int32)), .val (.int cc1), .val (.int cc2), .val (.int cc3), .val (.int cc4), .unset, .unset, .unset, .unset, .unset, .unset] [(.int (3 : Int32))])
    refine Goes.of (fun _ => XS.iconst X4.here hx rfl (hb hby at_55)) ?_
    show Goes p e below _ T4 (mkF m 56 #[.val (.int p1), .val (.int p2), .val (.int p3), .val (.int p4), .val (.int p5), .val (.int (3 : Int32)), .val (.int cc1), .val (.int cc2), .val (.int cc3), .val (.int cc4), .unset, .unset, .unset, .unset, .unset, .unset] [(.int (1 : Int32)), (.int (3 : Int32))])
    refine Goes.of (fun _ => XS.icmpYes X4.here hx rfl (pc0 := 56) (pc' := 79) rfl (hb hby at_56) rfl (feq (by decide)).2 (by decide) (by decide)) ?_
    show Goes p e below _ T4 (mkF m 79 #[.val (.int p1), .val (.int p2), .val (.int p3), .val (.int p4), .val (.int p5), .val (.int (3 : Int32)), .val (.int cc1), .val (.int cc2), .val (.int cc3), .val (.int cc4), .unset, .unset, .unset, .unset, .unset, .unset] [])
    refine Goes.of (fun _ => XS.iload X4.here hx rfl (hb hby at_79) rfl) ?_
    show Goes p e below _ T4 (mkF m 81 #[.val (.int p1), .val (.int p2), .val (.int p3), .val (.int p4), .val (.int p5), .val (.int (3 : Int32)), .val (.int cc1), .val (.int cc2), .val (.int cc3), .val (.int cc4), .unset, .unset, .unset, .unset, .unset, .unset] [(.int (3 : Int32))])
    refine Goes.of (fun _ => XS.iconst X4.here hx rfl (hb hby at_81)) ?_
    show Goes p e below _ T4 (mkF m 82 #[.val (.int p1), .val (.int p2), .val (.int p3), .val (.int p4), .val (.int p5), .val (.int (3 : Int32)), .val (.int cc1), .val (.int cc2), .val (.int cc3), .val (.int cc4), .unset, .unset, .unset, .unset, .unset, .unset] [(.int (2 : Int32)), (.int (3 : Int32))])
    refine Goes.of (fun _ => XS.icmpYes X4.here hx rfl (pc0 := 82) (pc' := 110) rfl (hb hby at_82) rfl (feq (by decide)).2 (by decide) (by decide)) ?_
    show Goes p e below _ T4 (mkF m 110 #[.val (.int p1), .val (.int p2), .val (.int p3), .val (.int p4), .val (.int p5), .val (.int (3 : Int32)), .val (.int cc1), .val (.int cc2), .val (.int cc3), .val (.int cc4), .unset, .unset, .unset, .unset, .unset, .unset] [])
    refine Goes.of (fun _ => XS.iload X4.here hx rfl (hb hby at_110) rfl) ?_
    show Goes p e below _ T4 (mkF m 112 #[.val (.int p1), .val (.int p2), .val (.int p3), .val (.int p4), .val (.int p5), .val (.int (3 : Int32)), .val (.int cc1), .val (.int cc2), .val (.int cc3), .val (.int cc4), .unset, .unset, .unset, .unset, .unset, .unset] [(.int (3 : Int32))])
    refine Goes.of (fun _ => XS.iconst X4.here hx rfl (hb hby at_112)) ?_
    show Goes p e below _ T4 (mkF m 113 #[.val (.int p1), .val (.int p2), .val (.int p3), .val (.int p4), .val (.int p5), .val (.int (3 : Int32)), .val (.int cc1), .val (.int cc2), .val (.int cc3), .val (.int cc4), .unset, .unset, .unset, .unset, .unset, .unset] [(.int (3 : Int32)), (.int (3 : Int32))])
    refine Goes.of (fun _ => XS.icmpNo X4.here hx rfl (hb hby at_113) rfl (teq (by decide)).2) ?_
    show Goes p e below _ T4 (mkF m 116 #[.val (.int p1), .val (.int p2), .val (.int p3), .val (.int p4), .val (.int p5), .val (.int (3 : Int32)), .val (.int cc1), .val (.int cc2), .val (.int cc3), .val (.int cc4), .unset, .unset, .unset, .unset, .unset, .unset] [])
    refine goNew X4 hx hZ hown (hw _ (List.mem_of_getElem? (i := 5) rfl)) (hw _ (List.mem_of_getElem? (i := 6) rfl)) (hw _ (List.mem_of_getElem? (i := 7) rfl)) (rfl : T4.heap = _) (g := (mkF m 116 #[.val (.int p1), .val (.int p2), .val (.int p3), .val (.int p4), .val (.int p5), .val (.int (3 : Int32)), .val (.int cc1), .val (.int cc2), .val (.int cc3), .val (.int cc4), .unset, .unset, .unset, .unset, .unset, .unset] [])) rfl (hb hby at_116) (by decide) (by decide) ?_
    intro T50 h50 b50 X50 eT50 E50 hb50 A50 D50
    have g_b50 : n0 ≤ b50 := Nat.le_trans (oldLe O0) hb50
    have hk := Nat.le_trans hk E50.1
    have HC := HC.trans (CHr.ext E50 HC.1)
    have O0 := O0.ext E50
    have F50_value : Fld Z h50 b50 "java/lang/String" "value" "[B" .null := D50 (Or.inr (hw _ (List.mem_of_getElem? (i := 21) rfl))) (ty := (.array .byte)) (by decide)
    have F50_coder : Fld Z h50 b50 "java/lang/String" "coder" "B" (.int (0 : Int32)) := D50 (Or.inr (hw _ (List.mem_of_getElem? (i := 22) rfl))) (ty := .byte) (by decide)
    show Goes p e below _ T50 (mkF m 119 #[.val (.int p1), .val (.int p2), .val (.int p3), .val (.int p4), .val (.int p5), .val (.int (3 : Int32)), .val (.int cc1), .val (.int cc2), .val (.int cc3), .val (.int cc4), .unset, .unset, .unset, .unset, .unset, .unset] [(.ref b50)])
    refine Goes.of (fun _ => XS.dup X50.here hx rfl (hb hby at_119) rfl rfl) ?_
    show Goes p e below _ T50 (mkF m 120 #[.val (.int p1), .val (.int p2), .val (.int p3), .val (.int p4), .val (.int p5), .val (.int (3 : Int32)), .val (.int cc1), .val (.int cc2), .val (.int cc3), .val (.int cc4), .unset, .unset, .unset, .unset, .unset, .unset] [(.ref b50), (.ref b50)])
    refine Goes.of (fun _ => XS.iconst X50.here hx rfl (hb hby at_120)) ?_
    show Goes p e below _ T50 (mkF m 121 #[.val (.int p1), .val (.int p2), .val (.int p3), .val (.int p4), .val (.int p5), .val (.int (3 : Int32)), .val (.int cc1), .val (.int cc2), .val (.int cc3), .val (.int cc4), .unset, .unset, .unset, .unset, .unset, .unset] [(.int (3 : Int32)), (.ref b50), (.ref b50)])
    refine goNewP 3 X50 hx hZ (hw _ (List.mem_of_getElem? (i := 8) rfl)) eT50 (g := (mkF m 121 #[.val (.int p1), .val (.int p2), .val (.int p3), .val (.int p4), .val (.int p5), .val (.int (3 : Int32)), .val (.int cc1), .val (.int cc2), .val (.int cc3), .val (.int cc4), .unset, .unset, .unset, .unset, .unset, .unset] [(.int (3 : Int32)), (.ref b50), (.ref b50)])) rfl (hb hby at_121) rfl (by decide) (by decide) (by decide) (by decide) (by decide) (ad := "[C") (by first | rfl | decide) ?_
    intro T51 h51 b51 kA51 X51 eT51 E51 hb51 V51 A51
    have g_b51 : n0 ≤ b51 := Nat.le_trans (oldLe O0) hb51
    have ne_b50_b51 : b50 ≠ b51 := Nat.ne_of_lt (Nat.lt_of_lt_of_le A50.lt hb51)
    have A50 := A50.ext E51
    have F50_value := F50_value.ext E51
    have F50_coder := F50_coder.ext E51
    have hk := Nat.le_trans hk E51.1
    have HC := HC.trans (CHr.ext E51 HC.1)
    have O0 := O0.ext E51
    have V51 : Arv Z h51 b51 kA51 .char (3 : Int32) [(.int (0 : Int32)), (.int (0 : Int32)), (.int (0 : Int32))] (.int (0 : Int32)) := V51
    show Goes p e below _ T51 (mkF m 123 #[.val (.int p1), .val (.int p2), .val (.int p3), .val (.int p4), .val (.int p5), .val (.int (3 : Int32)), .val (.int cc1), .val (.int cc2), .val (.int cc3), .val (.int cc4), .unset, .unset, .unset, .unset, .unset, .unset] [(.ref b51), (.ref b50), (.ref b50)])
    refine Goes.of (fun _ => XS.dup X51.here hx rfl (hb hby at_123) rfl rfl) ?_
    show Goes p e below _ T51 (mkF m 124 #[.val (.int p1), .val (.int p2), .val (.int p3), .val (.int p4), .val (.int p5), .val (.int (3 : Int32)), .val (.int cc1), .val (.int cc2), .val (.int cc3), .val (.int cc4), .unset, .unset, .unset, .unset, .unset, .unset] [(.ref b51), (.ref b51), (.ref b50), (.ref b50)])
    refine Goes.of (fun _ => XS.iconst X51.here hx rfl (hb hby at_124)) ?_
    show Goes p e below _ T51 (mkF m 125 #[.val (.int p1), .val (.int p2), .val (.int p3), .val (.int p4), .val (.int p5), .val (.int (3 : Int32)), .val (.int cc1), .val (.int cc2), .val (.int cc3), .val (.int cc4), .unset, .unset, .unset, .unset, .unset, .unset] [(.int (0 : Int32)), (.ref b51), (.ref b51), (.ref b50), (.ref b50)])
    refine Goes.of (fun _ => XS.iload X51.here hx rfl (hb hby at_125) rfl) ?_
    show Goes p e below _ T51 (mkF m 127 #[.val (.int p1), .val (.int p2), .val (.int p3), .val (.int p4), .val (.int p5), .val (.int (3 : Int32)), .val (.int cc1), .val (.int cc2), .val (.int cc3), .val (.int cc4), .unset, .unset, .unset, .unset, .unset, .unset] [(.int cc1), (.int (0 : Int32)), (.ref b51), (.ref b51), (.ref b50), (.ref b50)])
    have Sf_b51 : Safe Z EL _ h51 b51 := Safe.arv hZ.alike V51 (by decide)
    refine goStC 0 X51 hx hZ eT51 V51 (by decide) (by decide) rfl (Nat.lt_of_lt_of_le (Nat.lt_succ_self _) (Nat.le_of_ble_eq_true rfl)) (g := (mkF m 127 #[.val (.int p1), .val (.int p2), .val (.int p3), .val (.int p4), .val (.int p5), .val (.int (3 : Int32)), .val (.int cc1), .val (.int cc2), .val (.int cc3), .val (.int cc4), .unset, .unset, .unset, .unset, .unset, .unset] [(.int cc1), (.int (0 : Int32)), (.ref b51), (.ref b51), (.ref b50), (.ref b50)])) rfl rfl (hb hby at_127) ?_
    intro T52 h52 X52 eT52 W52 V51
    have N52 := Fr.snoc X52 N4 g_b51
    have A50 := A50.wr W52
    have F50_value := F50_value.other W52 (Or.inl ne_b50_b51)
    have F50_coder := F50_coder.other W52 (Or.inl ne_b50_b51)
    have A51 := A51.wr W52
    have HC := HC.trans (CHr.wr W52 Sf_b51 HC.1)
    have hk := Nat.le_trans hk (Nat.le_of_eq (Wr.size W52).symm)
    have O0 := O0.wr W52 g_b51
    have V51 : Arv Z h52 b51 kA51 .char (3 : Int32) [(.int (nar .char cc1)), (.int (0 : Int32)), (.int (0 : Int32))] (.int (0 : Int32)) := V51
    show Goes p e below _ T52 (mkF m 128 #[.val (.int p1), .val (.int p2), .val (.int p3), .val (.int p4), .val (.int p5), .val (.int (3 : Int32)), .val (.int cc1), .val (.int cc2), .val (.int cc3), .val (.int cc4), .unset, .unset, .unset, .unset, .unset, .unset] [(.ref b51), (.ref b50), (.ref b50)])
    refine Goes.of (fun _ => XS.dup X52.here hx rfl (hb hby at_128) rfl rfl) ?_
    show Goes p e below _ T52 (mkF m 129 #[.val (.int p1), .val (.int p2), .val (.int p3), .val (.int p4), .val (.int p5), .val (.int (3 : Int32)), .val (.int cc1), .val (.int cc2), .val (.int cc3), .val (.int cc4), .unset, .unset, .unset, .unset, .unset, .unset] [(.ref b51), (.ref b51), (.ref b50), (.ref b50)])
    refine Goes.of (fun _ => XS.iconst X52.here hx rfl (hb hby at_129)) ?_
    show Goes p e below _ T52 (mkF m 130 #[.val (.int p1), .val (.int p2), .val (.int p3), .val (.int p4), .val (.int p5), .val (.int (3 : Int32)), .val (.int cc1), .val (.int cc2), .val (.int cc3), .val (.int cc4), .unset, .unset, .unset, .unset, .unset, .unset] [(.int (1 : Int32)), (.ref b51), (.ref b51), (.ref b50), (.ref b50)])
    refine Goes.of (fun _ => XS.iload X52.here hx rfl (hb hby at_130) rfl) ?_
    show Goes p e below _ T52 (mkF m 132 #[.val (.int p1), .val (.int p2), .val (.int p3), .val (.int p4), .val (.int p5), .val (.int (3 : Int32)), .val (.int cc1), .val (.int cc2), .val (.int cc3), .val (.int cc4), .unset, .unset, .unset, .unset, .unset, .unset] [(.int cc2), (.int (1 : Int32)), (.ref b51), (.ref b51), (.ref b50), (.ref b50)])
    have Sf_b51 : Safe Z EL _ h52 b51 := Safe.arv hZ.alike V51 (by decide)
    refine goStC 1 X52 hx hZ eT52 V51 (by decide) (by decide) rfl (Nat.lt_of_lt_of_le (Nat.lt_succ_self _) (Nat.le_of_ble_eq_true rfl)) (g := (mkF m 132 #[.val (.int p1), .val (.int p2), .val (.int p3), .val (.int p4), .val (.int p5), .val (.int (3 : Int32)), .val (.int cc1), .val (.int cc2), .val (.int cc3), .val (.int cc4), .unset, .unset, .unset, .unset, .unset, .unset] [(.int cc2), (.int (1 : Int32)), (.ref b51), (.ref b51), (.ref b50), (.ref b50)])) rfl rfl (hb hby at_132) ?_
    intro T53 h53 X53 eT53 W53 V51
    have N53 := Fr.snoc X53 N52 g_b51
    have A50 := A50.wr W53
    have F50_value := F50_value.other W53 (Or.inl ne_b50_b51)
    have F50_coder := F50_coder.other W53 (Or.inl ne_b50_b51)
    have A51 := A51.wr W53
    have HC := HC.trans (CHr.wr W53 Sf_b51 HC.1)
    have hk := Nat.le_trans hk (Nat.le_of_eq (Wr.size W53).symm)
    have O0 := O0.wr W53 g_b51
    have V51 : Arv Z h53 b51 kA51 .char (3 : Int32) [(.int (nar .char cc1)), (.int (nar .char cc2)), (.int (0 : Int32))] (.int (0 : Int32)) := V51
    show Goes p e below _ T53 (mkF m 133 #[.val (.int p1), .val (.int p2), .val (.int p3), .val (.int p4), .val (.int p5), .val (.int (3 : Int32)), .val (.int cc1), .val (.int cc2), .val (.int cc3), .val (.int cc4), .unset, .unset, .unset, .unset, .unset, .unset] [(.ref b51), (.ref b50), (.ref b50)])
    refine Goes.of (fun _ => XS.dup X53.here hx rfl (hb hby at_133) rfl rfl) ?_
    show Goes p e below _ T53 (mkF m 134 #[.val (.int p1), .val (.int p2), .val (.int p3), .val (.int p4), .val (.int p5), .val (.int (3 : Int32)), .val (.int cc1), .val (.int cc2), .val (.int cc3), .val (.int cc4), .unset, .unset, .unset, .unset, .unset, .unset] [(.ref b51), (.ref b51), (.ref b50), (.ref b50)])
    refine Goes.of (fun _ => XS.iconst X53.here hx rfl (hb hby at_134)) ?_
    show Goes p e below _ T53 (mkF m 135 #[.val (.int p1), .val (.int p2), .val (.int p3), .val (.int p4), .val (.int p5), .val (.int (3 : Int32)), .val (.int cc1), .val (.int cc2), .val (.int cc3), .val (.int cc4), .unset, .unset, .unset, .unset, .unset, .unset] [(.int (2 : Int32)), (.ref b51), (.ref b51), (.ref b50), (.ref b50)])
    refine Goes.of (fun _ => XS.iload X53.here hx rfl (hb hby at_135) rfl) ?_
    show Goes p e below _ T53 (mkF m 137 #[.val (.int p1), .val (.int p2), .val (.int p3), .val (.int p4), .val (.int p5), .val (.int (3 : Int32)), .val (.int cc1), .val (.int cc2), .val (.int cc3), .val (.int cc4), .unset, .unset, .unset, .unset, .unset, .unset] [(.int cc3), (.int (2 : Int32)), (.ref b51), (.ref b51), (.ref b50), (.ref b50)])
    have Sf_b51 : Safe Z EL _ h53 b51 := Safe.arv hZ.alike V51 (by decide)
    refine goStC 2 X53 hx hZ eT53 V51 (by decide) (by decide) rfl (Nat.lt_of_lt_of_le (Nat.lt_succ_self _) (Nat.le_of_ble_eq_true rfl)) (g := (mkF m 137 #[.val (.int p1), .val (.int p2), .val (.int p3), .val (.int p4), .val (.int p5), .val (.int (3 : Int32)), .val (.int cc1), .val (.int cc2), .val (.int cc3), .val (.int cc4), .unset, .unset, .unset, .unset, .unset, .unset] [(.int cc3), (.int (2 : Int32)), (.ref b51), (.ref b51), (.ref b50), (.ref b50)])) rfl rfl (hb hby at_137) ?_
    intro T54 h54 X54 eT54 W54 V51
    have N54 := Fr.snoc X54 N53 g_b51
    have A50 := A50.wr W54
    have F50_value := F50_value.other W54 (Or.inl ne_b50_b51)
    have F50_coder := F50_coder.other W54 (Or.inl ne_b50_b51)
    have A51 := A51.wr W54
    have HC := HC.trans (CHr.wr W54 Sf_b51 HC.1)
    have hk := Nat.le_trans hk (Nat.le_of_eq (Wr.size W54).symm)
    have O0 := O0.wr W54 g_b51
    have V51 : Arv Z h54 b51 kA51 .char (3 : Int32) [(.int (nar .char cc1)), (.int (nar .char cc2)), (.int (nar .char cc3))] (.int (0 : Int32)) := V51
    show Goes p e below _ T54 (mkF m 138 #[.val (.int p1), .val (.int p2), .val (.int p3), .val (.int p4), .val (.int p5), .val (.int (3 : Int32)), .val (.int cc1), .val (.int cc2), .val (.int cc3), .val (.int cc4), .unset, .unset, .unset, .unset, .unset, .unset] [(.ref b51), (.ref b50), (.ref b50)])
    have Sf_b50 : Safe Z EL _ h54 b50 := safeNull hZ.alike A50 F50_value
    refine goNewS (cs := [(nar .char cc1), (nar .char cc2), (nar .char cc3)]) 3 1 X54 hx hZ hown (hwsOf hw) (hw _ (List.mem_of_getElem? (i := 9) rfl)) (hw _ (List.mem_of_getElem? (i := 10) rfl)) (hw _ (List.mem_of_getElem? (i := 11) rfl)) (hw _ (List.mem_of_getElem? (i := 6) rfl)) g_b50 (oldLe O0) A50 F50_value F50_coder V51 rfl (Sc.ext O0.2) hcz rfl rfl (by decide) (by decide) (by intro c hc; simp only [List.mem_cons, List.not_mem_nil, or_false] at hc; rcases hc with rfl | rfl | rfl; (· rw [narC hcc1.1 (le255 hcc1.2)]; exact hcc1); (· rw [narC hcc2.1 (le255 hcc2.2)]; exact hcc2); (· rw [narC hcc3.1 (le255 hcc3.2)]; exact hcc3)) eT54 (g := (mkF m 138 #[.val (.int p1), .val (.int p2), .val (.int p3), .val (.int p4), .val (.int p5), .val (.int (3 : Int32)), .val (.int cc1), .val (.int cc2), .val (.int cc3), .val (.int cc4), .unset, .unset, .unset, .unset, .unset, .unset] [(.ref b51), (.ref b50), (.ref b50)])) rfl (by rw [hml]; rfl) [(.ref b50)] (lenOf pd___C_V rfl) rfl (by show 2 * 0 + _ ≤ _; exact Nat.le_of_eq rfl) (hb hby at_138) (by decide) (by decide) (by decide) (by decide) ?_
    intro T55 L55 X55 Nq55 Kq55 S55
    have S55 := S55.of (show [(nar .char cc1), (nar .char cc2), (nar .char cc3)] = [cc1, cc2, cc3] by (try rw [narC hcc1.1 (le255 hcc1.2)]); (try rw [narC hcc2.1 (le255 hcc2.2)]); (try rw [narC hcc3.1 (le255 hcc3.2)]))
    have N55 := Fr.app N54 Nq55
    have V51 := V51.keep Kq55 (ninS (Ne.symm ne_b50_b51) nin0)
    have A51 := A51.keep Kq55
    have HC := HC.trans (CHr.keep Kq55 (sfS Sf_b50 sf0) HC.1)
    have hk := Nat.le_trans hk Kq55.1
    have O0 := O0.keep Kq55 (allS g_b50 all0)
    show Goes p e below _ T55 (mkF m 141 #[.val (.int p1), .val (.int p2), .val (.int p3), .val (.int p4), .val (.int p5), .val (.int (3 : Int32)), .val (.int cc1), .val (.int cc2), .val (.int cc3), .val (.int cc4), .unset, .unset, .unset, .unset, .unset, .unset] [(.ref b50)])
    refine Goes.of (fun _ => XS.astore X55.here hx rfl (hb hby at_141) rfl rfl (l' := #[.val (.int p1), .val (.int p2), .val (.int p3), .val (.int p4), .val (.int p5), .val (.int (3 : Int32)), .val (.int cc1), .val (.int cc2), .val (.int cc3), .val (.int cc4), .val (.ref b50), .unset, .unset, .unset, .unset, .unset]) rfl) ?_
    show Goes p e below _ T55 (mkF m 143 #[.val (.int p1), .val (.int p2), .val (.int p3), .val (.int p4), .val (.int p5), .val (.int (3 : Int32)), .val (.int cc1), .val (.int cc2), .val (.int cc3), .val (.int cc4), .val (.ref b50), .unset, .unset, .unset, .unset, .unset] [])
    refine Goes.of (fun _ => XS.goto X55.here hx rfl (pc0 := 143) (pc' := 178) rfl (hb hby at_143) (by decide) (by decide)) ?_
    show Goes p e below _ T55 (mkF m 178 #[.val (.int p1), .val (.int p2), .val (.int p3), .val (.int p4), .val (.int p5), .val (.int (3 : Int32)), .val (.int cc1), .val (.int cc2), .val (.int cc3), .val (.int cc4), .val (.ref b50), .unset, .unset, .unset, .unset, .unset] [])
    refine Goes.of (fun _ => XS.aload X55.here hx rfl (hb hby at_178) rfl rfl) ?_
    show Goes p e below _ T55 (mkF m 180 #[.val (.int p1), .val (.int p2), .val (.int p3), .val (.int p4), .val (.int p5), .val (.int (3 : Int32)), .val (.int cc1), .val (.int cc2), .val (.int cc3), .val (.int cc4), .val (.ref b50), .unset, .unset, .unset, .unset, .unset] [(.ref b50)])
    refine goStatic 0 X55 hx hZ hown (hw _ (List.mem_of_getElem? (i := 27) rfl)) (hw _ (List.mem_of_getElem? (i := 28) rfl)) (hw _ (List.mem_of_getElem? (i := 29) rfl)) (hw _ (List.mem_of_getElem? (i := 30) rfl)) (by decide) (rm_plain l Z a0 hw b50 ([cc1, cc2, cc3] : List Int32) cz fm T55.heap n0 O0 Sc hcz Sf hfm S55 (by intro c hc; simp only [List.mem_cons, List.not_mem_nil, or_false] at hc; rcases hc with rfl | rfl | rfl; (· exact hcc1.2); (· exact hcc2.2); (· exact hcc3.2))) (rfl : T55.heap = _) (g := (mkF m 180 #[.val (.int p1), .val (.int p2), .val (.int p3), .val (.int p4), .val (.int p5), .val (.int (3 : Int32)), .val (.int cc1), .val (.int cc2), .val (.int cc3), .val (.int cc4), .val (.ref b50), .unset, .unset, .unset, .unset, .unset] [(.ref b50)])) rfl (by rw [hml]; rfl) [(.ref b50)] [] (lenOf pd__Ljava_lang_String__Z rfl) rfl rfl (by show 2 * 0 + _ ≤ _; exact Nat.le_of_eq rfl) (hb hby at_180) (by decide) (by decide) (by decide) (by decide) ?_
    intro v56 T56 L56 X56 q56
    obtain ⟨rfl, Nq56, eT56⟩ := q56
    have N56 := Fr.app N55 Nq56
    show Goes p e below _ T56 (mkF m 183 #[.val (.int p1), .val (.int p2), .val (.int p3), .val (.int p4), .val (.int p5), .val (.int (3 : Int32)), .val (.int cc1), .val (.int cc2), .val (.int cc3), .val (.int cc4), .val (.ref b50), .unset, .unset, .unset, .unset, .unset] [(.int (plainGo 0 (0 : Int32) (0 : Int32) ([cc1, cc2, cc3] : List Int32)))])
    refine Goes.of (fun _ => XS.istore X56.here hx rfl (hb hby at_183) rfl (l' := #[.val (.int p1), .val (.int p2), .val (.int p3), .val (.int p4), .val (.int p5), .val (.int (3 : Int32)), .val (.int cc1), .val (.int cc2), .val (.int cc3), .val (.int cc4), .val (.ref b50), .val (.int (plainGo 0 (0 : Int32) (0 : Int32) ([cc1, cc2, cc3] : List Int32))), .unset, .unset, .unset, .unset]) rfl) ?_
    show Goes p e below _ T56 (mkF m 185 #[.val (.int p1), .val (.int p2), .val (.int p3), .val (.int p4), .val (.int p5), .val (.int (3 : Int32)), .val (.int cc1), .val (.int cc2), .val (.int cc3), .val (.int cc4), .val (.ref b50), .val (.int (plainGo 0 (0 : Int32) (0 : Int32) ([cc1, cc2, cc3] : List Int32))), .unset, .unset, .unset, .unset] [])
    generalize egt : (plainGo 0 (0 : Int32) (0 : Int32) ([cc1, cc2, cc3] : List Int32)) = gt
    show Goes p e below _ T56 (mkF m 185 #[.val (.int p1), .val (.int p2), .val (.int p3), .val (.int p4), .val (.int p5), .val (.int (3 : Int32)), .val (.int cc1), .val (.int cc2), .val (.int cc3), .val (.int cc4), .val (.ref b50), .val (.int gt), .unset, .unset, .unset, .unset] [])
    refine Goes.of (fun _ => XS.iload X56.here hx rfl (hb hby at_185) rfl) ?_
    show Goes p e below _ T56 (mkF m 187 #[.val (.int p1), .val (.int p2), .val (.int p3), .val (.int p4), .val (.int p5), .val (.int (3 : Int32)), .val (.int cc1), .val (.int cc2), .val (.int cc3), .val (.int cc4), .val (.ref b50), .val (.int gt), .unset, .unset, .unset, .unset] [(.int (3 : Int32))])
    refine Goes.of (fun _ => XS.ifNo X56.here hx rfl (hb hby at_187) rfl ((if0 _ _).trans (tlt (by decide)).2.2.2)) ?_
    show Goes p e below _ T56 (mkF m 190 #[.val (.int p1), .val (.int p2), .val (.int p3), .val (.int p4), .val (.int p5), .val (.int (3 : Int32)), .val (.int cc1), .val (.int cc2), .val (.int cc3), .val (.int cc4), .val (.ref b50), .val (.int gt), .unset, .unset, .unset, .unset] [])
    refine Goes.of (fun _ => XS.iload X56.here hx rfl (hb hby at_190) rfl) ?_
    show Goes p e below _ T56 (mkF m 192 #[.val (.int p1), .val (.int p2), .val (.int p3), .val (.int p4), .val (.int p5), .val (.int (3 : Int32)), .val (.int cc1), .val (.int cc2), .val (.int cc3), .val (.int cc4), .val (.ref b50), .val (.int gt), .unset, .unset, .unset, .unset] [(.int cc1)])
    refine goStatic 0 X56 hx hZ hown (hw _ (List.mem_of_getElem? (i := 77) rfl)) (hw _ (List.mem_of_getElem? (i := 78) rfl)) (hw _ (List.mem_of_getElem? (i := 3) rfl)) (hw _ (List.mem_of_getElem? (i := 79) rfl)) (by decide) (rm_dig l Z a0 hw cc1 T55.heap n0 O0) eT56 (g := (mkF m 192 #[.val (.int p1), .val (.int p2), .val (.int p3), .val (.int p4), .val (.int p5), .val (.int (3 : Int32)), .val (.int cc1), .val (.int cc2), .val (.int cc3), .val (.int cc4), .val (.ref b50), .val (.int gt), .unset, .unset, .unset, .unset] [(.int cc1)])) rfl (by rw [hml]; rfl) [(.int cc1)] [] (lenOf pd__C_Z rfl) rfl rfl (by show 2 * 0 + _ ≤ _; exact Nat.le_of_eq rfl) (hb hby at_192) (by decide) (by decide) (by decide) (by decide) ?_
    intro v57 T57 L57 X57 q57
    obtain ⟨rfl, Nq57, eT57⟩ := q57
    have N57 := Fr.app N56 Nq57
    show Goes p e below _ T57 (mkF m 195 #[.val (.int p1), .val (.int p2), .val (.int p3), .val (.int p4), .val (.int p5), .val (.int (3 : Int32)), .val (.int cc1), .val (.int cc2), .val (.int cc3), .val (.int cc4), .val (.ref b50), .val (.int gt), .unset, .unset, .unset, .unset] [(.int (digS cc1))])
    refine Goes.of (T' := T57) (f' := (mkF m 203 #[.val (.int p1), .val (.int p2), .val (.int p3), .val (.int p4), .val (.int p5), .val (.int (3 : Int32)), .val (.int cc1), .val (.int cc2), .val (.int cc3), .val (.int cc4), .val (.ref b50), .val (.int gt), .unset, .unset, .unset, .unset] [(.int (if (digS cc1) = (0 : Int32) then (0 : Int32) else (1 : Int32)))])) (fun t kt => ?_) ?_
    · show Steps p.tables e below (T57.setTop (mkF m 195 #[.val (.int p1), .val (.int p2), .val (.int p3), .val (.int p4), .val (.int p5), .val (.int (3 : Int32)), .val (.int cc1), .val (.int cc2), .val (.int cc3), .val (.int cc4), .val (.ref b50), .val (.int gt), .unset, .unset, .unset, .unset] [(.int (digS cc1))])) _
      by_cases hq195 : (digS cc1) = (0 : Int32)
      · simp only [if_pos hq195] at kt
        refine XS.ifYes X57.here hx rfl (pc0 := 195) (pc' := 202) rfl (hb hby at_195) rfl ((if0 _ _).trans (teq hq195).1) (by decide) (by decide) ?_
        show Steps p.tables e below (T57.setTop (mkF m 202 #[.val (.int p1), .val (.int p2), .val (.int p3), .val (.int p4), .val (.int p5), .val (.int (3 : Int32)), .val (.int cc1), .val (.int cc2), .val (.int cc3), .val (.int cc4), .val (.ref b50), .val (.int gt), .unset, .unset, .unset, .unset] [])) _
        refine XS.iconst X57.here hx rfl (hb hby at_202) ?_
        show Steps p.tables e below (T57.setTop (mkF m 203 #[.val (.int p1), .val (.int p2), .val (.int p3), .val (.int p4), .val (.int p5), .val (.int (3 : Int32)), .val (.int cc1), .val (.int cc2), .val (.int cc3), .val (.int cc4), .val (.ref b50), .val (.int gt), .unset, .unset, .unset, .unset] [(.int (0 : Int32))])) _
        exact kt
      · simp only [if_neg hq195] at kt
        refine XS.ifNo X57.here hx rfl (hb hby at_195) rfl ((if0 _ _).trans (feq hq195).1) ?_
        show Steps p.tables e below (T57.setTop (mkF m 198 #[.val (.int p1), .val (.int p2), .val (.int p3), .val (.int p4), .val (.int p5), .val (.int (3 : Int32)), .val (.int cc1), .val (.int cc2), .val (.int cc3), .val (.int cc4), .val (.ref b50), .val (.int gt), .unset, .unset, .unset, .unset] [])) _
        refine XS.iconst X57.here hx rfl (hb hby at_198) ?_
        show Steps p.tables e below (T57.setTop (mkF m 199 #[.val (.int p1), .val (.int p2), .val (.int p3), .val (.int p4), .val (.int p5), .val (.int (3 : Int32)), .val (.int cc1), .val (.int cc2), .val (.int cc3), .val (.int cc4), .val (.ref b50), .val (.int gt), .unset, .unset, .unset, .unset] [(.int (1 : Int32))])) _
        refine XS.goto X57.here hx rfl (pc0 := 199) (pc' := 203) rfl (hb hby at_199) (by decide) (by decide) ?_
        show Steps p.tables e below (T57.setTop (mkF m 203 #[.val (.int p1), .val (.int p2), .val (.int p3), .val (.int p4), .val (.int p5), .val (.int (3 : Int32)), .val (.int cc1), .val (.int cc2), .val (.int cc3), .val (.int cc4), .val (.ref b50), .val (.int gt), .unset, .unset, .unset, .unset] [(.int (1 : Int32))])) _
        exact kt
    show Goes p e below _ T57 (mkF m 203 #[.val (.int p1), .val (.int p2), .val (.int p3), .val (.int p4), .val (.int p5), .val (.int (3 : Int32)), .val (.int cc1), .val (.int cc2), .val (.int cc3), .val (.int cc4), .val (.ref b50), .val (.int gt), .unset, .unset, .unset, .unset] [(.int (if (digS cc1) = (0 : Int32) then (0 : Int32) else (1 : Int32)))])
    refine goStatic 0 X57 hx hZ hown (hw _ (List.mem_of_getElem? (i := 42) rfl)) (hw _ (List.mem_of_getElem? (i := 43) rfl)) (hw _ (List.mem_of_getElem? (i := 3) rfl)) (hw _ (List.mem_of_getElem? (i := 44) rfl)) (by decide) (rm_one l Z a0 hw (if (digS cc1) = (0 : Int32) then (0 : Int32) else (1 : Int32)) T55.heap n0 O0) eT57 (g := (mkF m 203 #[.val (.int p1), .val (.int p2), .val (.int p3), .val (.int p4), .val (.int p5), .val (.int (3 : Int32)), .val (.int cc1), .val (.int cc2), .val (.int cc3), .val (.int cc4), .val (.ref b50), .val (.int gt), .unset, .unset, .unset, .unset] [(.int (if (digS cc1) = (0 : Int32) then (0 : Int32) else (1 : Int32)))])) rfl (by rw [hml]; rfl) [(.int (if (digS cc1) = (0 : Int32) then (0 : Int32) else (1 : Int32)))] [] (lenOf pd__Z_I rfl) rfl rfl (by show 2 * 0 + _ ≤ _; exact Nat.le_of_eq rfl) (hb hby at_203) (by decide) (by decide) (by decide) (by decide) ?_
    intro v58 T58 L58 X58 q58
    obtain ⟨rfl, Nq58, eT58⟩ := q58
    have N58 := Fr.app N57 Nq58
    show Goes p e below _ T58 (mkF m 206 #[.val (.int p1), .val (.int p2), .val (.int p3), .val (.int p4), .val (.int p5), .val (.int (3 : Int32)), .val (.int cc1), .val (.int cc2), .val (.int cc3), .val (.int cc4), .val (.ref b50), .val (.int gt), .unset, .unset, .unset, .unset] [(.int (if (if (digS cc1) = (0 : Int32) then (0 : Int32) else (1 : Int32)) = (0 : Int32) then (0 : Int32) else (1 : Int32)))])
    generalize eo1 : (if (if (digS cc1) = (0 : Int32) then (0 : Int32) else (1 : Int32)) = (0 : Int32) then (0 : Int32) else (1 : Int32)) = o1
    show Goes p e below _ T58 (mkF m 206 #[.val (.int p1), .val (.int p2), .val (.int p3), .val (.int p4), .val (.int p5), .val (.int (3 : Int32)), .val (.int cc1), .val (.int cc2), .val (.int cc3), .val (.int cc4), .val (.ref b50), .val (.int gt), .unset, .unset, .unset, .unset] [(.int o1)])
    refine Goes.of (fun _ => XS.iload X58.here hx rfl (hb hby at_206) rfl) ?_
    show Goes p e below _ T58 (mkF m 208 #[.val (.int p1), .val (.int p2), .val (.int p3), .val (.int p4), .val (.int p5), .val (.int (3 : Int32)), .val (.int cc1), .val (.int cc2), .val (.int cc3), .val (.int cc4), .val (.ref b50), .val (.int gt), .unset, .unset, .unset, .unset] [(.int (3 : Int32)), (.int o1)])
    refine Goes.of (fun _ => XS.iconst X58.here hx rfl (hb hby at_208)) ?_
    show Goes p e below _ T58 (mkF m 209 #[.val (.int p1), .val (.int p2), .val (.int p3), .val (.int p4), .val (.int p5), .val (.int (3 : Int32)), .val (.int cc1), .val (.int cc2), .val (.int cc3), .val (.int cc4), .val (.ref b50), .val (.int gt), .unset, .unset, .unset, .unset] [(.int (1 : Int32)), (.int (3 : Int32)), (.int o1)])
    refine Goes.of (fun _ => XS.icmpNo X58.here hx rfl (hb hby at_209) rfl (tlt (by decide)).2.2.2) ?_
    show Goes p e below _ T58 (mkF m 212 #[.val (.int p1), .val (.int p2), .val (.int p3), .val (.int p4), .val (.int p5), .val (.int (3 : Int32)), .val (.int cc1), .val (.int cc2), .val (.int cc3), .val (.int cc4), .val (.ref b50), .val (.int gt), .unset, .unset, .unset, .unset] [(.int o1)])
    refine Goes.of (fun _ => XS.iload X58.here hx rfl (hb hby at_212) rfl) ?_
    show Goes p e below _ T58 (mkF m 214 #[.val (.int p1), .val (.int p2), .val (.int p3), .val (.int p4), .val (.int p5), .val (.int (3 : Int32)), .val (.int cc1), .val (.int cc2), .val (.int cc3), .val (.int cc4), .val (.ref b50), .val (.int gt), .unset, .unset, .unset, .unset] [(.int cc2), (.int o1)])
    refine goStatic 1 X58 hx hZ hown (hw _ (List.mem_of_getElem? (i := 77) rfl)) (hw _ (List.mem_of_getElem? (i := 78) rfl)) (hw _ (List.mem_of_getElem? (i := 3) rfl)) (hw _ (List.mem_of_getElem? (i := 79) rfl)) (by decide) (rm_dig l Z a0 hw cc2 T55.heap n0 O0) eT58 (g := (mkF m 214 #[.val (.int p1), .val (.int p2), .val (.int p3), .val (.int p4), .val (.int p5), .val (.int (3 : Int32)), .val (.int cc1), .val (.int cc2), .val (.int cc3), .val (.int cc4), .val (.ref b50), .val (.int gt), .unset, .unset, .unset, .unset] [(.int cc2), (.int o1)])) rfl (by rw [hml]; rfl) [(.int cc2)] [(.int o1)] (lenOf pd__C_Z rfl) rfl rfl (by show 2 * 0 + _ ≤ _; exact Nat.le_of_eq rfl) (hb hby at_214) (by decide) (by decide) (by decide) (by decide) ?_
    intro v59 T59 L59 X59 q59
    obtain ⟨rfl, Nq59, eT59⟩ := q59
    have N59 := Fr.app N58 Nq59
    show Goes p e below _ T59 (mkF m 217 #[.val (.int p1), .val (.int p2), .val (.int p3), .val (.int p4), .val (.int p5), .val (.int (3 : Int32)), .val (.int cc1), .val (.int cc2), .val (.int cc3), .val (.int cc4), .val (.ref b50), .val (.int gt), .unset, .unset, .unset, .unset] [(.int (digS cc2)), (.int o1)])
    refine Goes.of (T' := T59) (f' := (mkF m 225 #[.val (.int p1), .val (.int p2), .val (.int p3), .val (.int p4), .val (.int p5), .val (.int (3 : Int32)), .val (.int cc1), .val (.int cc2), .val (.int cc3), .val (.int cc4), .val (.ref b50), .val (.int gt), .unset, .unset, .unset, .unset] [(.int (if (digS cc2) = (0 : Int32) then (0 : Int32) else (1 : Int32))), (.int o1)])) (fun t kt => ?_) ?_
    · show Steps p.tables e below (T59.setTop (mkF m 217 #[.val (.int p1), .val (.int p2), .val (.int p3), .val (.int p4), .val (.int p5), .val (.int (3 : Int32)), .val (.int cc1), .val (.int cc2), .val (.int cc3), .val (.int cc4), .val (.ref b50), .val (.int gt), .unset, .unset, .unset, .unset] [(.int (digS cc2)), (.int o1)])) _
      by_cases hq217 : (digS cc2) = (0 : Int32)
      · simp only [if_pos hq217] at kt
        refine XS.ifYes X59.here hx rfl (pc0 := 217) (pc' := 224) rfl (hb hby at_217) rfl ((if0 _ _).trans (teq hq217).1) (by decide) (by decide) ?_
        show Steps p.tables e below (T59.setTop (mkF m 224 #[.val (.int p1), .val (.int p2), .val (.int p3), .val (.int p4), .val (.int p5), .val (.int (3 : Int32)), .val (.int cc1), .val (.int cc2), .val (.int cc3), .val (.int cc4), .val (.ref b50), .val (.int gt), .unset, .unset, .unset, .unset] [(.int o1)])) _
        refine XS.iconst X59.here hx rfl (hb hby at_224) ?_
        show Steps p.tables e below (T59.setTop (mkF m 225 #[.val (.int p1), .val (.int p2), .val (.int p3), .val (.int p4), .val (.int p5), .val (.int (3 : Int32)), .val (.int cc1), .val (.int cc2), .val (.int cc3), .val (.int cc4), .val (.ref b50), .val (.int gt), .unset, .unset, .unset, .unset] [(.int (0 : Int32)), (.int o1)])) _
        exact kt
      · simp only [if_neg hq217] at kt
        refine XS.ifNo X59.here hx rfl (hb hby at_217) rfl ((if0 _ _).trans (feq hq217).1) ?_
        show Steps p.tables e below (T59.setTop (mkF m 220 #[.val (.int p1), .val (.int p2), .val (.int p3), .val (.int p4), .val (.int p5), .val (.int (3 : Int32)), .val (.int cc1), .val (.int cc2), .val (.int cc3), .val (.int cc4), .val (.ref b50), .val (.int gt), .unset, .unset, .unset, .unset] [(.int o1)])) _
        refine XS.iconst X59.here hx rfl (hb hby at_220) ?_
        show Steps p.tables e below (T59.setTop (mkF m 221 #[.val (.int p1), .val (.int p2), .val (.int p3), .val (.int p4), .val (.int p5), .val (.int (3 : Int32)), .val (.int cc1), .val (.int cc2), .val (.int cc3), .val (.int cc4), .val (.ref b50), .val (.int gt), .unset, .unset, .unset, .unset] [(.int (1 : Int32)), (.int o1)])) _
        refine XS.goto X59.here hx rfl (pc0 := 221) (pc' := 225) rfl (hb hby at_221) (by decide) (by decide) ?_
        show Steps p.tables e below (T59.setTop (mkF m 225 #[.val (.int p1), .val (.int p2), .val (.int p3), .val (.int p4), .val (.int p5), .val (.int (3 : Int32)), .val (.int cc1), .val (.int cc2), .val (.int cc3), .val (.int cc4), .val (.ref b50), .val (.int gt), .unset, .unset, .unset, .unset] [(.int (1 : Int32)), (.int o1)])) _
        exact kt
    show Goes p e below _ T59 (mkF m 225 #[.val (.int p1), .val (.int p2), .val (.int p3), .val (.int p4), .val (.int p5), .val (.int (3 : Int32)), .val (.int cc1), .val (.int cc2), .val (.int cc3), .val (.int cc4), .val (.ref b50), .val (.int gt), .unset, .unset, .unset, .unset] [(.int (if (digS cc2) = (0 : Int32) then (0 : Int32) else (1 : Int32))), (.int o1)])
    refine goStatic 1 X59 hx hZ hown (hw _ (List.mem_of_getElem? (i := 42) rfl)) (hw _ (List.mem_of_getElem? (i := 43) rfl)) (hw _ (List.mem_of_getElem? (i := 3) rfl)) (hw _ (List.mem_of_getElem? (i := 44) rfl)) (by decide) (rm_one l Z a0 hw (if (digS cc2) = (0 : Int32) then (0 : Int32) else (1 : Int32)) T55.heap n0 O0) eT59 (g := (mkF m 225 #[.val (.int p1), .val (.int p2), .val (.int p3), .val (.int p4), .val (.int p5), .val (.int (3 : Int32)), .val (.int cc1), .val (.int cc2), .val (.int cc3), .val (.int cc4), .val (.ref b50), .val (.int gt), .unset, .unset, .unset, .unset] [(.int (if (digS cc2) = (0 : Int32) then (0 : Int32) else (1 : Int32))), (.int o1)])) rfl (by rw [hml]; rfl) [(.int (if (digS cc2) = (0 : Int32) then (0 : Int32) else (1 : Int32)))] [(.int o1)] (lenOf pd__Z_I rfl) rfl rfl (by show 2 * 0 + _ ≤ _; exact Nat.le_of_eq rfl) (hb hby at_225) (by decide) (by decide) (by decide) (by decide) ?_
    intro v60 T60 L60 X60 q60
    obtain ⟨rfl, Nq60, eT60⟩ := q60
    have N60 := Fr.app N59 Nq60
    show Goes p e below _ T60 (mkF m 228 #[.val (.int p1), .val (.int p2), .val (.int p3), .val (.int p4), .val (.int p5), .val (.int (3 : Int32)), .val (.int cc1), .val (.int cc2), .val (.int cc3), .val (.int cc4), .val (.ref b50), .val (.int gt), .unset, .unset, .unset, .unset] [(.int (if (if (digS cc2) = (0 : Int32) then (0 : Int32) else (1 : Int32)) = (0 : Int32) then (0 : Int32) else (1 : Int32))), (.int o1)])
    generalize eo2 : (if (if (digS cc2) = (0 : Int32) then (0 : Int32) else (1 : Int32)) = (0 : Int32) then (0 : Int32) else (1 : Int32)) = o2
    show Goes p e below _ T60 (mkF m 228 #[.val (.int p1), .val (.int p2), .val (.int p3), .val (.int p4), .val (.int p5), .val (.int (3 : Int32)), .val (.int cc1), .val (.int cc2), .val (.int cc3), .val (.int cc4), .val (.ref b50), .val (.int gt), .unset, .unset, .unset, .unset] [(.int o2), (.int o1)])
    refine Goes.of (fun _ => XS.iadd X60.here hx rfl (hb hby at_228) rfl) ?_
    show Goes p e below _ T60 (mkF m 229 #[.val (.int p1), .val (.int p2), .val (.int p3), .val (.int p4), .val (.int p5), .val (.int (3 : Int32)), .val (.int cc1), .val (.int cc2), .val (.int cc3), .val (.int cc4), .val (.ref b50), .val (.int gt), .unset, .unset, .unset, .unset] [(.int (o1 + o2))])
    refine Goes.of (fun _ => XS.iload X60.here hx rfl (hb hby at_229) rfl) ?_
    show Goes p e below _ T60 (mkF m 231 #[.val (.int p1), .val (.int p2), .val (.int p3), .val (.int p4), .val (.int p5), .val (.int (3 : Int32)), .val (.int cc1), .val (.int cc2), .val (.int cc3), .val (.int cc4), .val (.ref b50), .val (.int gt), .unset, .unset, .unset, .unset] [(.int (3 : Int32)), (.int (o1 + o2))])
    refine Goes.of (fun _ => XS.iconst X60.here hx rfl (hb hby at_231)) ?_
    show Goes p e below _ T60 (mkF m 232 #[.val (.int p1), .val (.int p2), .val (.int p3), .val (.int p4), .val (.int p5), .val (.int (3 : Int32)), .val (.int cc1), .val (.int cc2), .val (.int cc3), .val (.int cc4), .val (.ref b50), .val (.int gt), .unset, .unset, .unset, .unset] [(.int (2 : Int32)), (.int (3 : Int32)), (.int (o1 + o2))])
    refine Goes.of (fun _ => XS.icmpNo X60.here hx rfl (hb hby at_232) rfl (tlt (by decide)).2.2.2) ?_
    show Goes p e below _ T60 (mkF m 235 #[.val (.int p1), .val (.int p2), .val (.int p3), .val (.int p4), .val (.int p5), .val (.int (3 : Int32)), .val (.int cc1), .val (.int cc2), .val (.int cc3), .val (.int cc4), .val (.ref b50), .val (.int gt), .unset, .unset, .unset, .unset] [(.int (o1 + o2))])
    refine Goes.of (fun _ => XS.iload X60.here hx rfl (hb hby at_235) rfl) ?_
    show Goes p e below _ T60 (mkF m 237 #[.val (.int p1), .val (.int p2), .val (.int p3), .val (.int p4), .val (.int p5), .val (.int (3 : Int32)), .val (.int cc1), .val (.int cc2), .val (.int cc3), .val (.int cc4), .val (.ref b50), .val (.int gt), .unset, .unset, .unset, .unset] [(.int cc3), (.int (o1 + o2))])
    refine goStatic 1 X60 hx hZ hown (hw _ (List.mem_of_getElem? (i := 77) rfl)) (hw _ (List.mem_of_getElem? (i := 78) rfl)) (hw _ (List.mem_of_getElem? (i := 3) rfl)) (hw _ (List.mem_of_getElem? (i := 79) rfl)) (by decide) (rm_dig l Z a0 hw cc3 T55.heap n0 O0) eT60 (g := (mkF m 237 #[.val (.int p1), .val (.int p2), .val (.int p3), .val (.int p4), .val (.int p5), .val (.int (3 : Int32)), .val (.int cc1), .val (.int cc2), .val (.int cc3), .val (.int cc4), .val (.ref b50), .val (.int gt), .unset, .unset, .unset, .unset] [(.int cc3), (.int (o1 + o2))])) rfl (by rw [hml]; rfl) [(.int cc3)] [(.int (o1 + o2))] (lenOf pd__C_Z rfl) rfl rfl (by show 2 * 0 + _ ≤ _; exact Nat.le_of_eq rfl) (hb hby at_237) (by decide) (by decide) (by decide) (by decide) ?_
    intro v61 T61 L61 X61 q61
    obtain ⟨rfl, Nq61, eT61⟩ := q61
    have N61 := Fr.app N60 Nq61
    show Goes p e below _ T61 (mkF m 240 #[.val (.int p1), .val (.int p2), .val (.int p3), .val (.int p4), .val (.int p5), .val (.int (3 : Int32)), .val (.int cc1), .val (.int cc2), .val (.int cc3), .val (.int cc4), .val (.ref b50), .val (.int gt), .unset, .unset, .unset, .unset] [(.int (digS cc3)), (.int (o1 + o2))])
    refine Goes.of (T' := T61) (f' := (mkF m 248 #[.val (.int p1), .val (.int p2), .val (.int p3), .val (.int p4), .val (.int p5), .val (.int (3 : Int32)), .val (.int cc1), .val (.int cc2), .val (.int cc3), .val (.int cc4), .val (.ref b50), .val (.int gt), .unset, .unset, .unset, .unset] [(.int (if (digS cc3) = (0 : Int32) then (0 : Int32) else (1 : Int32))), (.int (o1 + o2))])) (fun t kt => ?_) ?_
    · show Steps p.tables e below (T61.setTop (mkF m 240 #[.val (.int p1), .val (.int p2), .val (.int p3), .val (.int p4), .val (.int p5), .val (.int (3 : Int32)), .val (.int cc1), .val (.int cc2), .val (.int cc3), .val (.int cc4), .val (.ref b50), .val (.int gt), .unset, .unset, .unset, .unset] [(.int (digS cc3)), (.int (o1 + o2))])) _
      by_cases hq240 : (digS cc3) = (0 : Int32)
      · simp only [if_pos hq240] at kt
        refine XS.ifYes X61.here hx rfl (pc0 := 240) (pc' := 247) rfl (hb hby at_240) rfl ((if0 _ _).trans (teq hq240).1) (by decide) (by decide) ?_
        show Steps p.tables e below (T61.setTop (mkF m 247 #[.val (.int p1), .val (.int p2), .val (.int p3), .val (.int p4), .val (.int p5), .val (.int (3 : Int32)), .val (.int cc1), .val (.int cc2), .val (.int cc3), .val (.int cc4), .val (.ref b50), .val (.int gt), .unset, .unset, .unset, .unset] [(.int (o1 + o2))])) _
        refine XS.iconst X61.here hx rfl (hb hby at_247) ?_
        show Steps p.tables e below (T61.setTop (mkF m 248 #[.val (.int p1), .val (.int p2), .val (.int p3), .val (.int p4), .val (.int p5), .val (.int (3 : Int32)), .val (.int cc1), .val (.int cc2), .val (.int cc3), .val (.int cc4), .val (.ref b50), .val (.int gt), .unset, .unset, .unset, .unset] [(.int (0 : Int32)), (.int (o1 + o2))])) _
        exact kt
      · simp only [if_neg hq240] at kt
        refine XS.ifNo X61.here hx rfl (hb hby at_240) rfl ((if0 _ _).trans (feq hq240).1) ?_
        show Steps p.tables e below (T61.setTop (mkF m 243 #[.val (.int p1), .val (.int p2), .val (.int p3), .val (.int p4), .val (.int p5), .val (.int (3 : Int32)), .val (.int cc1), .val (.int cc2), .val (.int cc3), .val (.int cc4), .val (.ref b50), .val (.int gt), .unset, .unset, .unset, .unset] [(.int (o1 + o2))])) _
        refine XS.iconst X61.here hx rfl (hb hby at_243) ?_
        show Steps p.tables e below (T61.setTop (mkF m 244 #[.val (.int p1), .val (.int p2), .val (.int p3), .val (.int p4), .val (.int p5), .val (.int (3 : Int32)), .val (.int cc1), .val (.int cc2), .val (.int cc3), .val (.int cc4), .val (.ref b50), .val (.int gt), .unset, .unset, .unset, .unset] [(.int (1 : Int32)), (.int (o1 + o2))])) _
        refine XS.goto X61.here hx rfl (pc0 := 244) (pc' := 248) rfl (hb hby at_244) (by decide) (by decide) ?_
        show Steps p.tables e below (T61.setTop (mkF m 248 #[.val (.int p1), .val (.int p2), .val (.int p3), .val (.int p4), .val (.int p5), .val (.int (3 : Int32)), .val (.int cc1), .val (.int cc2), .val (.int cc3), .val (.int cc4), .val (.ref b50), .val (.int gt), .unset, .unset, .unset, .unset] [(.int (1 : Int32)), (.int (o1 + o2))])) _
        exact kt
    show Goes p e below _ T61 (mkF m 248 #[.val (.int p1), .val (.int p2), .val (.int p3), .val (.int p4), .val (.int p5), .val (.int (3 : Int32)), .val (.int cc1), .val (.int cc2), .val (.int cc3), .val (.int cc4), .val (.ref b50), .val (.int gt), .unset, .unset, .unset, .unset] [(.int (if (digS cc3) = (0 : Int32) then (0 : Int32) else (1 : Int32))), (.int (o1 + o2))])
    refine goStatic 1 X61 hx hZ hown (hw _ (List.mem_of_getElem? (i := 42) rfl)) (hw _ (List.mem_of_getElem? (i := 43) rfl)) (hw _ (List.mem_of_getElem? (i := 3) rfl)) (hw _ (List.mem_of_getElem? (i := 44) rfl)) (by decide) (rm_one l Z a0 hw (if (digS cc3) = (0 : Int32) then (0 : Int32) else (1 : Int32)) T55.heap n0 O0) eT61 (g := (mkF m 248 #[.val (.int p1), .val (.int p2), .val (.int p3), .val (.int p4), .val (.int p5), .val (.int (3 : Int32)), .val (.int cc1), .val (.int cc2), .val (.int cc3), .val (.int cc4), .val (.ref b50), .val (.int gt), .unset, .unset, .unset, .unset] [(.int (if (digS cc3) = (0 : Int32) then (0 : Int32) else (1 : Int32))), (.int (o1 + o2))])) rfl (by rw [hml]; rfl) [(.int (if (digS cc3) = (0 : Int32) then (0 : Int32) else (1 : Int32)))] [(.int (o1 + o2))] (lenOf pd__Z_I rfl) rfl rfl (by show 2 * 0 + _ ≤ _; exact Nat.le_of_eq rfl) (hb hby at_248) (by decide) (by decide) (by decide) (by decide) ?_
    intro v62 T62 L62 X62 q62
    obtain ⟨rfl, Nq62, eT62⟩ := q62
    have N62 := Fr.app N61 Nq62
    show Goes p e below _ T62 (mkF m 251 #[.val (.int p1), .val (.int p2), .val (.int p3), .val (.int p4), .val (.int p5), .val (.int (3 : Int32)), .val (.int cc1), .val (.int cc2), .val (.int cc3), .val (.int cc4), .val (.ref b50), .val (.int gt), .unset, .unset, .unset, .unset] [(.int (if (if (digS cc3) = (0 : Int32) then (0 : Int32) else (1 : Int32)) = (0 : Int32) then (0 : Int32) else (1 : Int32))), (.int (o1 + o2))])
    generalize eo3 : (if (if (digS cc3) = (0 : Int32) then (0 : Int32) else (1 : Int32)) = (0 : Int32) then (0 : Int32) else (1 : Int32)) = o3
    show Goes p e below _ T62 (mkF m 251 #[.val (.int p1), .val (.int p2), .val (.int p3), .val (.int p4), .val (.int p5), .val (.int (3 : Int32)), .val (.int cc1), .val (.int cc2), .val (.int cc3), .val (.int cc4), .val (.ref b50), .val (.int gt), .unset, .unset, .unset, .unset] [(.int o3), (.int (o1 + o2))])
    refine Goes.of (fun _ => XS.iadd X62.here hx rfl (hb hby at_251) rfl) ?_
    show Goes p e below _ T62 (mkF m 252 #[.val (.int p1), .val (.int p2), .val (.int p3), .val (.int p4), .val (.int p5), .val (.int (3 : Int32)), .val (.int cc1), .val (.int cc2), .val (.int cc3), .val (.int cc4), .val (.ref b50), .val (.int gt), .unset, .unset, .unset, .unset] [(.int ((o1 + o2) + o3))])
    refine Goes.of (fun _ => XS.iload X62.here hx rfl (hb hby at_252) rfl) ?_
    show Goes p e below _ T62 (mkF m 254 #[.val (.int p1), .val (.int p2), .val (.int p3), .val (.int p4), .val (.int p5), .val (.int (3 : Int32)), .val (.int cc1), .val (.int cc2), .val (.int cc3), .val (.int cc4), .val (.ref b50), .val (.int gt), .unset, .unset, .unset, .unset] [(.int (3 : Int32)), (.int ((o1 + o2) + o3))])
    refine Goes.of (fun _ => XS.iconst X62.here hx rfl (hb hby at_254)) ?_
    show Goes p e below _ T62 (mkF m 255 #[.val (.int p1), .val (.int p2), .val (.int p3), .val (.int p4), .val (.int p5), .val (.int (3 : Int32)), .val (.int cc1), .val (.int cc2), .val (.int cc3), .val (.int cc4), .val (.ref b50), .val (.int gt), .unset, .unset, .unset, .unset] [(.int (3 : Int32)), (.int (3 : Int32)), (.int ((o1 + o2) + o3))])
    refine Goes.of (fun _ => XS.icmpYes X62.here hx rfl (pc0 := 255) (pc' := 270) rfl (hb hby at_255) rfl (flt (by decide)).2.2.2 (by decide) (by decide)) ?_
    show Goes p e below _ T62 (mkF m 270 #[.val (.int p1), .val (.int p2), .val (.int p3), .val (.int p4), .val (.int p5), .val (.int (3 : Int32)), .val (.int cc1), .val (.int cc2), .val (.int cc3), .val (.int cc4), .val (.ref b50), .val (.int gt), .unset, .unset, .unset, .unset] [(.int ((o1 + o2) + o3))])
    refine Goes.of (fun _ => XS.iconst X62.here hx rfl (hb hby at_270)) ?_
    show Goes p e below _ T62 (mkF m 271 #[.val (.int p1), .val (.int p2), .val (.int p3), .val (.int p4), .val (.int p5), .val (.int (3 : Int32)), .val (.int cc1), .val (.int cc2), .val (.int cc3), .val (.int cc4), .val (.ref b50), .val (.int gt), .unset, .unset, .unset, .unset] [(.int (0 : Int32)), (.int ((o1 + o2) + o3))])
    refine goStatic 1 X62 hx hZ hown (hw _ (List.mem_of_getElem? (i := 42) rfl)) (hw _ (List.mem_of_getElem? (i := 43) rfl)) (hw _ (List.mem_of_getElem? (i := 3) rfl)) (hw _ (List.mem_of_getElem? (i := 44) rfl)) (by decide) (rm_one l Z a0 hw (0 : Int32) T55.heap n0 O0) eT62 (g := (mkF m 271 #[.val (.int p1), .val (.int p2), .val (.int p3), .val (.int p4), .val (.int p5), .val (.int (3 : Int32)), .val (.int cc1), .val (.int cc2), .val (.int cc3), .val (.int cc4), .val (.ref b50), .val (.int gt), .unset, .unset, .unset, .unset] [(.int (0 : Int32)), (.int ((o1 + o2) + o3))])) rfl (by rw [hml]; rfl) [(.int (0 : Int32))] [(.int ((o1 + o2) + o3))] (lenOf pd__Z_I rfl) rfl rfl (by show 2 * 0 + _ ≤ _; exact Nat.le_of_eq rfl) (hb hby at_271) (by decide) (by decide) (by decide) (by decide) ?_
    intro v63 T63 L63 X63 q63
    obtain ⟨rfl, Nq63, eT63⟩ := q63
    have N63 := Fr.app N62 Nq63
    show Goes p e below _ T63 (mkF m 274 #[.val (.int p1), .val (.int p2), .val (.int p3), .val (.int p4), .val (.int p5), .val (.int (3 : Int32)), .val (.int cc1), .val (.int cc2), .val (.int cc3), .val (.int cc4), .val (.ref b50), .val (.int gt), .unset, .unset, .unset, .unset] [(.int (if (0 : Int32) = (0 : Int32) then (0 : Int32) else (1 : Int32))), (.int ((o1 + o2) + o3))])
    generalize eo4 : (if (0 : Int32) = (0 : Int32) then (0 : Int32) else (1 : Int32)) = o4
    show Goes p e below _ T63 (mkF m 274 #[.val (.int p1), .val (.int p2), .val (.int p3), .val (.int p4), .val (.int p5), .val (.int (3 : Int32)), .val (.int cc1), .val (.int cc2), .val (.int cc3), .val (.int cc4), .val (.ref b50), .val (.int gt), .unset, .unset, .unset, .unset] [(.int o4), (.int ((o1 + o2) + o3))])
    refine Goes.of (fun _ => XS.iadd X63.here hx rfl (hb hby at_274) rfl) ?_
    show Goes p e below _ T63 (mkF m 275 #[.val (.int p1), .val (.int p2), .val (.int p3), .val (.int p4), .val (.int p5), .val (.int (3 : Int32)), .val (.int cc1), .val (.int cc2), .val (.int cc3), .val (.int cc4), .val (.ref b50), .val (.int gt), .unset, .unset, .unset, .unset] [(.int (((o1 + o2) + o3) + o4))])
    refine Goes.of (fun _ => XS.istore X63.here hx rfl (hb hby at_275) rfl (l' := #[.val (.int p1), .val (.int p2), .val (.int p3), .val (.int p4), .val (.int p5), .val (.int (3 : Int32)), .val (.int cc1), .val (.int cc2), .val (.int cc3), .val (.int cc4), .val (.ref b50), .val (.int gt), .val (.int (((o1 + o2) + o3) + o4)), .unset, .unset, .unset]) rfl) ?_
    show Goes p e below _ T63 (mkF m 277 #[.val (.int p1), .val (.int p2), .val (.int p3), .val (.int p4), .val (.int p5), .val (.int (3 : Int32)), .val (.int cc1), .val (.int cc2), .val (.int cc3), .val (.int cc4), .val (.ref b50), .val (.int gt), .val (.int (((o1 + o2) + o3) + o4)), .unset, .unset, .unset] [])
    generalize edg : (((o1 + o2) + o3) + o4) = dg
    show Goes p e below _ T63 (mkF m 277 #[.val (.int p1), .val (.int p2), .val (.int p3), .val (.int p4), .val (.int p5), .val (.int (3 : Int32)), .val (.int cc1), .val (.int cc2), .val (.int cc3), .val (.int cc4), .val (.ref b50), .val (.int gt), .val (.int dg), .unset, .unset, .unset] [])
    refine Goes.of (fun _ => XS.iload X63.here hx rfl (hb hby at_277) rfl) ?_
    show Goes p e below _ T63 (mkF m 279 #[.val (.int p1), .val (.int p2), .val (.int p3), .val (.int p4), .val (.int p5), .val (.int (3 : Int32)), .val (.int cc1), .val (.int cc2), .val (.int cc3), .val (.int cc4), .val (.ref b50), .val (.int gt), .val (.int dg), .unset, .unset, .unset] [(.int (3 : Int32))])
    refine Goes.of (fun _ => XS.ifNo X63.here hx rfl (hb hby at_279) rfl ((if0 _ _).trans (tlt (by decide)).2.2.2)) ?_
    show Goes p e below _ T63 (mkF m 282 #[.val (.int p1), .val (.int p2), .val (.int p3), .val (.int p4), .val (.int p5), .val (.int (3 : Int32)), .val (.int cc1), .val (.int cc2), .val (.int cc3), .val (.int cc4), .val (.ref b50), .val (.int gt), .val (.int dg), .unset, .unset, .unset] [])
    refine Goes.of (fun _ => XS.iload X63.here hx rfl (hb hby at_282) rfl) ?_
    show Goes p e below _ T63 (mkF m 284 #[.val (.int p1), .val (.int p2), .val (.int p3), .val (.int p4), .val (.int p5), .val (.int (3 : Int32)), .val (.int cc1), .val (.int cc2), .val (.int cc3), .val (.int cc4), .val (.ref b50), .val (.int gt), .val (.int dg), .unset, .unset, .unset] [(.int cc1)])
    refine Goes.of (fun _ => XS.bipush X63.here hx rfl (hb hby at_284)) ?_
    show Goes p e below _ T63 (mkF m 286 #[.val (.int p1), .val (.int p2), .val (.int p3), .val (.int p4), .val (.int p5), .val (.int (3 : Int32)), .val (.int cc1), .val (.int cc2), .val (.int cc3), .val (.int cc4), .val (.ref b50), .val (.int gt), .val (.int dg), .unset, .unset, .unset] [(.int (46 : Int32)), (.int cc1)])
    refine Goes.of (T' := T63) (f' := (mkF m 294 #[.val (.int p1), .val (.int p2), .val (.int p3), .val (.int p4), .val (.int p5), .val (.int (3 : Int32)), .val (.int cc1), .val (.int cc2), .val (.int cc3), .val (.int cc4), .val (.ref b50), .val (.int gt), .val (.int dg), .unset, .unset, .unset] [(.int (if cc1 = (46 : Int32) then (1 : Int32) else (0 : Int32)))])) (fun t kt => ?_) ?_
    · show Steps p.tables e below (T63.setTop (mkF m 286 #[.val (.int p1), .val (.int p2), .val (.int p3), .val (.int p4), .val (.int p5), .val (.int (3 : Int32)), .val (.int cc1), .val (.int cc2), .val (.int cc3), .val (.int cc4), .val (.ref b50), .val (.int gt), .val (.int dg), .unset, .unset, .unset] [(.int (46 : Int32)), (.int cc1)])) _
      by_cases hq286 : cc1 = (46 : Int32)
      · simp only [if_pos hq286] at kt
        refine XS.icmpNo X63.here hx rfl (hb hby at_286) rfl (teq hq286).2 ?_
        show Steps p.tables e below (T63.setTop (mkF m 289 #[.val (.int p1), .val (.int p2), .val (.int p3), .val (.int p4), .val (.int p5), .val (.int (3 : Int32)), .val (.int cc1), .val (.int cc2), .val (.int cc3), .val (.int cc4), .val (.ref b50), .val (.int gt), .val (.int dg), .unset, .unset, .unset] [])) _
        refine XS.iconst X63.here hx rfl (hb hby at_289) ?_
        show Steps p.tables e below (T63.setTop (mkF m 290 #[.val (.int p1), .val (.int p2), .val (.int p3), .val (.int p4), .val (.int p5), .val (.int (3 : Int32)), .val (.int cc1), .val (.int cc2), .val (.int cc3), .val (.int cc4), .val (.ref b50), .val (.int gt), .val (.int dg), .unset, .unset, .unset] [(.int (1 : Int32))])) _
        refine XS.goto X63.here hx rfl (pc0 := 290) (pc' := 294) rfl (hb hby at_290) (by decide) (by decide) ?_
        show Steps p.tables e below (T63.setTop (mkF m 294 #[.val (.int p1), .val (.int p2), .val (.int p3), .val (.int p4), .val (.int p5), .val (.int (3 : Int32)), .val (.int cc1), .val (.int cc2), .val (.int cc3), .val (.int cc4), .val (.ref b50), .val (.int gt), .val (.int dg), .unset, .unset, .unset] [(.int (1 : Int32))])) _
        exact kt
      · simp only [if_neg hq286] at kt
        refine XS.icmpYes X63.here hx rfl (pc0 := 286) (pc' := 293) rfl (hb hby at_286) rfl (feq hq286).2 (by decide) (by decide) ?_
        show Steps p.tables e below (T63.setTop (mkF m 293 #[.val (.int p1), .val (.int p2), .val (.int p3), .val (.int p4), .val (.int p5), .val (.int (3 : Int32)), .val (.int cc1), .val (.int cc2), .val (.int cc3), .val (.int cc4), .val (.ref b50), .val (.int gt), .val (.int dg), .unset, .unset, .unset] [])) _
        refine XS.iconst X63.here hx rfl (hb hby at_293) ?_
        show Steps p.tables e below (T63.setTop (mkF m 294 #[.val (.int p1), .val (.int p2), .val (.int p3), .val (.int p4), .val (.int p5), .val (.int (3 : Int32)), .val (.int cc1), .val (.int cc2), .val (.int cc3), .val (.int cc4), .val (.ref b50), .val (.int gt), .val (.int dg), .unset, .unset, .unset] [(.int (0 : Int32))])) _
        exact kt
    show Goes p e below _ T63 (mkF m 294 #[.val (.int p1), .val (.int p2), .val (.int p3), .val (.int p4), .val (.int p5), .val (.int (3 : Int32)), .val (.int cc1), .val (.int cc2), .val (.int cc3), .val (.int cc4), .val (.ref b50), .val (.int gt), .val (.int dg), .unset, .unset, .unset] [(.int (if cc1 = (46 : Int32) then (1 : Int32) else (0 : Int32)))])
    refine goStatic 0 X63 hx hZ hown (hw _ (List.mem_of_getElem? (i := 42) rfl)) (hw _ (List.mem_of_getElem? (i := 43) rfl)) (hw _ (List.mem_of_getElem? (i := 3) rfl)) (hw _ (List.mem_of_getElem? (i := 44) rfl)) (by decide) (rm_one l Z a0 hw (if cc1 = (46 : Int32) then (1 : Int32) else (0 : Int32)) T55.heap n0 O0) eT63 (g := (mkF m 294 #[.val (.int p1), .val (.int p2), .val (.int p3), .val (.int p4), .val (.int p5), .val (.int (3 : Int32)), .val (.int cc1), .val (.int cc2), .val (.int cc3), .val (.int cc4), .val (.ref b50), .val (.int gt), .val (.int dg), .unset, .unset, .unset] [(.int (if cc1 = (46 : Int32) then (1 : Int32) else (0 : Int32)))])) rfl (by rw [hml]; rfl) [(.int (if cc1 = (46 : Int32) then (1 : Int32) else (0 : Int32)))] [] (lenOf pd__Z_I rfl) rfl rfl (by show 2 * 0 + _ ≤ _; exact Nat.le_of_eq rfl) (hb hby at_294) (by decide) (by decide) (by decide) (by decide) ?_
    intro v64 T64 L64 X64 q64
    obtain ⟨rfl, Nq64, eT64⟩ := q64
    have N64 := Fr.app N63 Nq64
    show Goes p e below _ T64 (mkF m 297 #[.val (.int p1), .val (.int p2), .val (.int p3), .val (.int p4), .val (.int p5), .val (.int (3 : Int32)), .val (.int cc1), .val (.int cc2), .val (.int cc3), .val (.int cc4), .val (.ref b50), .val (.int gt), .val (.int dg), .unset, .unset, .unset] [(.int (if (if cc1 = (46 : Int32) then (1 : Int32) else (0 : Int32)) = (0 : Int32) then (0 : Int32) else (1 : Int32)))])
    generalize er1 : (if (if cc1 = (46 : Int32) then (1 : Int32) else (0 : Int32)) = (0 : Int32) then (0 : Int32) else (1 : Int32)) = r1
    show Goes p e below _ T64 (mkF m 297 #[.val (.int p1), .val (.int p2), .val (.int p3), .val (.int p4), .val (.int p5), .val (.int (3 : Int32)), .val (.int cc1), .val (.int cc2), .val (.int cc3), .val (.int cc4), .val (.ref b50), .val (.int gt), .val (.int dg), .unset, .unset, .unset] [(.int r1)])
    refine Goes.of (fun _ => XS.iload X64.here hx rfl (hb hby at_297) rfl) ?_
    show Goes p e below _ T64 (mkF m 299 #[.val (.int p1), .val (.int p2), .val (.int p3), .val (.int p4), .val (.int p5), .val (.int (3 : Int32)), .val (.int cc1), .val (.int cc2), .val (.int cc3), .val (.int cc4), .val (.ref b50), .val (.int gt), .val (.int dg), .unset, .unset, .unset] [(.int (3 : Int32)), (.int r1)])
    refine Goes.of (fun _ => XS.iconst X64.here hx rfl (hb hby at_299)) ?_
    show Goes p e below _ T64 (mkF m 300 #[.val (.int p1), .val (.int p2), .val (.int p3), .val (.int p4), .val (.int p5), .val (.int (3 : Int32)), .val (.int cc1), .val (.int cc2), .val (.int cc3), .val (.int cc4), .val (.ref b50), .val (.int gt), .val (.int dg), .unset, .unset, .unset] [(.int (1 : Int32)), (.int (3 : Int32)), (.int r1)])
    refine Goes.of (fun _ => XS.icmpNo X64.here hx rfl (hb hby at_300) rfl (tlt (by decide)).2.2.2) ?_
    show Goes p e below _ T64 (mkF m 303 #[.val (.int p1), .val (.int p2), .val (.int p3), .val (.int p4), .val (.int p5), .val (.int (3 : Int32)), .val (.int cc1), .val (.int cc2), .val (.int cc3), .val (.int cc4), .val (.ref b50), .val (.int gt), .val (.int dg), .unset, .unset, .unset] [(.int r1)])
    refine Goes.of (fun _ => XS.iload X64.here hx rfl (hb hby at_303) rfl) ?_
    show Goes p e below _ T64 (mkF m 305 #[.val (.int p1), .val (.int p2), .val (.int p3), .val (.int p4), .val (.int p5), .val (.int (3 : Int32)), .val (.int cc1), .val (.int cc2), .val (.int cc3), .val (.int cc4), .val (.ref b50), .val (.int gt), .val (.int dg), .unset, .unset, .unset] [(.int cc2), (.int r1)])
    refine Goes.of (fun _ => XS.bipush X64.here hx rfl (hb hby at_305)) ?_
    show Goes p e below _ T64 (mkF m 307 #[.val (.int p1), .val (.int p2), .val (.int p3), .val (.int p4), .val (.int p5), .val (.int (3 : Int32)), .val (.int cc1), .val (.int cc2), .val (.int cc3), .val (.int cc4), .val (.ref b50), .val (.int gt), .val (.int dg), .unset, .unset, .unset] [(.int (46 : Int32)), (.int cc2), (.int r1)])
    refine Goes.of (T' := T64) (f' := (mkF m 315 #[.val (.int p1), .val (.int p2), .val (.int p3), .val (.int p4), .val (.int p5), .val (.int (3 : Int32)), .val (.int cc1), .val (.int cc2), .val (.int cc3), .val (.int cc4), .val (.ref b50), .val (.int gt), .val (.int dg), .unset, .unset, .unset] [(.int (if cc2 = (46 : Int32) then (1 : Int32) else (0 : Int32))), (.int r1)])) (fun t kt => ?_) ?_
    · show Steps p.tables e below (T64.setTop (mkF m 307 #[.val (.int p1), .val (.int p2), .val (.int p3), .val (.int p4), .val (.int p5), .val (.int (3 : Int32)), .val (.int cc1), .val (.int cc2), .val (.int cc3), .val (.int cc4), .val (.ref b50), .val (.int gt), .val (.int dg), .unset, .unset, .unset] [(.int (46 : Int32)), (.int cc2), (.int r1)])) _
      by_cases hq307 : cc2 = (46 : Int32)
      · simp only [if_pos hq307] at kt
        refine XS.icmpNo X64.here hx rfl (hb hby at_307) rfl (teq hq307).2 ?_
        show Steps p.tables e below (T64.setTop (mkF m 310 #[.val (.int p1), .val (.int p2), .val (.int p3), .val (.int p4), .val (.int p5), .val (.int (3 : Int32)), .val (.int cc1), .val (.int cc2), .val (.int cc3), .val (.int cc4), .val (.ref b50), .val (.int gt), .val (.int dg), .unset, .unset, .unset] [(.int r1)])) _
        refine XS.iconst X64.here hx rfl (hb hby at_310) ?_
        show Steps p.tables e below (T64.setTop (mkF m 311 #[.val (.int p1), .val (.int p2), .val (.int p3), .val (.int p4), .val (.int p5), .val (.int (3 : Int32)), .val (.int cc1), .val (.int cc2), .val (.int cc3), .val (.int cc4), .val (.ref b50), .val (.int gt), .val (.int dg), .unset, .unset, .unset] [(.int (1 : Int32)), (.int r1)])) _
        refine XS.goto X64.here hx rfl (pc0 := 311) (pc' := 315) rfl (hb hby at_311) (by decide) (by decide) ?_
        show Steps p.tables e below (T64.setTop (mkF m 315 #[.val (.int p1), .val (.int p2), .val (.int p3), .val (.int p4), .val (.int p5), .val (.int (3 : Int32)), .val (.int cc1), .val (.int cc2), .val (.int cc3), .val (.int cc4), .val (.ref b50), .val (.int gt), .val (.int dg), .unset, .unset, .unset] [(.int (1 : Int32)), (.int r1)])) _
        exact kt
      · simp only [if_neg hq307] at kt
        refine XS.icmpYes X64.here hx rfl (pc0 := 307) (pc' := 314) rfl (hb hby at_307) rfl (feq hq307).2 (by decide) (by decide) ?_
        show Steps p.tables e below (T64.setTop (mkF m 314 #[.val (.int p1), .val (.int p2), .val (.int p3), .val (.int p4), .val (.int p5), .val (.int (3 : Int32)), .val (.int cc1), .val (.int cc2), .val (.int cc3), .val (.int cc4), .val (.ref b50), .val (.int gt), .val (.int dg), .unset, .unset, .unset] [(.int r1)])) _
        refine XS.iconst X64.here hx rfl (hb hby at_314) ?_
        show Steps p.tables e below (T64.setTop (mkF m 315 #[.val (.int p1), .val (.int p2), .val (.int p3), .val (.int p4), .val (.int p5), .val (.int (3 : Int32)), .val (.int cc1), .val (.int cc2), .val (.int cc3), .val (.int cc4), .val (.ref b50), .val (.int gt), .val (.int dg), .unset, .unset, .unset] [(.int (0 : Int32)), (.int r1)])) _
        exact kt
    show Goes p e below _ T64 (mkF m 315 #[.val (.int p1), .val (.int p2), .val (.int p3), .val (.int p4), .val (.int p5), .val (.int (3 : Int32)), .val (.int cc1), .val (.int cc2), .val (.int cc3), .val (.int cc4), .val (.ref b50), .val (.int gt), .val (.int dg), .unset, .unset, .unset] [(.int (if cc2 = (46 : Int32) then (1 : Int32) else (0 : Int32))), (.int r1)])
    refine goStatic 1 X64 hx hZ hown (hw _ (List.mem_of_getElem? (i := 42) rfl)) (hw _ (List.mem_of_getElem? (i := 43) rfl)) (hw _ (List.mem_of_getElem? (i := 3) rfl)) (hw _ (List.mem_of_getElem? (i := 44) rfl)) (by decide) (rm_one l Z a0 hw (if cc2 = (46 : Int32) then (1 : Int32) else (0 : Int32)) T55.heap n0 O0) eT64 (g := (mkF m 315 #[.val (.int p1), .val (.int p2), .val (.int p3), .val (.int p4), .val (.int p5), .val (.int (3 : Int32)), .val (.int cc1), .val (.int cc2), .val (.int cc3), .val (.int cc4), .val (.ref b50), .val (.int gt), .val (.int dg), .unset, .unset, .unset] [(.int (if cc2 = (46 : Int32) then (1 : Int32) else (0 : Int32))), (.int r1)])) rfl (by rw [hml]; rfl) [(.int (if cc2 = (46 : Int32) then (1 : Int32) else (0 : Int32)))] [(.int r1)] (lenOf pd__Z_I rfl) rfl rfl (by show 2 * 0 + _ ≤ _; exact Nat.le_of_eq rfl) (hb hby at_315) (by decide) (by decide) (by decide) (by decide) ?_
    intro v65 T65 L65 X65 q65
    obtain ⟨rfl, Nq65, eT65⟩ := q65
    have N65 := Fr.app N64 Nq65
    show Goes p e below _ T65 (mkF m 318 #[.val (.int p1), .val (.int p2), .val (.int p3), .val (.int p4), .val (.int p5), .val (.int (3 : Int32)), .val (.int cc1), .val (.int cc2), .val (.int cc3), .val (.int cc4), .val (.ref b50), .val (.int gt), .val (.int dg), .unset, .unset, .unset] [(.int (if (if cc2 = (46 : Int32) then (1 : Int32) else (0 : Int32)) = (0 : Int32) then (0 : Int32) else (1 : Int32))), (.int r1)])
    generalize er2 : (if (if cc2 = (46 : Int32) then (1 : Int32) else (0 : Int32)) = (0 : Int32) then (0 : Int32) else (1 : Int32)) = r2
    show Goes p e below _ T65 (mkF m 318 #[.val (.int p1), .val (.int p2), .val (.int p3), .val (.int p4), .val (.int p5), .val (.int (3 : Int32)), .val (.int cc1), .val (.int cc2), .val (.int cc3), .val (.int cc4), .val (.ref b50), .val (.int gt), .val (.int dg), .unset, .unset, .unset] [(.int r2), (.int r1)])
    refine Goes.of (fun _ => XS.iadd X65.here hx rfl (hb hby at_318) rfl) ?_
    show Goes p e below _ T65 (mkF m 319 #[.val (.int p1), .val (.int p2), .val (.int p3), .val (.int p4), .val (.int p5), .val (.int (3 : Int32)), .val (.int cc1), .val (.int cc2), .val (.int cc3), .val (.int cc4), .val (.ref b50), .val (.int gt), .val (.int dg), .unset, .unset, .unset] [(.int (r1 + r2))])
    refine Goes.of (fun _ => XS.iload X65.here hx rfl (hb hby at_319) rfl) ?_
    show Goes p e below _ T65 (mkF m 321 #[.val (.int p1), .val (.int p2), .val (.int p3), .val (.int p4), .val (.int p5), .val (.int (3 : Int32)), .val (.int cc1), .val (.int cc2), .val (.int cc3), .val (.int cc4), .val (.ref b50), .val (.int gt), .val (.int dg), .unset, .unset, .unset] [(.int (3 : Int32)), (.int (r1 + r2))])
    refine Goes.of (fun _ => XS.iconst X65.here hx rfl (hb hby at_321)) ?_
    show Goes p e below _ T65 (mkF m 322 #[.val (.int p1), .val (.int p2), .val (.int p3), .val (.int p4), .val (.int p5), .val (.int (3 : Int32)), .val (.int cc1), .val (.int cc2), .val (.int cc3), .val (.int cc4), .val (.ref b50), .val (.int gt), .val (.int dg), .unset, .unset, .unset] [(.int (2 : Int32)), (.int (3 : Int32)), (.int (r1 + r2))])
    refine Goes.of (fun _ => XS.icmpNo X65.here hx rfl (hb hby at_322) rfl (tlt (by decide)).2.2.2) ?_
    show Goes p e below _ T65 (mkF m 325 #[.val (.int p1), .val (.int p2), .val (.int p3), .val (.int p4), .val (.int p5), .val (.int (3 : Int32)), .val (.int cc1), .val (.int cc2), .val (.int cc3), .val (.int cc4), .val (.ref b50), .val (.int gt), .val (.int dg), .unset, .unset, .unset] [(.int (r1 + r2))])
    refine Goes.of (fun _ => XS.iload X65.here hx rfl (hb hby at_325) rfl) ?_
    show Goes p e below _ T65 (mkF m 327 #[.val (.int p1), .val (.int p2), .val (.int p3), .val (.int p4), .val (.int p5), .val (.int (3 : Int32)), .val (.int cc1), .val (.int cc2), .val (.int cc3), .val (.int cc4), .val (.ref b50), .val (.int gt), .val (.int dg), .unset, .unset, .unset] [(.int cc3), (.int (r1 + r2))])
    refine Goes.of (fun _ => XS.bipush X65.here hx rfl (hb hby at_327)) ?_
    show Goes p e below _ T65 (mkF m 329 #[.val (.int p1), .val (.int p2), .val (.int p3), .val (.int p4), .val (.int p5), .val (.int (3 : Int32)), .val (.int cc1), .val (.int cc2), .val (.int cc3), .val (.int cc4), .val (.ref b50), .val (.int gt), .val (.int dg), .unset, .unset, .unset] [(.int (46 : Int32)), (.int cc3), (.int (r1 + r2))])
    refine Goes.of (T' := T65) (f' := (mkF m 337 #[.val (.int p1), .val (.int p2), .val (.int p3), .val (.int p4), .val (.int p5), .val (.int (3 : Int32)), .val (.int cc1), .val (.int cc2), .val (.int cc3), .val (.int cc4), .val (.ref b50), .val (.int gt), .val (.int dg), .unset, .unset, .unset] [(.int (if cc3 = (46 : Int32) then (1 : Int32) else (0 : Int32))), (.int (r1 + r2))])) (fun t kt => ?_) ?_
    · show Steps p.tables e below (T65.setTop (mkF m 329 #[.val (.int p1), .val (.int p2), .val (.int p3), .val (.int p4), .val (.int p5), .val (.int (3 : Int32)), .val (.int cc1), .val (.int cc2), .val (.int cc3), .val (.int cc4), .val (.ref b50), .val (.int gt), .val (.int dg), .unset, .unset, .unset] [(.int (46 : Int32)), (.int cc3), (.int (r1 + r2))])) _
      by_cases hq329 : cc3 = (46 : Int32)
      · simp only [if_pos hq329] at kt
        refine XS.icmpNo X65.here hx rfl (hb hby at_329) rfl (teq hq329).2 ?_
        show Steps p.tables e below (T65.setTop (mkF m 332 #[.val (.int p1), .val (.int p2), .val (.int p3), .val (.int p4), .val (.int p5), .val (.int (3 : Int32)), .val (.int cc1), .val (.int cc2), .val (.int cc3), .val (.int cc4), .val (.ref b50), .val (.int gt), .val (.int dg), .unset, .unset, .unset] [(.int (r1 + r2))])) _
        refine XS.iconst X65.here hx rfl (hb hby at_332) ?_
        show Steps p.tables e below (T65.setTop (mkF m 333 #[.val (.int p1), .val (.int p2), .val (.int p3), .val (.int p4), .val (.int p5), .val (.int (3 : Int32)), .val (.int cc1), .val (.int cc2), .val (.int cc3), .val (.int cc4), .val (.ref b50), .val (.int gt), .val (.int dg), .unset, .unset, .unset] [(.int (1 : Int32)), (.int (r1 + r2))])) _
        refine XS.goto X65.here hx rfl (pc0 := 333) (pc' := 337) rfl (hb hby at_333) (by decide) (by decide) ?_
        show Steps p.tables e below (T65.setTop (mkF m 337 #[.val (.int p1), .val (.int p2), .val (.int p3), .val (.int p4), .val (.int p5), .val (.int (3 : Int32)), .val (.int cc1), .val (.int cc2), .val (.int cc3), .val (.int cc4), .val (.ref b50), .val (.int gt), .val (.int dg), .unset, .unset, .unset] [(.int (1 : Int32)), (.int (r1 + r2))])) _
        exact kt
      · simp only [if_neg hq329] at kt
        refine XS.icmpYes X65.here hx rfl (pc0 := 329) (pc' := 336) rfl (hb hby at_329) rfl (feq hq329).2 (by decide) (by decide) ?_
        show Steps p.tables e below (T65.setTop (mkF m 336 #[.val (.int p1), .val (.int p2), .val (.int p3), .val (.int p4), .val (.int p5), .val (.int (3 : Int32)), .val (.int cc1), .val (.int cc2), .val (.int cc3), .val (.int cc4), .val (.ref b50), .val (.int gt), .val (.int dg), .unset, .unset, .unset] [(.int (r1 + r2))])) _
        refine XS.iconst X65.here hx rfl (hb hby at_336) ?_
        show Steps p.tables e below (T65.setTop (mkF m 337 #[.val (.int p1), .val (.int p2), .val (.int p3), .val (.int p4), .val (.int p5), .val (.int (3 : Int32)), .val (.int cc1), .val (.int cc2), .val (.int cc3), .val (.int cc4), .val (.ref b50), .val (.int gt), .val (.int dg), .unset, .unset, .unset] [(.int (0 : Int32)), (.int (r1 + r2))])) _
        exact kt
    show Goes p e below _ T65 (mkF m 337 #[.val (.int p1), .val (.int p2), .val (.int p3), .val (.int p4), .val (.int p5), .val (.int (3 : Int32)), .val (.int cc1), .val (.int cc2), .val (.int cc3), .val (.int cc4), .val (.ref b50), .val (.int gt), .val (.int dg), .unset, .unset, .unset] [(.int (if cc3 = (46 : Int32) then (1 : Int32) else (0 : Int32))), (.int (r1 + r2))])
    refine goStatic 1 X65 hx hZ hown (hw _ (List.mem_of_getElem? (i := 42) rfl)) (hw _ (List.mem_of_getElem? (i := 43) rfl)) (hw _ (List.mem_of_getElem? (i := 3) rfl)) (hw _ (List.mem_of_getElem? (i := 44) rfl)) (by decide) (rm_one l Z a0 hw (if cc3 = (46 : Int32) then (1 : Int32) else (0 : Int32)) T55.heap n0 O0) eT65 (g := (mkF m 337 #[.val (.int p1), .val (.int p2), .val (.int p3), .val (.int p4), .val (.int p5), .val (.int (3 : Int32)), .val (.int cc1), .val (.int cc2), .val (.int cc3), .val (.int cc4), .val (.ref b50), .val (.int gt), .val (.int dg), .unset, .unset, .unset] [(.int (if cc3 = (46 : Int32) then (1 : Int32) else (0 : Int32))), (.int (r1 + r2))])) rfl (by rw [hml]; rfl) [(.int (if cc3 = (46 : Int32) then (1 : Int32) else (0 : Int32)))] [(.int (r1 + r2))] (lenOf pd__Z_I rfl) rfl rfl (by show 2 * 0 + _ ≤ _; exact Nat.le_of_eq rfl) (hb hby at_337) (by decide) (by decide) (by decide) (by decide) ?_
    intro v66 T66 L66 X66 q66
    obtain ⟨rfl, Nq66, eT66⟩ := q66
    have N66 := Fr.app N65 Nq66
    show Goes p e below _ T66 (mkF m 340 #[.val (.int p1), .val (.int p2), .val (.int p3), .val (.int p4), .val (.int p5), .val (.int (3 : Int32)), .val (.int cc1), .val (.int cc2), .val (.int cc3), .val (.int cc4), .val (.ref b50), .val (.int gt), .val (.int dg), .unset, .unset, .unset] [(.int (if (if cc3 = (46 : Int32) then (1 : Int32) else (0 : Int32)) = (0 : Int32) then (0 : Int32) else (1 : Int32))), (.int (r1 + r2))])
    generalize er3 : (if (if cc3 = (46 : Int32) then (1 : Int32) else (0 : Int32)) = (0 : Int32) then (0 : Int32) else (1 : Int32)) = r3
    show Goes p e below _ T66 (mkF m 340 #[.val (.int p1), .val (.int p2), .val (.int p3), .val (.int p4), .val (.int p5), .val (.int (3 : Int32)), .val (.int cc1), .val (.int cc2), .val (.int cc3), .val (.int cc4), .val (.ref b50), .val (.int gt), .val (.int dg), .unset, .unset, .unset] [(.int r3), (.int (r1 + r2))])
    refine Goes.of (fun _ => XS.iadd X66.here hx rfl (hb hby at_340) rfl) ?_
    show Goes p e below _ T66 (mkF m 341 #[.val (.int p1), .val (.int p2), .val (.int p3), .val (.int p4), .val (.int p5), .val (.int (3 : Int32)), .val (.int cc1), .val (.int cc2), .val (.int cc3), .val (.int cc4), .val (.ref b50), .val (.int gt), .val (.int dg), .unset, .unset, .unset] [(.int ((r1 + r2) + r3))])
    refine Goes.of (fun _ => XS.iload X66.here hx rfl (hb hby at_341) rfl) ?_
    show Goes p e below _ T66 (mkF m 343 #[.val (.int p1), .val (.int p2), .val (.int p3), .val (.int p4), .val (.int p5), .val (.int (3 : Int32)), .val (.int cc1), .val (.int cc2), .val (.int cc3), .val (.int cc4), .val (.ref b50), .val (.int gt), .val (.int dg), .unset, .unset, .unset] [(.int (3 : Int32)), (.int ((r1 + r2) + r3))])
    refine Goes.of (fun _ => XS.iconst X66.here hx rfl (hb hby at_343)) ?_
    show Goes p e below _ T66 (mkF m 344 #[.val (.int p1), .val (.int p2), .val (.int p3), .val (.int p4), .val (.int p5), .val (.int (3 : Int32)), .val (.int cc1), .val (.int cc2), .val (.int cc3), .val (.int cc4), .val (.ref b50), .val (.int gt), .val (.int dg), .unset, .unset, .unset] [(.int (3 : Int32)), (.int (3 : Int32)), (.int ((r1 + r2) + r3))])
    refine Goes.of (fun _ => XS.icmpYes X66.here hx rfl (pc0 := 344) (pc' := 358) rfl (hb hby at_344) rfl (flt (by decide)).2.2.2 (by decide) (by decide)) ?_
    show Goes p e below _ T66 (mkF m 358 #[.val (.int p1), .val (.int p2), .val (.int p3), .val (.int p4), .val (.int p5), .val (.int (3 : Int32)), .val (.int cc1), .val (.int cc2), .val (.int cc3), .val (.int cc4), .val (.ref b50), .val (.int gt), .val (.int dg), .unset, .unset, .unset] [(.int ((r1 + r2) + r3))])
    refine Goes.of (fun _ => XS.iconst X66.here hx rfl (hb hby at_358)) ?_
    show Goes p e below _ T66 (mkF m 359 #[.val (.int p1), .val (.int p2), .val (.int p3), .val (.int p4), .val (.int p5), .val (.int (3 : Int32)), .val (.int cc1), .val (.int cc2), .val (.int cc3), .val (.int cc4), .val (.ref b50), .val (.int gt), .val (.int dg), .unset, .unset, .unset] [(.int (0 : Int32)), (.int ((r1 + r2) + r3))])
    refine goStatic 1 X66 hx hZ hown (hw _ (List.mem_of_getElem? (i := 42) rfl)) (hw _ (List.mem_of_getElem? (i := 43) rfl)) (hw _ (List.mem_of_getElem? (i := 3) rfl)) (hw _ (List.mem_of_getElem? (i := 44) rfl)) (by decide) (rm_one l Z a0 hw (0 : Int32) T55.heap n0 O0) eT66 (g := (mkF m 359 #[.val (.int p1), .val (.int p2), .val (.int p3), .val (.int p4), .val (.int p5), .val (.int (3 : Int32)), .val (.int cc1), .val (.int cc2), .val (.int cc3), .val (.int cc4), .val (.ref b50), .val (.int gt), .val (.int dg), .unset, .unset, .unset] [(.int (0 : Int32)), (.int ((r1 + r2) + r3))])) rfl (by rw [hml]; rfl) [(.int (0 : Int32))] [(.int ((r1 + r2) + r3))] (lenOf pd__Z_I rfl) rfl rfl (by show 2 * 0 + _ ≤ _; exact Nat.le_of_eq rfl) (hb hby at_359) (by decide) (by decide) (by decide) (by decide) ?_
    intro v67 T67 L67 X67 q67
    obtain ⟨rfl, Nq67, eT67⟩ := q67
    have N67 := Fr.app N66 Nq67
    show Goes p e below _ T67 (mkF m 362 #[.val (.int p1), .val (.int p2), .val (.int p3), .val (.int p4), .val (.int p5), .val (.int (3 : Int32)), .val (.int cc1), .val (.int cc2), .val (.int cc3), .val (.int cc4), .val (.ref b50), .val (.int gt), .val (.int dg), .unset, .unset, .unset] [(.int (if (0 : Int32) = (0 : Int32) then (0 : Int32) else (1 : Int32))), (.int ((r1 + r2) + r3))])
    generalize er4 : (if (0 : Int32) = (0 : Int32) then (0 : Int32) else (1 : Int32)) = r4
    show Goes p e below _ T67 (mkF m 362 #[.val (.int p1), .val (.int p2), .val (.int p3), .val (.int p4), .val (.int p5), .val (.int (3 : Int32)), .val (.int cc1), .val (.int cc2), .val (.int cc3), .val (.int cc4), .val (.ref b50), .val (.int gt), .val (.int dg), .unset, .unset, .unset] [(.int r4), (.int ((r1 + r2) + r3))])
    refine Goes.of (fun _ => XS.iadd X67.here hx rfl (hb hby at_362) rfl) ?_
    show Goes p e below _ T67 (mkF m 363 #[.val (.int p1), .val (.int p2), .val (.int p3), .val (.int p4), .val (.int p5), .val (.int (3 : Int32)), .val (.int cc1), .val (.int cc2), .val (.int cc3), .val (.int cc4), .val (.ref b50), .val (.int gt), .val (.int dg), .unset, .unset, .unset] [(.int (((r1 + r2) + r3) + r4))])
    refine Goes.of (fun _ => XS.istore X67.here hx rfl (hb hby at_363) rfl (l' := #[.val (.int p1), .val (.int p2), .val (.int p3), .val (.int p4), .val (.int p5), .val (.int (3 : Int32)), .val (.int cc1), .val (.int cc2), .val (.int cc3), .val (.int cc4), .val (.ref b50), .val (.int gt), .val (.int dg), .val (.int (((r1 + r2) + r3) + r4)), .unset, .unset]) rfl) ?_
    show Goes p e below _ T67 (mkF m 365 #[.val (.int p1), .val (.int p2), .val (.int p3), .val (.int p4), .val (.int p5), .val (.int (3 : Int32)), .val (.int cc1), .val (.int cc2), .val (.int cc3), .val (.int cc4), .val (.ref b50), .val (.int gt), .val (.int dg), .val (.int (((r1 + r2) + r3) + r4)), .unset, .unset] [])
    generalize ept : (((r1 + r2) + r3) + r4) = pt
    show Goes p e below _ T67 (mkF m 365 #[.val (.int p1), .val (.int p2), .val (.int p3), .val (.int p4), .val (.int p5), .val (.int (3 : Int32)), .val (.int cc1), .val (.int cc2), .val (.int cc3), .val (.int cc4), .val (.ref b50), .val (.int gt), .val (.int dg), .val (.int pt), .unset, .unset] [])
    refine Goes.of (fun _ => XS.iconst X67.here hx rfl (hb hby at_365)) ?_
    show Goes p e below _ T67 (mkF m 366 #[.val (.int p1), .val (.int p2), .val (.int p3), .val (.int p4), .val (.int p5), .val (.int (3 : Int32)), .val (.int cc1), .val (.int cc2), .val (.int cc3), .val (.int cc4), .val (.ref b50), .val (.int gt), .val (.int dg), .val (.int pt), .unset, .unset] [(.int (1 : Int32))])
    refine Goes.of (fun _ => XS.istore X67.here hx rfl (hb hby at_366) rfl (l' := #[.val (.int p1), .val (.int p2), .val (.int p3), .val (.int p4), .val (.int p5), .val (.int (3 : Int32)), .val (.int cc1), .val (.int cc2), .val (.int cc3), .val (.int cc4), .val (.ref b50), .val (.int gt), .val (.int dg), .val (.int pt), .val (.int (1 : Int32)), .unset]) rfl) ?_
    show Goes p e below _ T67 (mkF m 368 #[.val (.int p1), .val (.int p2), .val (.int p3), .val (.int p4), .val (.int p5), .val (.int (3 : Int32)), .val (.int cc1), .val (.int cc2), .val (.int cc3), .val (.int cc4), .val (.ref b50), .val (.int gt), .val (.int dg), .val (.int pt), .val (.int (1 : Int32)), .unset] [])
    refine Goes.of (fun _ => XS.iload X67.here hx rfl (hb hby at_368) rfl) ?_
    show Goes p e below _ T67 (mkF m 370 #[.val (.int p1), .val (.int p2), .val (.int p3), .val (.int p4), .val (.int p5), .val (.int (3 : Int32)), .val (.int cc1), .val (.int cc2), .val (.int cc3), .val (.int cc4), .val (.ref b50), .val (.int gt), .val (.int dg), .val (.int pt), .val (.int (1 : Int32)), .unset] [(.int (3 : Int32))])
    refine Goes.of (fun _ => XS.ifNo X67.here hx rfl (hb hby at_370) rfl ((if0 _ _).trans (tlt (by decide)).2.2.2)) ?_
    show Goes p e below _ T67 (mkF m 373 #[.val (.int p1), .val (.int p2), .val (.int p3), .val (.int p4), .val (.int p5), .val (.int (3 : Int32)), .val (.int cc1), .val (.int cc2), .val (.int cc3), .val (.int cc4), .val (.ref b50), .val (.int gt), .val (.int dg), .val (.int pt), .val (.int (1 : Int32)), .unset] [])
    refine Goes.of (fun _ => XS.iload X67.here hx rfl (hb hby at_373) rfl) ?_
    show Goes p e below _ T67 (mkF m 375 #[.val (.int p1), .val (.int p2), .val (.int p3), .val (.int p4), .val (.int p5), .val (.int (3 : Int32)), .val (.int cc1), .val (.int cc2), .val (.int cc3), .val (.int cc4), .val (.ref b50), .val (.int gt), .val (.int dg), .val (.int pt), .val (.int (1 : Int32)), .unset] [(.int cc1)])
    refine goStatic 0 X67 hx hZ hown (hw _ (List.mem_of_getElem? (i := 77) rfl)) (hw _ (List.mem_of_getElem? (i := 78) rfl)) (hw _ (List.mem_of_getElem? (i := 3) rfl)) (hw _ (List.mem_of_getElem? (i := 79) rfl)) (by decide) (rm_dig l Z a0 hw cc1 T55.heap n0 O0) eT67 (g := (mkF m 375 #[.val (.int p1), .val (.int p2), .val (.int p3), .val (.int p4), .val (.int p5), .val (.int (3 : Int32)), .val (.int cc1), .val (.int cc2), .val (.int cc3), .val (.int cc4), .val (.ref b50), .val (.int gt), .val (.int dg), .val (.int pt), .val (.int (1 : Int32)), .unset] [(.int cc1)])) rfl (by rw [hml]; rfl) [(.int cc1)] [] (lenOf pd__C_Z rfl) rfl rfl (by show 2 * 0 + _ ≤ _; exact Nat.le_of_eq rfl) (hb hby at_375) (by decide) (by decide) (by decide) (by decide) ?_
    intro v68 T68 L68 X68 q68
    obtain ⟨rfl, Nq68, eT68⟩ := q68
    have N68 := Fr.app N67 Nq68
    show Goes p e below _ T68 (mkF m 378 #[.val (.int p1), .val (.int p2), .val (.int p3), .val (.int p4), .val (.int p5), .val (.int (3 : Int32)), .val (.int cc1), .val (.int cc2), .val (.int cc3), .val (.int cc4), .val (.ref b50), .val (.int gt), .val (.int dg), .val (.int pt), .val (.int (1 : Int32)), .unset] [(.int (digS cc1))])
    refine Goes.of (T' := T68) (f' := (mkF m 405 #[.val (.int p1), .val (.int p2), .val (.int p3), .val (.int p4), .val (.int p5), .val (.int (3 : Int32)), .val (.int cc1), .val (.int cc2), .val (.int cc3), .val (.int cc4), .val (.ref b50), .val (.int gt), .val (.int dg), .val (.int pt), .val (.int (if (digS cc1) = (0 : Int32) then (if cc1 = (46 : Int32) then (1 : Int32) else (if cc1 = (43 : Int32) then (1 : Int32) else (if cc1 = (45 : Int32) then (1 : Int32) else (0 : Int32)))) else (1 : Int32))), .unset] [])) (fun t kt => ?_) ?_
    · show Steps p.tables e below (T68.setTop (mkF m 378 #[.val (.int p1), .val (.int p2), .val (.int p3), .val (.int p4), .val (.int p5), .val (.int (3 : Int32)), .val (.int cc1), .val (.int cc2), .val (.int cc3), .val (.int cc4), .val (.ref b50), .val (.int gt), .val (.int dg), .val (.int pt), .val (.int (1 : Int32)), .unset] [(.int (digS cc1))])) _
      by_cases hq378 : (digS cc1) = (0 : Int32)
      · simp only [if_pos hq378] at kt
        refine XS.ifNo X68.here hx rfl (hb hby at_378) rfl ((if0 _ _).trans (teq hq378).2) ?_
        show Steps p.tables e below (T68.setTop (mkF m 381 #[.val (.int p1), .val (.int p2), .val (.int p3), .val (.int p4), .val (.int p5), .val (.int (3 : Int32)), .val (.int cc1), .val (.int cc2), .val (.int cc3), .val (.int cc4), .val (.ref b50), .val (.int gt), .val (.int dg), .val (.int pt), .val (.int (1 : Int32)), .unset] [])) _
        refine XS.iload X68.here hx rfl (hb hby at_381) rfl ?_
        show Steps p.tables e below (T68.setTop (mkF m 383 #[.val (.int p1), .val (.int p2), .val (.int p3), .val (.int p4), .val (.int p5), .val (.int (3 : Int32)), .val (.int cc1), .val (.int cc2), .val (.int cc3), .val (.int cc4), .val (.ref b50), .val (.int gt), .val (.int dg), .val (.int pt), .val (.int (1 : Int32)), .unset] [(.int cc1)])) _
        refine XS.bipush X68.here hx rfl (hb hby at_383) ?_
        show Steps p.tables e below (T68.setTop (mkF m 385 #[.val (.int p1), .val (.int p2), .val (.int p3), .val (.int p4), .val (.int p5), .val (.int (3 : Int32)), .val (.int cc1), .val (.int cc2), .val (.int cc3), .val (.int cc4), .val (.ref b50), .val (.int gt), .val (.int dg), .val (.int pt), .val (.int (1 : Int32)), .unset] [(.int (46 : Int32)), (.int cc1)])) _
        by_cases hq385 : cc1 = (46 : Int32)
        · simp only [if_pos hq385] at kt
          refine XS.icmpYes X68.here hx rfl (pc0 := 385) (pc' := 405) rfl (hb hby at_385) rfl (teq hq385).1 (by decide) (by decide) ?_
          show Steps p.tables e below (T68.setTop (mkF m 405 #[.val (.int p1), .val (.int p2), .val (.int p3), .val (.int p4), .val (.int p5), .val (.int (3 : Int32)), .val (.int cc1), .val (.int cc2), .val (.int cc3), .val (.int cc4), .val (.ref b50), .val (.int gt), .val (.int dg), .val (.int pt), .val (.int (1 : Int32)), .unset] [])) _
          exact kt
        · simp only [if_neg hq385] at kt
          refine XS.icmpNo X68.here hx rfl (hb hby at_385) rfl (feq hq385).1 ?_
          show Steps p.tables e below (T68.setTop (mkF m 388 #[.val (.int p1), .val (.int p2), .val (.int p3), .val (.int p4), .val (.int p5), .val (.int (3 : Int32)), .val (.int cc1), .val (.int cc2), .val (.int cc3), .val (.int cc4), .val (.ref b50), .val (.int gt), .val (.int dg), .val (.int pt), .val (.int (1 : Int32)), .unset] [])) _
          refine XS.iload X68.here hx rfl (hb hby at_388) rfl ?_
          show Steps p.tables e below (T68.setTop (mkF m 390 #[.val (.int p1), .val (.int p2), .val (.int p3), .val (.int p4), .val (.int p5), .val (.int (3 : Int32)), .val (.int cc1), .val (.int cc2), .val (.int cc3), .val (.int cc4), .val (.ref b50), .val (.int gt), .val (.int dg), .val (.int pt), .val (.int (1 : Int32)), .unset] [(.int cc1)])) _
          refine XS.bipush X68.here hx rfl (hb hby at_390) ?_
          show Steps p.tables e below (T68.setTop (mkF m 392 #[.val (.int p1), .val (.int p2), .val (.int p3), .val (.int p4), .val (.int p5), .val (.int (3 : Int32)), .val (.int cc1), .val (.int cc2), .val (.int cc3), .val (.int cc4), .val (.ref b50), .val (.int gt), .val (.int dg), .val (.int pt), .val (.int (1 : Int32)), .unset] [(.int (43 : Int32)), (.int cc1)])) _
          by_cases hq392 : cc1 = (43 : Int32)
          · simp only [if_pos hq392] at kt
            refine XS.icmpYes X68.here hx rfl (pc0 := 392) (pc' := 405) rfl (hb hby at_392) rfl (teq hq392).1 (by decide) (by decide) ?_
            show Steps p.tables e below (T68.setTop (mkF m 405 #[.val (.int p1), .val (.int p2), .val (.int p3), .val (.int p4), .val (.int p5), .val (.int (3 : Int32)), .val (.int cc1), .val (.int cc2), .val (.int cc3), .val (.int cc4), .val (.ref b50), .val (.int gt), .val (.int dg), .val (.int pt), .val (.int (1 : Int32)), .unset] [])) _
            exact kt
          · simp only [if_neg hq392] at kt
            refine XS.icmpNo X68.here hx rfl (hb hby at_392) rfl (feq hq392).1 ?_
            show Steps p.tables e below (T68.setTop (mkF m 395 #[.val (.int p1), .val (.int p2), .val (.int p3), .val (.int p4), .val (.int p5), .val (.int (3 : Int32)), .val (.int cc1), .val (.int cc2), .val (.int cc3), .val (.int cc4), .val (.ref b50), .val (.int gt), .val (.int dg), .val (.int pt), .val (.int (1 : Int32)), .unset] [])) _
            refine XS.iload X68.here hx rfl (hb hby at_395) rfl ?_
            show Steps p.tables e below (T68.setTop (mkF m 397 #[.val (.int p1), .val (.int p2), .val (.int p3), .val (.int p4), .val (.int p5), .val (.int (3 : Int32)), .val (.int cc1), .val (.int cc2), .val (.int cc3), .val (.int cc4), .val (.ref b50), .val (.int gt), .val (.int dg), .val (.int pt), .val (.int (1 : Int32)), .unset] [(.int cc1)])) _
            refine XS.bipush X68.here hx rfl (hb hby at_397) ?_
            show Steps p.tables e below (T68.setTop (mkF m 399 #[.val (.int p1), .val (.int p2), .val (.int p3), .val (.int p4), .val (.int p5), .val (.int (3 : Int32)), .val (.int cc1), .val (.int cc2), .val (.int cc3), .val (.int cc4), .val (.ref b50), .val (.int gt), .val (.int dg), .val (.int pt), .val (.int (1 : Int32)), .unset] [(.int (45 : Int32)), (.int cc1)])) _
            by_cases hq399 : cc1 = (45 : Int32)
            · simp only [if_pos hq399] at kt
              refine XS.icmpYes X68.here hx rfl (pc0 := 399) (pc' := 405) rfl (hb hby at_399) rfl (teq hq399).1 (by decide) (by decide) ?_
              show Steps p.tables e below (T68.setTop (mkF m 405 #[.val (.int p1), .val (.int p2), .val (.int p3), .val (.int p4), .val (.int p5), .val (.int (3 : Int32)), .val (.int cc1), .val (.int cc2), .val (.int cc3), .val (.int cc4), .val (.ref b50), .val (.int gt), .val (.int dg), .val (.int pt), .val (.int (1 : Int32)), .unset] [])) _
              exact kt
            · simp only [if_neg hq399] at kt
              refine XS.icmpNo X68.here hx rfl (hb hby at_399) rfl (feq hq399).1 ?_
              show Steps p.tables e below (T68.setTop (mkF m 402 #[.val (.int p1), .val (.int p2), .val (.int p3), .val (.int p4), .val (.int p5), .val (.int (3 : Int32)), .val (.int cc1), .val (.int cc2), .val (.int cc3), .val (.int cc4), .val (.ref b50), .val (.int gt), .val (.int dg), .val (.int pt), .val (.int (1 : Int32)), .unset] [])) _
              refine XS.iconst X68.here hx rfl (hb hby at_402) ?_
              show Steps p.tables e below (T68.setTop (mkF m 403 #[.val (.int p1), .val (.int p2), .val (.int p3), .val (.int p4), .val (.int p5), .val (.int (3 : Int32)), .val (.int cc1), .val (.int cc2), .val (.int cc3), .val (.int cc4), .val (.ref b50), .val (.int gt), .val (.int dg), .val (.int pt), .val (.int (1 : Int32)), .unset] [(.int (0 : Int32))])) _
              refine XS.istore X68.here hx rfl (hb hby at_403) rfl (l' := #[.val (.int p1), .val (.int p2), .val (.int p3), .val (.int p4), .val (.int p5), .val (.int (3 : Int32)), .val (.int cc1), .val (.int cc2), .val (.int cc3), .val (.int cc4), .val (.ref b50), .val (.int gt), .val (.int dg), .val (.int pt), .val (.int (0 : Int32)), .unset]) rfl ?_
              show Steps p.tables e below (T68.setTop (mkF m 405 #[.val (.int p1), .val (.int p2), .val (.int p3), .val (.int p4), .val (.int p5), .val (.int (3 : Int32)), .val (.int cc1), .val (.int cc2), .val (.int cc3), .val (.int cc4), .val (.ref b50), .val (.int gt), .val (.int dg), .val (.int pt), .val (.int (0 : Int32)), .unset] [])) _
              exact kt
      · simp only [if_neg hq378] at kt
        refine XS.ifYes X68.here hx rfl (pc0 := 378) (pc' := 405) rfl (hb hby at_378) rfl ((if0 _ _).trans (feq hq378).2) (by decide) (by decide) ?_
        show Steps p.tables e below (T68.setTop (mkF m 405 #[.val (.int p1), .val (.int p2), .val (.int p3), .val (.int p4), .val (.int p5), .val (.int (3 : Int32)), .val (.int cc1), .val (.int cc2), .val (.int cc3), .val (.int cc4), .val (.ref b50), .val (.int gt), .val (.int dg), .val (.int pt), .val (.int (1 : Int32)), .unset] [])) _
        exact kt
    show Goes p e below _ T68 (mkF m 405 #[.val (.int p1), .val (.int p2), .val (.int p3), .val (.int p4), .val (.int p5), .val (.int (3 : Int32)), .val (.int cc1), .val (.int cc2), .val (.int cc3), .val (.int cc4), .val (.ref b50), .val (.int gt), .val (.int dg), .val (.int pt), .val (.int (if (digS cc1) = (0 : Int32) then (if cc1 = (46 : Int32) then (1 : Int32) else (if cc1 = (43 : Int32) then (1 : Int32) else (if cc1 = (45 : Int32) then (1 : Int32) else (0 : Int32)))) else (1 : Int32))), .unset] [])
    generalize es1 : (if (digS cc1) = (0 : Int32) then (if cc1 = (46 : Int32) then (1 : Int32) else (if cc1 = (43 : Int32) then (1 : Int32) else (if cc1 = (45 : Int32) then (1 : Int32) else (0 : Int32)))) else (1 : Int32)) = s1
    show Goes p e below _ T68 (mkF m 405 #[.val (.int p1), .val (.int p2), .val (.int p3), .val (.int p4), .val (.int p5), .val (.int (3 : Int32)), .val (.int cc1), .val (.int cc2), .val (.int cc3), .val (.int cc4), .val (.ref b50), .val (.int gt), .val (.int dg), .val (.int pt), .val (.int s1), .unset] [])
    refine Goes.of (fun _ => XS.iload X68.here hx rfl (hb hby at_405) rfl) ?_
    show Goes p e below _ T68 (mkF m 407 #[.val (.int p1), .val (.int p2), .val (.int p3), .val (.int p4), .val (.int p5), .val (.int (3 : Int32)), .val (.int cc1), .val (.int cc2), .val (.int cc3), .val (.int cc4), .val (.ref b50), .val (.int gt), .val (.int dg), .val (.int pt), .val (.int s1), .unset] [(.int (3 : Int32))])
    refine Goes.of (fun _ => XS.iconst X68.here hx rfl (hb hby at_407)) ?_
    show Goes p e below _ T68 (mkF m 408 #[.val (.int p1), .val (.int p2), .val (.int p3), .val (.int p4), .val (.int p5), .val (.int (3 : Int32)), .val (.int cc1), .val (.int cc2), .val (.int cc3), .val (.int cc4), .val (.ref b50), .val (.int gt), .val (.int dg), .val (.int pt), .val (.int s1), .unset] [(.int (1 : Int32)), (.int (3 : Int32))])
    refine Goes.of (fun _ => XS.icmpNo X68.here hx rfl (hb hby at_408) rfl (tlt (by decide)).2.2.2) ?_
    show Goes p e below _ T68 (mkF m 411 #[.val (.int p1), .val (.int p2), .val (.int p3), .val (.int p4), .val (.int p5), .val (.int (3 : Int32)), .val (.int cc1), .val (.int cc2), .val (.int cc3), .val (.int cc4), .val (.ref b50), .val (.int gt), .val (.int dg), .val (.int pt), .val (.int s1), .unset] [])
    refine Goes.of (fun _ => XS.iload X68.here hx rfl (hb hby at_411) rfl) ?_
    show Goes p e below _ T68 (mkF m 413 #[.val (.int p1), .val (.int p2), .val (.int p3), .val (.int p4), .val (.int p5), .val (.int (3 : Int32)), .val (.int cc1), .val (.int cc2), .val (.int cc3), .val (.int cc4), .val (.ref b50), .val (.int gt), .val (.int dg), .val (.int pt), .val (.int s1), .unset] [(.int cc2)])
    refine goStatic 0 X68 hx hZ hown (hw _ (List.mem_of_getElem? (i := 80) rfl)) (hw _ (List.mem_of_getElem? (i := 81) rfl)) (hw _ (List.mem_of_getElem? (i := 3) rfl)) (hw _ (List.mem_of_getElem? (i := 82) rfl)) (by decide) (rm_body l Z a0 hw cc2 T55.heap n0 O0) eT68 (g := (mkF m 413 #[.val (.int p1), .val (.int p2), .val (.int p3), .val (.int p4), .val (.int p5), .val (.int (3 : Int32)), .val (.int cc1), .val (.int cc2), .val (.int cc3), .val (.int cc4), .val (.ref b50), .val (.int gt), .val (.int dg), .val (.int pt), .val (.int s1), .unset] [(.int cc2)])) rfl (by rw [hml]; rfl) [(.int cc2)] [] (lenOf pd__C_Z rfl) rfl rfl (by show 2 * 0 + _ ≤ _; exact Nat.le_of_eq rfl) (hb hby at_413) (by decide) (by decide) (by decide) (by decide) ?_
    intro v69 T69 L69 X69 q69
    obtain ⟨rfl, Nq69, eT69⟩ := q69
    have N69 := Fr.app N68 Nq69
    show Goes p e below _ T69 (mkF m 416 #[.val (.int p1), .val (.int p2), .val (.int p3), .val (.int p4), .val (.int p5), .val (.int (3 : Int32)), .val (.int cc1), .val (.int cc2), .val (.int cc3), .val (.int cc4), .val (.ref b50), .val (.int gt), .val (.int dg), .val (.int pt), .val (.int s1), .unset] [(.int (bodyS cc2))])
    refine Goes.of (T' := T69) (f' := (mkF m 422 #[.val (.int p1), .val (.int p2), .val (.int p3), .val (.int p4), .val (.int p5), .val (.int (3 : Int32)), .val (.int cc1), .val (.int cc2), .val (.int cc3), .val (.int cc4), .val (.ref b50), .val (.int gt), .val (.int dg), .val (.int pt), .val (.int (if (bodyS cc2) = (0 : Int32) then (0 : Int32) else s1)), .unset] [])) (fun t kt => ?_) ?_
    · show Steps p.tables e below (T69.setTop (mkF m 416 #[.val (.int p1), .val (.int p2), .val (.int p3), .val (.int p4), .val (.int p5), .val (.int (3 : Int32)), .val (.int cc1), .val (.int cc2), .val (.int cc3), .val (.int cc4), .val (.ref b50), .val (.int gt), .val (.int dg), .val (.int pt), .val (.int s1), .unset] [(.int (bodyS cc2))])) _
      by_cases hq416 : (bodyS cc2) = (0 : Int32)
      · simp only [if_pos hq416] at kt
        refine XS.ifNo X69.here hx rfl (hb hby at_416) rfl ((if0 _ _).trans (teq hq416).2) ?_
        show Steps p.tables e below (T69.setTop (mkF m 419 #[.val (.int p1), .val (.int p2), .val (.int p3), .val (.int p4), .val (.int p5), .val (.int (3 : Int32)), .val (.int cc1), .val (.int cc2), .val (.int cc3), .val (.int cc4), .val (.ref b50), .val (.int gt), .val (.int dg), .val (.int pt), .val (.int s1), .unset] [])) _
        refine XS.iconst X69.here hx rfl (hb hby at_419) ?_
        show Steps p.tables e below (T69.setTop (mkF m 420 #[.val (.int p1), .val (.int p2), .val (.int p3), .val (.int p4), .val (.int p5), .val (.int (3 : Int32)), .val (.int cc1), .val (.int cc2), .val (.int cc3), .val (.int cc4), .val (.ref b50), .val (.int gt), .val (.int dg), .val (.int pt), .val (.int s1), .unset] [(.int (0 : Int32))])) _
        refine XS.istore X69.here hx rfl (hb hby at_420) rfl (l' := #[.val (.int p1), .val (.int p2), .val (.int p3), .val (.int p4), .val (.int p5), .val (.int (3 : Int32)), .val (.int cc1), .val (.int cc2), .val (.int cc3), .val (.int cc4), .val (.ref b50), .val (.int gt), .val (.int dg), .val (.int pt), .val (.int (0 : Int32)), .unset]) rfl ?_
        show Steps p.tables e below (T69.setTop (mkF m 422 #[.val (.int p1), .val (.int p2), .val (.int p3), .val (.int p4), .val (.int p5), .val (.int (3 : Int32)), .val (.int cc1), .val (.int cc2), .val (.int cc3), .val (.int cc4), .val (.ref b50), .val (.int gt), .val (.int dg), .val (.int pt), .val (.int (0 : Int32)), .unset] [])) _
        exact kt
      · simp only [if_neg hq416] at kt
        refine XS.ifYes X69.here hx rfl (pc0 := 416) (pc' := 422) rfl (hb hby at_416) rfl ((if0 _ _).trans (feq hq416).2) (by decide) (by decide) ?_
        show Steps p.tables e below (T69.setTop (mkF m 422 #[.val (.int p1), .val (.int p2), .val (.int p3), .val (.int p4), .val (.int p5), .val (.int (3 : Int32)), .val (.int cc1), .val (.int cc2), .val (.int cc3), .val (.int cc4), .val (.ref b50), .val (.int gt), .val (.int dg), .val (.int pt), .val (.int s1), .unset] [])) _
        exact kt
    show Goes p e below _ T69 (mkF m 422 #[.val (.int p1), .val (.int p2), .val (.int p3), .val (.int p4), .val (.int p5), .val (.int (3 : Int32)), .val (.int cc1), .val (.int cc2), .val (.int cc3), .val (.int cc4), .val (.ref b50), .val (.int gt), .val (.int dg), .val (.int pt), .val (.int (if (bodyS cc2) = (0 : Int32) then (0 : Int32) else s1)), .unset] [])
    generalize es2 : (if (bodyS cc2) = (0 : Int32) then (0 : Int32) else s1) = s2
    show Goes p e below _ T69 (mkF m 422 #[.val (.int p1), .val (.int p2), .val (.int p3), .val (.int p4), .val (.int p5), .val (.int (3 : Int32)), .val (.int cc1), .val (.int cc2), .val (.int cc3), .val (.int cc4), .val (.ref b50), .val (.int gt), .val (.int dg), .val (.int pt), .val (.int s2), .unset] [])
    refine Goes.of (fun _ => XS.iload X69.here hx rfl (hb hby at_422) rfl) ?_
    show Goes p e below _ T69 (mkF m 424 #[.val (.int p1), .val (.int p2), .val (.int p3), .val (.int p4), .val (.int p5), .val (.int (3 : Int32)), .val (.int cc1), .val (.int cc2), .val (.int cc3), .val (.int cc4), .val (.ref b50), .val (.int gt), .val (.int dg), .val (.int pt), .val (.int s2), .unset] [(.int (3 : Int32))])
    refine Goes.of (fun _ => XS.iconst X69.here hx rfl (hb hby at_424)) ?_
    show Goes p e below _ T69 (mkF m 425 #[.val (.int p1), .val (.int p2), .val (.int p3), .val (.int p4), .val (.int p5), .val (.int (3 : Int32)), .val (.int cc1), .val (.int cc2), .val (.int cc3), .val (.int cc4), .val (.ref b50), .val (.int gt), .val (.int dg), .val (.int pt), .val (.int s2), .unset] [(.int (2 : Int32)), (.int (3 : Int32))])
    refine Goes.of (fun _ => XS.icmpNo X69.here hx rfl (hb hby at_425) rfl (tlt (by decide)).2.2.2) ?_
    show Goes p e below _ T69 (mkF m 428 #[.val (.int p1), .val (.int p2), .val (.int p3), .val (.int p4), .val (.int p5), .val (.int (3 : Int32)), .val (.int cc1), .val (.int cc2), .val (.int cc3), .val (.int cc4), .val (.ref b50), .val (.int gt), .val (.int dg), .val (.int pt), .val (.int s2), .unset] [])
    refine Goes.of (fun _ => XS.iload X69.here hx rfl (hb hby at_428) rfl) ?_
    show Goes p e below _ T69 (mkF m 430 #[.val (.int p1), .val (.int p2), .val (.int p3), .val (.int p4), .val (.int p5), .val (.int (3 : Int32)), .val (.int cc1), .val (.int cc2), .val (.int cc3), .val (.int cc4), .val (.ref b50), .val (.int gt), .val (.int dg), .val (.int pt), .val (.int s2), .unset] [(.int cc3)])
    refine goStatic 0 X69 hx hZ hown (hw _ (List.mem_of_getElem? (i := 80) rfl)) (hw _ (List.mem_of_getElem? (i := 81) rfl)) (hw _ (List.mem_of_getElem? (i := 3) rfl)) (hw _ (List.mem_of_getElem? (i := 82) rfl)) (by decide) (rm_body l Z a0 hw cc3 T55.heap n0 O0) eT69 (g := (mkF m 430 #[.val (.int p1), .val (.int p2), .val (.int p3), .val (.int p4), .val (.int p5), .val (.int (3 : Int32)), .val (.int cc1), .val (.int cc2), .val (.int cc3), .val (.int cc4), .val (.ref b50), .val (.int gt), .val (.int dg), .val (.int pt), .val (.int s2), .unset] [(.int cc3)])) rfl (by rw [hml]; rfl) [(.int cc3)] [] (lenOf pd__C_Z rfl) rfl rfl (by show 2 * 0 + _ ≤ _; exact Nat.le_of_eq rfl) (hb hby at_430) (by decide) (by decide) (by decide) (by decide) ?_
    intro v70 T70 L70 X70 q70
    obtain ⟨rfl, Nq70, eT70⟩ := q70
    have N70 := Fr.app N69 Nq70
    show Goes p e below _ T70 (mkF m 433 #[.val (.int p1), .val (.int p2), .val (.int p3), .val (.int p4), .val (.int p5), .val (.int (3 : Int32)), .val (.int cc1), .val (.int cc2), .val (.int cc3), .val (.int cc4), .val (.ref b50), .val (.int gt), .val (.int dg), .val (.int pt), .val (.int s2), .unset] [(.int (bodyS cc3))])
    refine Goes.of (T' := T70) (f' := (mkF m 439 #[.val (.int p1), .val (.int p2), .val (.int p3), .val (.int p4), .val (.int p5), .val (.int (3 : Int32)), .val (.int cc1), .val (.int cc2), .val (.int cc3), .val (.int cc4), .val (.ref b50), .val (.int gt), .val (.int dg), .val (.int pt), .val (.int (if (bodyS cc3) = (0 : Int32) then (0 : Int32) else s2)), .unset] [])) (fun t kt => ?_) ?_
    · show Steps p.tables e below (T70.setTop (mkF m 433 #[.val (.int p1), .val (.int p2), .val (.int p3), .val (.int p4), .val (.int p5), .val (.int (3 : Int32)), .val (.int cc1), .val (.int cc2), .val (.int cc3), .val (.int cc4), .val (.ref b50), .val (.int gt), .val (.int dg), .val (.int pt), .val (.int s2), .unset] [(.int (bodyS cc3))])) _
      by_cases hq433 : (bodyS cc3) = (0 : Int32)
      · simp only [if_pos hq433] at kt
        refine XS.ifNo X70.here hx rfl (hb hby at_433) rfl ((if0 _ _).trans (teq hq433).2) ?_
        show Steps p.tables e below (T70.setTop (mkF m 436 #[.val (.int p1), .val (.int p2), .val (.int p3), .val (.int p4), .val (.int p5), .val (.int (3 : Int32)), .val (.int cc1), .val (.int cc2), .val (.int cc3), .val (.int cc4), .val (.ref b50), .val (.int gt), .val (.int dg), .val (.int pt), .val (.int s2), .unset] [])) _
        refine XS.iconst X70.here hx rfl (hb hby at_436) ?_
        show Steps p.tables e below (T70.setTop (mkF m 437 #[.val (.int p1), .val (.int p2), .val (.int p3), .val (.int p4), .val (.int p5), .val (.int (3 : Int32)), .val (.int cc1), .val (.int cc2), .val (.int cc3), .val (.int cc4), .val (.ref b50), .val (.int gt), .val (.int dg), .val (.int pt), .val (.int s2), .unset] [(.int (0 : Int32))])) _
        refine XS.istore X70.here hx rfl (hb hby at_437) rfl (l' := #[.val (.int p1), .val (.int p2), .val (.int p3), .val (.int p4), .val (.int p5), .val (.int (3 : Int32)), .val (.int cc1), .val (.int cc2), .val (.int cc3), .val (.int cc4), .val (.ref b50), .val (.int gt), .val (.int dg), .val (.int pt), .val (.int (0 : Int32)), .unset]) rfl ?_
        show Steps p.tables e below (T70.setTop (mkF m 439 #[.val (.int p1), .val (.int p2), .val (.int p3), .val (.int p4), .val (.int p5), .val (.int (3 : Int32)), .val (.int cc1), .val (.int cc2), .val (.int cc3), .val (.int cc4), .val (.ref b50), .val (.int gt), .val (.int dg), .val (.int pt), .val (.int (0 : Int32)), .unset] [])) _
        exact kt
      · simp only [if_neg hq433] at kt
        refine XS.ifYes X70.here hx rfl (pc0 := 433) (pc' := 439) rfl (hb hby at_433) rfl ((if0 _ _).trans (feq hq433).2) (by decide) (by decide) ?_
        show Steps p.tables e below (T70.setTop (mkF m 439 #[.val (.int p1), .val (.int p2), .val (.int p3), .val (.int p4), .val (.int p5), .val (.int (3 : Int32)), .val (.int cc1), .val (.int cc2), .val (.int cc3), .val (.int cc4), .val (.ref b50), .val (.int gt), .val (.int dg), .val (.int pt), .val (.int s2), .unset] [])) _
        exact kt
    show Goes p e below _ T70 (mkF m 439 #[.val (.int p1), .val (.int p2), .val (.int p3), .val (.int p4), .val (.int p5), .val (.int (3 : Int32)), .val (.int cc1), .val (.int cc2), .val (.int cc3), .val (.int cc4), .val (.ref b50), .val (.int gt), .val (.int dg), .val (.int pt), .val (.int (if (bodyS cc3) = (0 : Int32) then (0 : Int32) else s2)), .unset] [])
    generalize es3 : (if (bodyS cc3) = (0 : Int32) then (0 : Int32) else s2) = s3
    show Goes p e below _ T70 (mkF m 439 #[.val (.int p1), .val (.int p2), .val (.int p3), .val (.int p4), .val (.int p5), .val (.int (3 : Int32)), .val (.int cc1), .val (.int cc2), .val (.int cc3), .val (.int cc4), .val (.ref b50), .val (.int gt), .val (.int dg), .val (.int pt), .val (.int s3), .unset] [])
    refine Goes.of (fun _ => XS.iload X70.here hx rfl (hb hby at_439) rfl) ?_
    show Goes p e below _ T70 (mkF m 441 #[.val (.int p1), .val (.int p2), .val (.int p3), .val (.int p4), .val (.int p5), .val (.int (3 : Int32)), .val (.int cc1), .val (.int cc2), .val (.int cc3), .val (.int cc4), .val (.ref b50), .val (.int gt), .val (.int dg), .val (.int pt), .val (.int s3), .unset] [(.int (3 : Int32))])
    refine Goes.of (fun _ => XS.iconst X70.here hx rfl (hb hby at_441)) ?_
    show Goes p e below _ T70 (mkF m 442 #[.val (.int p1), .val (.int p2), .val (.int p3), .val (.int p4), .val (.int p5), .val (.int (3 : Int32)), .val (.int cc1), .val (.int cc2), .val (.int cc3), .val (.int cc4), .val (.ref b50), .val (.int gt), .val (.int dg), .val (.int pt), .val (.int s3), .unset] [(.int (3 : Int32)), (.int (3 : Int32))])
    refine Goes.of (fun _ => XS.icmpYes X70.here hx rfl (pc0 := 442) (pc' := 456) rfl (hb hby at_442) rfl (flt (by decide)).2.2.2 (by decide) (by decide)) ?_
    show Goes p e below _ T70 (mkF m 456 #[.val (.int p1), .val (.int p2), .val (.int p3), .val (.int p4), .val (.int p5), .val (.int (3 : Int32)), .val (.int cc1), .val (.int cc2), .val (.int cc3), .val (.int cc4), .val (.ref b50), .val (.int gt), .val (.int dg), .val (.int pt), .val (.int s3), .unset] [])
    refine Goes.of (fun _ => XS.iload X70.here hx rfl (hb hby at_456) rfl) ?_
    show Goes p e below _ T70 (mkF m 458 #[.val (.int p1), .val (.int p2), .val (.int p3), .val (.int p4), .val (.int p5), .val (.int (3 : Int32)), .val (.int cc1), .val (.int cc2), .val (.int cc3), .val (.int cc4), .val (.ref b50), .val (.int gt), .val (.int dg), .val (.int pt), .val (.int s3), .unset] [(.int s3)])
    refine Goes.of (T' := T70) (f' := (mkF m 477 #[.val (.int p1), .val (.int p2), .val (.int p3), .val (.int p4), .val (.int p5), .val (.int (3 : Int32)), .val (.int cc1), .val (.int cc2), .val (.int cc3), .val (.int cc4), .val (.ref b50), .val (.int gt), .val (.int dg), .val (.int pt), .val (.int s3), .unset] [(.int (if s3 = (0 : Int32) then (0 : Int32) else (if (0 : Int32) < dg then (if (1 : Int32) < pt then (0 : Int32) else (1 : Int32)) else (0 : Int32))))])) (fun t kt => ?_) ?_
    · show Steps p.tables e below (T70.setTop (mkF m 458 #[.val (.int p1), .val (.int p2), .val (.int p3), .val (.int p4), .val (.int p5), .val (.int (3 : Int32)), .val (.int cc1), .val (.int cc2), .val (.int cc3), .val (.int cc4), .val (.ref b50), .val (.int gt), .val (.int dg), .val (.int pt), .val (.int s3), .unset] [(.int s3)])) _
      by_cases hq458 : s3 = (0 : Int32)
      · simp only [if_pos hq458] at kt
        refine XS.ifYes X70.here hx rfl (pc0 := 458) (pc' := 476) rfl (hb hby at_458) rfl ((if0 _ _).trans (teq hq458).1) (by decide) (by decide) ?_
        show Steps p.tables e below (T70.setTop (mkF m 476 #[.val (.int p1), .val (.int p2), .val (.int p3), .val (.int p4), .val (.int p5), .val (.int (3 : Int32)), .val (.int cc1), .val (.int cc2), .val (.int cc3), .val (.int cc4), .val (.ref b50), .val (.int gt), .val (.int dg), .val (.int pt), .val (.int s3), .unset] [])) _
        refine XS.iconst X70.here hx rfl (hb hby at_476) ?_
        show Steps p.tables e below (T70.setTop (mkF m 477 #[.val (.int p1), .val (.int p2), .val (.int p3), .val (.int p4), .val (.int p5), .val (.int (3 : Int32)), .val (.int cc1), .val (.int cc2), .val (.int cc3), .val (.int cc4), .val (.ref b50), .val (.int gt), .val (.int dg), .val (.int pt), .val (.int s3), .unset] [(.int (0 : Int32))])) _
        exact kt
      · simp only [if_neg hq458] at kt
        refine XS.ifNo X70.here hx rfl (hb hby at_458) rfl ((if0 _ _).trans (feq hq458).1) ?_
        show Steps p.tables e below (T70.setTop (mkF m 461 #[.val (.int p1), .val (.int p2), .val (.int p3), .val (.int p4), .val (.int p5), .val (.int (3 : Int32)), .val (.int cc1), .val (.int cc2), .val (.int cc3), .val (.int cc4), .val (.ref b50), .val (.int gt), .val (.int dg), .val (.int pt), .val (.int s3), .unset] [])) _
        refine XS.iload X70.here hx rfl (hb hby at_461) rfl ?_
        show Steps p.tables e below (T70.setTop (mkF m 463 #[.val (.int p1), .val (.int p2), .val (.int p3), .val (.int p4), .val (.int p5), .val (.int (3 : Int32)), .val (.int cc1), .val (.int cc2), .val (.int cc3), .val (.int cc4), .val (.ref b50), .val (.int gt), .val (.int dg), .val (.int pt), .val (.int s3), .unset] [(.int dg)])) _
        by_cases hq463 : (0 : Int32) < dg
        · simp only [if_pos hq463] at kt
          refine XS.ifNo X70.here hx rfl (hb hby at_463) rfl ((if0 _ _).trans (tlt hq463).2.2.2) ?_
          show Steps p.tables e below (T70.setTop (mkF m 466 #[.val (.int p1), .val (.int p2), .val (.int p3), .val (.int p4), .val (.int p5), .val (.int (3 : Int32)), .val (.int cc1), .val (.int cc2), .val (.int cc3), .val (.int cc4), .val (.ref b50), .val (.int gt), .val (.int dg), .val (.int pt), .val (.int s3), .unset] [])) _
          refine XS.iload X70.here hx rfl (hb hby at_466) rfl ?_
          show Steps p.tables e below (T70.setTop (mkF m 468 #[.val (.int p1), .val (.int p2), .val (.int p3), .val (.int p4), .val (.int p5), .val (.int (3 : Int32)), .val (.int cc1), .val (.int cc2), .val (.int cc3), .val (.int cc4), .val (.ref b50), .val (.int gt), .val (.int dg), .val (.int pt), .val (.int s3), .unset] [(.int pt)])) _
          refine XS.iconst X70.here hx rfl (hb hby at_468) ?_
          show Steps p.tables e below (T70.setTop (mkF m 469 #[.val (.int p1), .val (.int p2), .val (.int p3), .val (.int p4), .val (.int p5), .val (.int (3 : Int32)), .val (.int cc1), .val (.int cc2), .val (.int cc3), .val (.int cc4), .val (.ref b50), .val (.int gt), .val (.int dg), .val (.int pt), .val (.int s3), .unset] [(.int (1 : Int32)), (.int pt)])) _
          by_cases hq469 : (1 : Int32) < pt
          · simp only [if_pos hq469] at kt
            refine XS.icmpYes X70.here hx rfl (pc0 := 469) (pc' := 476) rfl (hb hby at_469) rfl (tlt hq469).2.2.1 (by decide) (by decide) ?_
            show Steps p.tables e below (T70.setTop (mkF m 476 #[.val (.int p1), .val (.int p2), .val (.int p3), .val (.int p4), .val (.int p5), .val (.int (3 : Int32)), .val (.int cc1), .val (.int cc2), .val (.int cc3), .val (.int cc4), .val (.ref b50), .val (.int gt), .val (.int dg), .val (.int pt), .val (.int s3), .unset] [])) _
            refine XS.iconst X70.here hx rfl (hb hby at_476) ?_
            show Steps p.tables e below (T70.setTop (mkF m 477 #[.val (.int p1), .val (.int p2), .val (.int p3), .val (.int p4), .val (.int p5), .val (.int (3 : Int32)), .val (.int cc1), .val (.int cc2), .val (.int cc3), .val (.int cc4), .val (.ref b50), .val (.int gt), .val (.int dg), .val (.int pt), .val (.int s3), .unset] [(.int (0 : Int32))])) _
            exact kt
          · simp only [if_neg hq469] at kt
            refine XS.icmpNo X70.here hx rfl (hb hby at_469) rfl (flt hq469).2.2.1 ?_
            show Steps p.tables e below (T70.setTop (mkF m 472 #[.val (.int p1), .val (.int p2), .val (.int p3), .val (.int p4), .val (.int p5), .val (.int (3 : Int32)), .val (.int cc1), .val (.int cc2), .val (.int cc3), .val (.int cc4), .val (.ref b50), .val (.int gt), .val (.int dg), .val (.int pt), .val (.int s3), .unset] [])) _
            refine XS.iconst X70.here hx rfl (hb hby at_472) ?_
            show Steps p.tables e below (T70.setTop (mkF m 473 #[.val (.int p1), .val (.int p2), .val (.int p3), .val (.int p4), .val (.int p5), .val (.int (3 : Int32)), .val (.int cc1), .val (.int cc2), .val (.int cc3), .val (.int cc4), .val (.ref b50), .val (.int gt), .val (.int dg), .val (.int pt), .val (.int s3), .unset] [(.int (1 : Int32))])) _
            refine XS.goto X70.here hx rfl (pc0 := 473) (pc' := 477) rfl (hb hby at_473) (by decide) (by decide) ?_
            show Steps p.tables e below (T70.setTop (mkF m 477 #[.val (.int p1), .val (.int p2), .val (.int p3), .val (.int p4), .val (.int p5), .val (.int (3 : Int32)), .val (.int cc1), .val (.int cc2), .val (.int cc3), .val (.int cc4), .val (.ref b50), .val (.int gt), .val (.int dg), .val (.int pt), .val (.int s3), .unset] [(.int (1 : Int32))])) _
            exact kt
        · simp only [if_neg hq463] at kt
          refine XS.ifYes X70.here hx rfl (pc0 := 463) (pc' := 476) rfl (hb hby at_463) rfl ((if0 _ _).trans (flt hq463).2.2.2) (by decide) (by decide) ?_
          show Steps p.tables e below (T70.setTop (mkF m 476 #[.val (.int p1), .val (.int p2), .val (.int p3), .val (.int p4), .val (.int p5), .val (.int (3 : Int32)), .val (.int cc1), .val (.int cc2), .val (.int cc3), .val (.int cc4), .val (.ref b50), .val (.int gt), .val (.int dg), .val (.int pt), .val (.int s3), .unset] [])) _
          refine XS.iconst X70.here hx rfl (hb hby at_476) ?_
          show Steps p.tables e below (T70.setTop (mkF m 477 #[.val (.int p1), .val (.int p2), .val (.int p3), .val (.int p4), .val (.int p5), .val (.int (3 : Int32)), .val (.int cc1), .val (.int cc2), .val (.int cc3), .val (.int cc4), .val (.ref b50), .val (.int gt), .val (.int dg), .val (.int pt), .val (.int s3), .unset] [(.int (0 : Int32))])) _
          exact kt
    show Goes p e below _ T70 (mkF m 477 #[.val (.int p1), .val (.int p2), .val (.int p3), .val (.int p4), .val (.int p5), .val (.int (3 : Int32)), .val (.int cc1), .val (.int cc2), .val (.int cc3), .val (.int cc4), .val (.ref b50), .val (.int gt), .val (.int dg), .val (.int pt), .val (.int s3), .unset] [(.int (if s3 = (0 : Int32) then (0 : Int32) else (if (0 : Int32) < dg then (if (1 : Int32) < pt then (0 : Int32) else (1 : Int32)) else (0 : Int32))))])
    refine Goes.of (fun _ => XS.istore X70.here hx rfl (hb hby at_477) rfl (l' := #[.val (.int p1), .val (.int p2), .val (.int p3), .val (.int p4), .val (.int p5), .val (.int (3 : Int32)), .val (.int cc1), .val (.int cc2), .val (.int cc3), .val (.int cc4), .val (.ref b50), .val (.int gt), .val (.int dg), .val (.int pt), .val (.int s3), .val (.int (if s3 = (0 : Int32) then (0 : Int32) else (if (0 : Int32) < dg then (if (1 : Int32) < pt then (0 : Int32) else (1 : Int32)) else (0 : Int32))))]) rfl) ?_
    show Goes p e below _ T70 (mkF m 479 #[.val (.int p1), .val (.int p2), .val (.int p3), .val (.int p4), .val (.int p5), .val (.int (3 : Int32)), .val (.int cc1), .val (.int cc2), .val (.int cc3), .val (.int cc4), .val (.ref b50), .val (.int gt), .val (.int dg), .val (.int pt), .val (.int s3), .val (.int (if s3 = (0 : Int32) then (0 : Int32) else (if (0 : Int32) < dg then (if (1 : Int32) < pt then (0 : Int32) else (1 : Int32)) else (0 : Int32))))] [])
    generalize exp : (if s3 = (0 : Int32) then (0 : Int32) else (if (0 : Int32) < dg then (if (1 : Int32) < pt then (0 : Int32) else (1 : Int32)) else (0 : Int32))) = xp
    show Goes p e below _ T70 (mkF m 479 #[.val (.int p1), .val (.int p2), .val (.int p3), .val (.int p4), .val (.int p5), .val (.int (3 : Int32)), .val (.int cc1), .val (.int cc2), .val (.int cc3), .val (.int cc4), .val (.ref b50), .val (.int gt), .val (.int dg), .val (.int pt), .val (.int s3), .val (.int xp)] [])
    refine Goes.of (fun _ => XS.iload X70.here hx rfl (hb hby at_479) rfl) ?_
    show Goes p e below _ T70 (mkF m 481 #[.val (.int p1), .val (.int p2), .val (.int p3), .val (.int p4), .val (.int p5), .val (.int (3 : Int32)), .val (.int cc1), .val (.int cc2), .val (.int cc3), .val (.int cc4), .val (.ref b50), .val (.int gt), .val (.int dg), .val (.int pt), .val (.int s3), .val (.int xp)] [(.int gt)])
    refine Goes.of (fun _ => XS.iload X70.here hx rfl (hb hby at_481) rfl) ?_
    show Goes p e below _ T70 (mkF m 483 #[.val (.int p1), .val (.int p2), .val (.int p3), .val (.int p4), .val (.int p5), .val (.int (3 : Int32)), .val (.int cc1), .val (.int cc2), .val (.int cc3), .val (.int cc4), .val (.ref b50), .val (.int gt), .val (.int dg), .val (.int pt), .val (.int s3), .val (.int xp)] [(.int xp), (.int gt)])
    refine Goes.of (fun _ => XS.icmpNo X70.here hx rfl (hb hby at_483) rfl (teq (by subst exp es3 es2 es1 ept er4 er3 er2 er1 edg eo4 eo3 eo2 eo1 egt; exact fin3 cc1 cc2 cc3)).2) ?_
    show Goes p e below _ T70 (mkF m 486 #[.val (.int p1), .val (.int p2), .val (.int p3), .val (.int p4), .val (.int p5), .val (.int (3 : Int32)), .val (.int cc1), .val (.int cc2), .val (.int cc3), .val (.int cc4), .val (.ref b50), .val (.int gt), .val (.int dg), .val (.int pt), .val (.int s3), .val (.int xp)] [])
    refine Goes.of (fun _ => XS.iconst X70.here hx rfl (hb hby at_486)) ?_
    show Goes p e below _ T70 (mkF m 487 #[.val (.int p1), .val (.int p2), .val (.int p3), .val (.int p4), .val (.int p5), .val (.int (3 : Int32)), .val (.int cc1), .val (.int cc2), .val (.int cc3), .val (.int cc4), .val (.ref b50), .val (.int gt), .val (.int dg), .val (.int pt), .val (.int s3), .val (.int xp)] [(.int (1 : Int32))])
    refine Goes.of (fun _ => XS.goto X70.here hx rfl (pc0 := 487) (pc' := 491) rfl (hb hby at_487) (by decide) (by decide)) ?_
    show Goes p e below _ T70 (mkF m 491 #[.val (.int p1), .val (.int p2), .val (.int p3), .val (.int p4), .val (.int p5), .val (.int (3 : Int32)), .val (.int cc1), .val (.int cc2), .val (.int cc3), .val (.int cc4), .val (.ref b50), .val (.int gt), .val (.int dg), .val (.int pt), .val (.int s3), .val (.int xp)] [(.int (1 : Int32))])
    exact retZW (t := .boolean) X70 hS hk hZ hEL HC hx hret hlk (by simp) (hb hby at_491) eT70 (by decide) (by decide) ⟨rfl, N70⟩
  · show Goes p e below _ T4 (mkF m 33 #[.val (.int p1), .val (.int p2), .val (.int p3), .val (.int p4), .val (.int p5), .val (.int (4 : Int32)), .val (.int cc1), .val (.int cc2), .val (.int cc3), .val (.int cc4), .unset, .unset, .unset, .unset, .unset, .unset] [])
    refine Goes.of (fun _ => XS.iload X4.here hx rfl (hb hby at_33) rfl) ?_
    show Goes p e below _ T4 (mkF m 35 #[.val (.int p1), .val (.int p2), .val (.int p3), .val (.int p4), .val (.int p5), .val (.int (4 : Int32)), .val (.int cc1), .val (.int cc2), .val (.int cc3), .val (.int cc4), .unset, .unset, .unset, .unset, .unset, .unset] [(.int (4 : Int32))])
    refine Goes.of (fun _ => XS.ifYes X4.here hx rfl (pc0 := 35) (pc' := 53) rfl (hb hby at_35) rfl ((if0 _ _).trans (feq (by decide)).2) (by decide) (by decide)) ?_
    show Goes p e below _ T4 (mkF m 53 #[.val (.int p1), .val (.int p2), .val (.int p3), .val (.int p4), .val (.int p5), .val (.int (4 : Int32)), .val (.int cc1), .val (.int cc2), .val (.int cc3), .val (.int cc4), .unset, .unset, .unset, .unset, .unset, .unset] [])
    refine Goes.of (fun _ => XS.iload X4.here hx rfl (hb hby at_53) rfl) ?_
    show Goes p e below _ T4 (mkF m 55 #[.val (.int p1), .val (.int p2), .val (.int p3), .val (.int p4), .val (.int p5), .val (.int (4 : Int32)), .val (.int cc1), .val (.int cc2), .val (.int cc3), .val (.int cc4), .unset, .unset, .unset, .unset, .unset, .unset] [(.int (4 : Int32))])
    refine Goes.of (fun _ => XS.iconst X4.here hx rfl (hb hby at_55)) ?_
    show Goes p e below _ T4 (mkF m 56 #[.val (.int p1), .val (.int p2), .val (.int p3), .val (.int p4), .val (.int p5), .val (.int (4 : Int32)), .val (.int cc1), .val (.int cc2), .val (.int cc3), .val (.int cc4), .unset, .unset, .unset, .unset, .unset, .unset] [(.int (1 : Int32)), (.int (4 : Int32))])
    refine Goes.of (fun _ => XS.icmpYes X4.here hx rfl (pc0 := 56) (pc' := 79) rfl (hb hby at_56) rfl (feq (by decide)).2 (by decide) (by decide)) ?_
    show Goes p e below _ T4 (mkF m 79 #[.val (.int p1), .val (.int p2), .val (.int p3), .val (.int p4), .val (.int p5), .val (.int (4 : Int32)), .val (.int cc1), .val (.int cc2), .val (.int cc3), .val (.int cc4), .unset, .unset, .unset, .unset, .unset, .unset] [])
    refine Goes.of (fun _ => XS.iload X4.here hx rfl (hb hby at_79) rfl) ?_
    show Goes p e below _ T4 (mkF m 81 #[.val (.int p1), .val (.int p2), .val (.int p3), .val (.int p4), .val (.int p5), .val (.int (4 : Int32)), .val (.int cc1), .val (.int cc2), .val (.int cc3), .val (.int cc4), .unset, .unset, .unset, .unset, .unset, .unset] [(.int (4 : Int32))])
    refine Goes.of (fun _ => XS.iconst X4.here hx rfl (hb hby at_81)) ?_
    show Goes p e below _ T4 (mkF m 82 #[.val (.int p1), .val (.int p2), .val (.int p3), .val (.int p4), .val (.int p5), .val (.int (4 : Int32)), .val (.int cc1), .val (.int cc2), .val (.int cc3), .val (.int cc4), .unset, .unset, .unset, .unset, .unset, .unset] [(.int (2 : Int32)), (.int (4 : Int32))])
    refine Goes.of (fun _ => XS.icmpYes X4.here hx rfl (pc0 := 82) (pc' := 110) rfl (hb hby at_82) rfl (feq (by decide)).2 (by decide) (by decide)) ?_
    show Goes p e below _ T4 (mkF m 110 #[.val (.int p1), .val (.int p2), .val (.int p3), .val (.int p4), .val (.int p5), .val (.int (4 : Int32)), .val (.int cc1), .val (.int cc2), .val (.int cc3), .val (.int cc4), .unset, .unset, .unset, .unset, .unset, .unset] [])
    refine Goes.of (fun _ => XS.iload X4.here hx rfl (hb hby at_110) rfl) ?_
    show Goes p e below _ T4 (mkF m 112 #[.val (.int p1), .val (.int p2), .val (.int p3), .val (.int p4), .val (.int p5), .val (.int (4 : Int32)), .val (.int cc1), .val (.int cc2), .val (.int cc3), .val (.int cc4), .unset, .unset, .unset, .unset, .unset, .unset] [(.int (4 : Int32))])
    refine Goes.of (fun _ => XS.iconst X4.here hx rfl (hb hby at_112)) ?_
    show Goes p e below _ T4 (mkF m 113 #[.val (.int p1), .val (.int p2), .val (.int p3), .val (.int p4), .val (.int p5), .val (.int (4 : Int32)), .val (.int cc1), .val (.int cc2), .val (.int cc3), .val (.int cc4), .unset, .unset, .unset, .unset, .unset, .unset] [(.int (3 : Int32)), (.int (4 : Int32))])
    refine Goes.of (fun _ => XS.icmpYes X4.here hx rfl (pc0 := 113) (pc' := 146) rfl (hb hby at_113) rfl (feq (by decide)).2 (by decide) (by decide)) ?_
    show Goes p e below _ T4 (mkF m 146 #[.val (.int p1), .val (.int p2), .val (.int p3), .val (.int p4), .val (.int p5), .val (.int (4 : Int32)), .val (.int cc1), .val (.int cc2), .val (.int cc3), .val (.int cc4), .unset, .unset, .unset, .unset, .unset, .unset] [])
    refine goNew X4 hx hZ hown (hw _ (List.mem_of_getElem? (i := 5) rfl)) (hw _ (List.mem_of_getElem? (i := 6) rfl)) (hw _ (List.mem_of_getElem? (i := 7) rfl)) (rfl : T4.heap = _) (g := (mkF m 146 #[.val (.int p1), .val (.int p2), .val (.int p3), .val (.int p4), .val (.int p5), .val (.int (4 : Int32)), .val (.int cc1), .val (.int cc2), .val (.int cc3), .val (.int cc4), .unset, .unset, .unset, .unset, .unset, .unset] [])) rfl (hb hby at_146) (by decide) (by decide) ?_
    intro T71 h71 b71 X71 eT71 E71 hb71 A71 D71
    have g_b71 : n0 ≤ b71 := Nat.le_trans (oldLe O0) hb71
    have hk := Nat.le_trans hk E71.1
    have HC := HC.trans (CHr.ext E71 HC.1)
    have O0 := O0.ext E71
    have F71_value : Fld Z h71 b71 "java/lang/String" "value" "[B" .null := D71 (Or.inr (hw _ (List.mem_of_getElem? (i := 21) rfl))) (ty := (.array .byte)) (by decide)
    have F71_coder : Fld Z h71 b71 "java/lang/String" "coder" "B" (.int (0 : Int32)) := D71 (Or.inr (hw _ (List.mem_of_getElem? (i := 22) rfl))) (ty := .byte) (by decide)
    show Goes p e below _ T71 (mkF m 149 #[.val (.int p1), .val (.int p2), .val (.int p3), .val (.int p4), .val (.int p5), .val (.int (4 : Int32)), .val (.int cc1), .val (.int cc2), .val (.int cc3), .val (.int cc4), .unset, .unset, .unset, .unset, .unset, .unset] [(.ref b71)])
    refine Goes.of (fun _ => XS.dup X71.here hx rfl (hb hby at_149) rfl rfl) ?_
    show Goes p e below _ T71 (mkF m 150 #[.val (.int p1), .val (.int p2), .val (.int p3), .val (.int p4), .val (.int p5), .val (.int (4 : Int32)), .val (.int cc1), .val (.int cc2), .val (.int cc3), .val (.int cc4), .unset, .unset, .unset, .unset, .unset, .unset] [(.ref b71), (.ref b71)])
    refine Goes.of (fun _ => XS.iconst X71.here hx rfl (hb hby at_150)) ?_
    show Goes p e below _ T71 (mkF m 151 #[.val (.int p1), .val (.int p2), .val (.int p3), .val (.int p4), .val (.int p5), .val (.int (4 : Int32)), .val (.int cc1), .val (.int cc2), .val (.int cc3), .val (.int cc4), .unset, .unset, .unset, .unset, .unset, .unset] [(.int (4 : Int32)), (.ref b71), (.ref b71)])
    refine goNewP 4 X71 hx hZ (hw _ (List.mem_of_getElem? (i := 8) rfl)) eT71 (g := (mkF m 151 #[.val (.int p1), .val (.int p2), .val (.int p3), .val (.int p4), .val (.int p5), .val (.int (4 : Int32)), .val (.int cc1), .val (.int cc2), .val (.int cc3), .val (.int cc4), .unset, .unset, .unset, .unset, .unset, .unset] [(.int (4 : Int32)), (.ref b71), (.ref b71)])) rfl (hb hby at_151) rfl (by decide) (by decide) (by decide) (by decide) (by decide) (ad := "[C") (by first | rfl | decide) ?_
    intro T72 h72 b72 kA72 X72 eT72 E72 hb72 V72 A72
    have g_b72 : n0 ≤ b72 := Nat.le_trans (oldLe O0) hb72
    have ne_b71_b72 : b71 ≠ b72 := Nat.ne_of_lt (Nat.lt_of_lt_of_le A71.lt hb72)
    have A71 := A71.ext E72
    have F71_value := F71_value.ext E72
    have F71_coder := F71_coder.ext E72
    have hk := Nat.le_trans hk E72.1
    have HC := HC.trans (CHr.ext E72 HC.1)
    have O0 := O0.ext E72
    have V72 : Arv Z h72 b72 kA72 .char (4 : Int32) [(.int (0 : Int32)), (.int (0 : Int32)), (.int (0 : Int32)), (.int (0 : Int32))] (.int (0 : Int32)) := V72
    show Goes p e below _ T72 (mkF m 153 #[.val (.int p1), .val (.int p2), .val (.int p3), .val (.int p4), .val (.int p5), .val (.int (4 : Int32)), .val (.int cc1), .val (.int cc2), .val (.int cc3), .val (.int cc4), .unset, .unset, .unset, .unset, .unset, .unset] [(.ref b72), (.ref b71), (.ref b71)])
    refine Goes.of (fun _ => XS.dup X72.here hx rfl (hb hby at_153) rfl rfl) ?_
    show Goes p e below _ T72 (mkF m 154 #[.val (.int p1), .val (.int p2), .val (.int p3), .val (.int p4), .val (.int p5), .val (.int (4 : Int32)), .val (.int cc1), .val (.int cc2), .val (.int cc3), .val (.int cc4), .unset, .unset, .unset, .unset, .unset, .unset] [(.ref b72), (.ref b72), (.ref b71), (.ref b71)])
    refine Goes.of (fun _ => XS.iconst X72.here hx rfl (hb hby at_154)) ?_
    show Goes p e below _ T72 (mkF m 155 #[.val (.int p1), .val (.int p2), .val (.int p3), .val (.int p4), .val (.int p5), .val (.int (4 : Int32)), .val (.int cc1), .val (.int cc2), .val (.int cc3), .val (.int cc4), .unset, .unset, .unset, .unset, .unset, .unset] [(.int (0 : Int32)), (.ref b72), (.ref b72), (.ref b71), (.ref b71)])
    refine Goes.of (fun _ => XS.iload X72.here hx rfl (hb hby at_155) rfl) ?_
    show Goes p e below _ T72 (mkF m 157 #[.val (.int p1), .val (.int p2), .val (.int p3), .val (.int p4), .val (.int p5), .val (.int (4 : Int32)), .val (.int cc1), .val (.int cc2), .val (.int cc3), .val (.int cc4), .unset, .unset, .unset, .unset, .unset, .unset] [(.int cc1), (.int (0 : Int32)), (.ref b72), (.ref b72), (.ref b71), (.ref b71)])
    have Sf_b72 : Safe Z EL _ h72 b72 := Safe.arv hZ.alike V72 (by decide)
    refine goStC 0 X72 hx hZ eT72 V72 (by decide) (by decide) rfl (Nat.lt_of_lt_of_le (Nat.lt_succ_self _) (Nat.le_of_ble_eq_true rfl)) (g := (mkF m 157 #[.val (.int p1), .val (.int p2), .val (.int p3), .val (.int p4), .val (.int p5), .val (.int (4 : Int32)), .val (.int cc1), .val (.int cc2), .val (.int cc3), .val (.int cc4), .unset, .unset, .unset, .unset, .unset, .unset] [(.int cc1), (.int (0 : Int32)), (.ref b72), (.ref b72), (.ref b71), (.ref b71)])) rfl rfl (hb hby at_157) ?_
    intro T73 h73 X73 eT73 W73 V72
    have N73 := Fr.snoc X73 N4 g_b72
    have A71 := A71.wr W73
    have F71_value := F71_value.other W73 (Or.inl ne_b71_b72)
    have F71_coder := F71_coder.other W73 (Or.inl ne_b71_b72)
    have A72 := A72.wr W73
    have HC := HC.trans (CHr.wr W73 Sf_b72 HC.1)
    have hk := Nat.le_trans hk (Nat.le_of_eq (Wr.size W73).symm)
    have O0 := O0.wr W73 g_b72
    have V72 : Arv Z h73 b72 kA72 .char (4 : Int32) [(.int (nar .char cc1)), (.int (0 : Int32)), (.int (0 : Int32)), (.int (0 : Int32))] (.int (0 : Int32)) := V72
    show Goes p e below _ T73 (mkF m 158 #[.val (.int p1), .val (.int p2), .val (.int p3), .val (.int p4), .val (.int p5), .val (.int (4 : Int32)), .val (.int cc1), .val (.int cc2), .val (.int cc3), .val (.int cc4), .unset, .unset, .unset, .unset, .unset, .unset] [(.ref b72), (.ref b71), (.ref b71)])
    refine Goes.of (fun _ => XS.dup X73.here hx rfl (hb hby at_158) rfl rfl) ?_
    show Goes p e below _ T73 (mkF m 159 #[.val (.int p1), .val (.int p2), .val (.int p3), .val (.int p4), .val (.int p5), .val (.int (4 : Int32)), .val (.int cc1), .val (.int cc2), .val (.int cc3), .val (.int cc4), .unset, .unset, .unset, .unset, .unset, .unset] [(.ref b72), (.ref b72), (.ref b71), (.ref b71)])
    refine Goes.of (fun _ => XS.iconst X73.here hx rfl (hb hby at_159)) ?_
    show Goes p e below _ T73 (mkF m 160 #[.val (.int p1), .val (.int p2), .val (.int p3), .val (.int p4), .val (.int p5), .val (.int (4 : Int32)), .val (.int cc1), .val (.int cc2), .val (.int cc3), .val (.int cc4), .unset, .unset, .unset, .unset, .unset, .unset] [(.int (1 : Int32)), (.ref b72), (.ref b72), (.ref b71), (.ref b71)])
    refine Goes.of (fun _ => XS.iload X73.here hx rfl (hb hby at_160) rfl) ?_
    show Goes p e below _ T73 (mkF m 162 #[.val (.int p1), .val (.int p2), .val (.int p3), .val (.int p4), .val (.int p5), .val (.int (4 : Int32)), .val (.int cc1), .val (.int cc2), .val (.int cc3), .val (.int cc4), .unset, .unset, .unset, .unset, .unset, .unset] [(.int cc2), (.int (1 : Int32)), (.ref b72), (.ref b72), (.ref b71), (.ref b71)])
    have Sf_b72 : Safe Z EL _ h73 b72 := Safe.arv hZ.alike V72 (by decide)
    refine goStC 1 X73 hx hZ eT73 V72 (by decide) (by decide) rfl (Nat.lt_of_lt_of_le (Nat.lt_succ_self _) (Nat.le_of_ble_eq_true rfl)) (g := (mkF m 162 #[.val (.int p1), .val (.int p2), .val (.int p3), .val (.int p4), .val (.int p5), .val (.int (4 : Int32)), .val (.int cc1), .val (.int cc2), .val (.int cc3), .val (.int cc4), .unset, .unset, .unset, .unset, .unset, .unset] [(.int cc2), (.int (1 : Int32)), (.ref b72), (.ref b72), (.ref b71), (.ref b71)])) rfl rfl (hb hby at_162) ?_
    intro T74 h74 X74 eT74 W74 V72
    have N74 := Fr.snoc X74 N73 g_b72
    have A71 := A71.wr W74
    have F71_value := F71_value.other W74 (Or.inl ne_b71_b72)
    have F71_coder := F71_coder.other W74 (Or.inl ne_b71_b72)
    have A72 := A72.wr W74
    have HC := HC.trans (CHr.wr W74 Sf_b72 HC.1)
    have hk := Nat.le_trans hk (Nat.le_of_eq (Wr.size W74).symm)
    have O0 := O0.wr W74 g_b72
    have V72 : Arv Z h74 b72 kA72 .char (4 : Int32) [(.int (nar .char cc1)), (.int (nar .char cc2)), (.int (0 : Int32)), (.int (0 : Int32))] (.int (0 : Int32)) := V72
    show Goes p e below _ T74 (mkF m 163 #[.val (.int p1), .val (.int p2), .val (.int p3), .val (.int p4), .val (.int p5), .val (.int (4 : Int32)), .val (.int cc1), .val (.int cc2), .val (.int cc3), .val (.int cc4), .unset, .unset, .unset, .unset, .unset, .unset] [(.ref b72), (.ref b71), (.ref b71)])
    refine Goes.of (fun _ => XS.dup X74.here hx rfl (hb hby at_163) rfl rfl) ?_
    show Goes p e below _ T74 (mkF m 164 #[.val (.int p1), .val (.int p2), .val (.int p3), .val (.int p4), .val (.int p5), .val (.int (4 : Int32)), .val (.int cc1), .val (.int cc2), .val (.int cc3), .val (.int cc4), .unset, .unset, .unset, .unset, .unset, .unset] [(.ref b72), (.ref b72), (.ref b71), (.ref b71)])
    refine Goes.of (fun _ => XS.iconst X74.here hx rfl (hb hby at_164)) ?_
    show Goes p e below _ T74 (mkF m 165 #[.val (.int p1), .val (.int p2), .val (.int p3), .val (.int p4), .val (.int p5), .val (.int (4 : Int32)), .val (.int cc1), .val (.int cc2), .val (.int cc3), .val (.int cc4), .unset, .unset, .unset, .unset, .unset, .unset] [(.int (2 : Int32)), (.ref b72), (.ref b72), (.ref b71), (.ref b71)])
    refine Goes.of (fun _ => XS.iload X74.here hx rfl (hb hby at_165) rfl) ?_
    show Goes p e below _ T74 (mkF m 167 #[.val (.int p1), .val (.int p2), .val (.int p3), .val (.int p4), .val (.int p5), .val (.int (4 : Int32)), .val (.int cc1), .val (.int cc2), .val (.int cc3), .val (.int cc4), .unset, .unset, .unset, .unset, .unset, .unset] [(.int cc3), (.int (2 : Int32)), (.ref b72), (.ref b72), (.ref b71), (.ref b71)])
    have Sf_b72 : Safe Z EL _ h74 b72 := Safe.arv hZ.alike V72 (by decide)
    refine goStC 2 X74 hx hZ eT74 V72 (by decide) (by decide) rfl (Nat.lt_of_lt_of_le (Nat.lt_succ_self _) (Nat.le_of_ble_eq_true rfl)) (g := (mkF m 167 #[.val (.int p1), .val (.int p2), .val (.int p3), .val (.int p4), .val (.int p5), .val (.int (4 : Int32)), .val (.int cc1), .val (.int cc2), .val (.int cc3), .val (.int cc4), .unset, .unset, .unset, .unset, .unset, .unset] [(.int cc3), (.int (2 : Int32)), (.ref b72), (.ref b72), (.ref b71), (.ref b71)])) rfl rfl (hb hby at_167) ?_
    intro T75 h75 X75 eT75 W75 V72
    have N75 := Fr.snoc X75 N74 g_b72
    have A71 := A71.wr W75
    have F71_value := F71_value.other W75 (Or.inl ne_b71_b72)
    have F71_coder := F71_coder.other W75 (Or.inl ne_b71_b72)
    have A72 := A72.wr W75
    have HC := HC.trans (CHr.wr W75 Sf_b72 HC.1)
    have hk := Nat.le_trans hk (Nat.le_of_eq (Wr.size W75).symm)
    have O0 := O0.wr W75 g_b72
    have V72 : Arv Z h75 b72 kA72 .char (4 : Int32) [(.int (nar .char cc1)), (.int (nar .char cc2)), (.int (nar .char cc3)), (.int (0 : Int32))] (.int (0 : Int32)) := V72
    show Goes p e below _ T75 (mkF m 168 #[.val (.int p1), .val (.int p2), .val (.int p3), .val (.int p4), .val (.int p5), .val (.int (4 : Int32)), .val (.int cc1), .val (.int cc2), .val (.int cc3), .val (.int cc4), .unset, .unset, .unset, .unset, .unset, .unset] [(.ref b72), (.ref b71), (.ref b71)])
    refine Goes.of (fun _ => XS.dup X75.here hx rfl (hb hby at_168) rfl rfl) ?_
    show Goes p e below _ T75 (mkF m 169 #[.val (.int p1), .val (.int p2), .val (.int p3), .val (.int p4), .val (.int p5), .val (.int (4 : Int32)), .val (.int cc1), .val (.int cc2), .val (.int cc3), .val (.int cc4), .unset, .unset, .unset, .unset, .unset, .unset] [(.ref b72), (.ref b72), (.ref b71), (.ref b71)])
    refine Goes.of (fun _ => XS.iconst X75.here hx rfl (hb hby at_169)) ?_
    show Goes p e below _ T75 (mkF m 170 #[.val (.int p1), .val (.int p2), .val (.int p3), .val (.int p4), .val (.int p5), .val (.int (4 : Int32)), .val (.int cc1), .val (.int cc2), .val (.int cc3), .val (.int cc4), .unset, .unset, .unset, .unset, .unset, .unset] [(.int (3 : Int32)), (.ref b72), (.ref b72), (.ref b71), (.ref b71)])
    refine Goes.of (fun _ => XS.iload X75.here hx rfl (hb hby at_170) rfl) ?_
    show Goes p e below _ T75 (mkF m 172 #[.val (.int p1), .val (.int p2), .val (.int p3), .val (.int p4), .val (.int p5), .val (.int (4 : Int32)), .val (.int cc1), .val (.int cc2), .val (.int cc3), .val (.int cc4), .unset, .unset, .unset, .unset, .unset, .unset] [(.int cc4), (.int (3 : Int32)), (.ref b72), (.ref b72), (.ref b71), (.ref b71)])
    have Sf_b72 : Safe Z EL _ h75 b72 := Safe.arv hZ.alike V72 (by decide)
    refine goStC 3 X75 hx hZ eT75 V72 (by decide) (by decide) rfl (Nat.lt_of_lt_of_le (Nat.lt_succ_self _) (Nat.le_of_ble_eq_true rfl)) (g := (mkF m 172 #[.val (.int p1), .val (.int p2), .val (.int p3), .val (.int p4), .val (.int p5), .val (.int (4 : Int32)), .val (.int cc1), .val (.int cc2), .val (.int cc3), .val (.int cc4), .unset, .unset, .unset, .unset, .unset, .unset] [(.int cc4), (.int (3 : Int32)), (.ref b72), (.ref b72), (.ref b71), (.ref b71)])) rfl rfl (hb hby at_172) ?_
    intro T76 h76 X76 eT76 W76 V72
    have N76 := Fr.snoc X76 N75 g_b72
    have A71 := A71.wr W76
    have F71_value := F71_value.other W76 (Or.inl ne_b71_b72)
    have F71_coder := F71_coder.other W76 (Or.inl ne_b71_b72)
    have A72 := A72.wr W76
    have HC := HC.trans (CHr.wr W76 Sf_b72 HC.1)
    have hk := Nat.le_trans hk (Nat.le_of_eq (Wr.size W76).symm)
    have O0 := O0.wr W76 g_b72
    have V72 : Arv Z h76 b72 kA72 .char (4 : Int32) [(.int (nar .char cc1)), (.int (nar .char cc2)), (.int (nar .char cc3)), (.int (nar .char cc4))] (.int (0 : Int32)) := V72
    show Goes p e below _ T76 (mkF m 173 #[.val (.int p1), .val (.int p2), .val (.int p3), .val (.int p4), .val (.int p5), .val (.int (4 : Int32)), .val (.int cc1), .val (.int cc2), .val (.int cc3), .val (.int cc4), .unset, .unset, .unset, .unset, .unset, .unset] [(.ref b72), (.ref b71), (.ref b71)])
    have Sf_b71 : Safe Z EL _ h76 b71 := safeNull hZ.alike A71 F71_value
    refine goNewS (cs := [(nar .char cc1), (nar .char cc2), (nar .char cc3), (nar .char cc4)]) 4 1 X76 hx hZ hown (hwsOf hw) (hw _ (List.mem_of_getElem? (i := 9) rfl)) (hw _ (List.mem_of_getElem? (i := 10) rfl)) (hw _ (List.mem_of_getElem? (i := 11) rfl)) (hw _ (List.mem_of_getElem? (i := 6) rfl)) g_b71 (oldLe O0) A71 F71_value F71_coder V72 rfl (Sc.ext O0.2) hcz rfl rfl (by decide) (by decide) (by intro c hc; simp only [List.mem_cons, List.not_mem_nil, or_false] at hc; rcases hc with rfl | rfl | rfl | rfl; (· rw [narC hcc1.1 (le255 hcc1.2)]; exact hcc1); (· rw [narC hcc2.1 (le255 hcc2.2)]; exact hcc2); (· rw [narC hcc3.1 (le255 hcc3.2)]; exact hcc3); (· rw [narC hcc4.1 (le255 hcc4.2)]; exact hcc4)) eT76 (g := (mkF m 173 #[.val (.int p1), .val (.int p2), .val (.int p3), .val (.int p4), .val (.int p5), .val (.int (4 : Int32)), .val (.int cc1), .val (.int cc2), .val (.int cc3), .val (.int cc4), .unset, .unset, .unset, .unset, .unset, .unset] [(.ref b72), (.ref b71), (.ref b71)])) rfl (by rw [hml]; rfl) [(.ref b71)] (lenOf pd___C_V rfl) rfl (by show 2 * 0 + _ ≤ _; exact Nat.le_of_eq rfl) (hb hby at_173) (by decide) (by decide) (by decide) (by decide) ?_
    intro T77 L77 X77 Nq77 Kq77 S77
    have S77 := S77.of (show [(nar .char cc1), (nar .char cc2), (nar .char cc3), (nar .char cc4)] = [cc1, cc2, cc3, cc4] by (try rw [narC hcc1.1 (le255 hcc1.2)]); (try rw [narC hcc2.1 (le255 hcc2.2)]); (try rw [narC hcc3.1 (le255 hcc3.2)]); (try rw [narC hcc4.1 (le255 hcc4.2)]))
    have N77 := Fr.app N76 Nq77
    have V72 := V72.keep Kq77 (ninS (Ne.symm ne_b71_b72) nin0)
    have A72 := A72.keep Kq77
    have HC := HC.trans (CHr.keep Kq77 (sfS Sf_b71 sf0) HC.1)
    have hk := Nat.le_trans hk Kq77.1
    have O0 := O0.keep Kq77 (allS g_b71 all0)
    show Goes p e below _ T77 (mkF m 176 #[.val (.int p1), .val (.int p2), .val (.int p3), .val (.int p4), .val (.int p5), .val (.int (4 : Int32)), .val (.int cc1), .val (.int cc2), .val (.int cc3), .val (.int cc4), .unset, .unset, .unset, .unset, .unset, .unset] [(.ref b71)])
    refine Goes.of (fun _ => XS.astore X77.here hx rfl (hb hby at_176) rfl rfl (l' := #[.val (.int p1), .val (.int p2), .val (.int p3), .val (.int p4), .val (.int p5), .val (.int (4 : Int32)), .val (.int cc1), .val (.int cc2), .val (.int cc3), .val (.int cc4), .val (.ref b71), .unset, .unset, .unset, .unset, .unset]) rfl) ?_
    show Goes p e below _ T77 (mkF m 178 #[.val (.int p1), .val (.int p2), .val (.int p3), .val (.int p4), .val (.int p5), .val (.int (4 : Int32)), .val (.int cc1), .val (.int cc2), .val (.int cc3), .val (.int cc4), .val (.ref b71), .unset, .unset, .unset, .unset, .unset] [])
    refine Goes.of (fun _ => XS.aload X77.here hx rfl (hb hby at_178) rfl rfl) ?_
    show Goes p e below _ T77 (mkF m 180 #[.val (.int p1), .val (.int p2), .val (.int p3), .val (.int p4), .val (.int p5), .val (.int (4 : Int32)), .val (.int cc1), .val (.int cc2), .val (.int cc3), .val (.int cc4), .val (.ref b71), .unset, .unset, .unset, .unset, .unset] [(.ref b71)])
    refine goStatic 0 X77 hx hZ hown (hw _ (List.mem_of_getElem? (i := 27) rfl)) (hw _ (List.mem_of_getElem? (i := 28) rfl)) (hw _ (List.mem_of_getElem? (i := 29) rfl)) (hw _ (List.mem_of_getElem? (i := 30) rfl)) (by decide) (rm_plain l Z a0 hw b71 ([cc1, cc2, cc3, cc4] : List Int32) cz fm T77.heap n0 O0 Sc hcz Sf hfm S77 (by intro c hc; simp only [List.mem_cons, List.not_mem_nil, or_false] at hc; rcases hc with rfl | rfl | rfl | rfl; (· exact hcc1.2); (· exact hcc2.2); (· exact hcc3.2); (· exact hcc4.2))) (rfl : T77.heap = _) (g := (mkF m 180 #[.val (.int p1), .val (.int p2), .val (.int p3), .val (.int p4), .val (.int p5), .val (.int (4 : Int32)), .val (.int cc1), .val (.int cc2), .val (.int cc3), .val (.int cc4), .val (.ref b71), .unset, .unset, .unset, .unset, .unset] [(.ref b71)])) rfl (by rw [hml]; rfl) [(.ref b71)] [] (lenOf pd__Ljava_lang_String__Z rfl) rfl rfl (by show 2 * 0 + _ ≤ _; exact Nat.le_of_eq rfl) (hb hby at_180) (by decide) (by decide) (by decide) (by decide) ?_
    intro v78 T78 L78 X78 q78
    obtain ⟨rfl, Nq78, eT78⟩ := q78
    have N78 := Fr.app N77 Nq78
    show Goes p e below _ T78 (mkF m 183 #[.val (.int p1), .val (.int p2), .val (.int p3), .val (.int p4), .val (.int p5), .val (.int (4 : Int32)), .val (.int cc1), .val (.int cc2), .val (.int cc3), .val (.int cc4), .val (.ref b71), .unset, .unset, .unset, .unset, .unset] [(.int (plainGo 0 (0 : Int32) (0 : Int32) ([cc1, cc2, cc3, cc4] : List Int32)))])
    refine Goes.of (fun _ => XS.istore X78.here hx rfl (hb hby at_183) rfl (l' := #[.val (.int p1), .val (.int p2), .val (.int p3), .val (.int p4), .val (.int p5), .val (.int (4 : Int32)), .val (.int cc1), .val (.int cc2), .val (.int cc3), .val (.int cc4), .val (.ref b71), .val (.int (plainGo 0 (0 : Int32) (0 : Int32) ([cc1, cc2, cc3, cc4] : List Int32))), .unset, .unset, .unset, .unset]) rfl) ?_
    show Goes p e below _ T78 (mkF m 185 #[.val (.int p1), .val (.int p2), .val (.int p3), .val (.int p4), .val (.int p5), .val (.int (4 : Int32)), .val (.int cc1), .val (.int cc2), .val (.int cc3), .val (.int cc4), .val (.ref b71), .val (.int (plainGo 0 (0 : Int32) (0 : Int32) ([cc1, cc2, cc3, cc4] : List Int32))), .unset, .unset, .unset, .unset] [])
    generalize egt : (plainGo 0 (0 : Int32) (0 : Int32) ([cc1, cc2, cc3, cc4] : List Int32)) = gt
    show Goes p e below _ T78 (mkF m 185 #[.val (.int p1), .val (.int p2), .val (.int p3), .val (.int p4), .val (.int p5), .val (.int (4 : Int32)), .val (.int cc1), .val (.int cc2), .val (.int cc3), .val (.int cc4), .val (.ref b71), .val (.int gt), .unset, .unset, .unset, .unset] [])
    refine Goes.of (fun _ => XS.iload X78.here hx rfl (hb hby at_185) rfl) ?_
    show Goes p e below _ T78 (mkF m 187 #[.val (.int p1), .val (.int p2), .val (.int p3), .val (.int p4), .val (.int p5), .val (.int (4 : Int32)), .val (.int cc1), .val (.int cc2), .val (.int cc3), .val (.int cc4), .val (.ref b71), .val (.int gt), .unset, .unset, .unset, .unset] [(.int (4 : Int32))])
    refine Goes.of (fun _ => XS.ifNo X78.here hx rfl (hb hby at_187) rfl ((if0 _ _).trans (tlt (by decide)).2.2.2)) ?_
    show Goes p e below _ T78 (mkF m 190 #[.val (.int p1), .val (.int p2), .val (.int p3), .val (.int p4), .val (.int p5), .val (.int (4 : Int32)), .val (.int cc1), .val (.int cc2), .val (.int cc3), .val (.int cc4), .val (.ref b71), .val (.int gt), .unset, .unset, .unset, .unset] [])
    refine Goes.of (fun _ => XS.iload X78.here hx rfl (hb hby at_190) rfl) ?_
    show Goes p e below _ T78 (mkF m 192 #[.val (.int p1), .val (.int p2), .val (.int p3), .val (.int p4), .val (.int p5), .val (.int (4 : Int32)), .val (.int cc1), .val (.int cc2), .val (.int cc3), .val (.int cc4), .val (.ref b71), .val (.int gt), .unset, .unset, .unset, .unset] [(.int cc1)])
    refine goStatic 0 X78 hx hZ hown (hw _ (List.mem_of_getElem? (i := 77) rfl)) (hw _ (List.mem_of_getElem? (i := 78) rfl)) (hw _ (List.mem_of_getElem? (i := 3) rfl)) (hw _ (List.mem_of_getElem? (i := 79) rfl)) (by decide) (rm_dig l Z a0 hw cc1 T77.heap n0 O0) eT78 (g := (mkF m 192 #[.val (.int p1), .val (.int p2), .val (.int p3), .val (.int p4), .val (.int p5), .val (.int (4 : Int32)), .val (.int cc1), .val (.int cc2), .val (.int cc3), .val (.int cc4), .val (.ref b71), .val (.int gt), .unset, .unset, .unset, .unset] [(.int cc1)])) rfl (by rw [hml]; rfl) [(.int cc1)] [] (lenOf pd__C_Z rfl) rfl rfl (by show 2 * 0 + _ ≤ _; exact Nat.le_of_eq rfl) (hb hby at_192) (by decide) (by decide) (by decide) (by decide) ?_
    intro v79 T79 L79 X79 q79
    obtain ⟨rfl, Nq79, eT79⟩ := q79
    have N79 := Fr.app N78 Nq79
    show Goes p e below _ T79 (mkF m 195 #[.val (.int p1), .val (.int p2), .val (.int p3), .val (.int p4), .val (.int p5), .val (.int (4 : Int32)), .val (.int cc1), .val (.int cc2), .val (.int cc3), .val (.int cc4), .val (.ref b71), .val (.int gt), .unset, .unset, .unset, .unset] [(.int (digS cc1))])
    refine Goes.of (T' := T79) (f' := (mkF m 203 #[.val (.int p1), .val (.int p2), .val (.int p3), .val (.int p4), .val (.int p5), .val (.int (4 : Int32)), .val (.int cc1), .val (.int cc2), .val (.int cc3), .val (.int cc4), .val (.ref b71), .val (.int gt), .unset, .unset, .unset, .unset] [(.int (if (digS cc1) = (0 : Int32) then (0 : Int32) else (1 : Int32)))])) (fun t kt => ?_) ?_
    · show Steps p.tables e below (T79.setTop (mkF m 195 #[.val (.int p1), .val (.int p2), .val (.int p3), .val (.int p4), .val (.int p5), .val (.int (4 : Int32)), .val (.int cc1), .val (.int cc2), .val (.int cc3), .val (.int cc4), .val (.ref b71), .val (.int gt), .unset, .unset, .unset, .unset] [(.int (digS cc1))])) _
      by_cases hq195 : (digS cc1) = (0 : Int32)
      · simp only [if_pos hq195] at kt
        refine XS.ifYes X79.here hx rfl (pc0 := 195) (pc' := 202) rfl (hb hby at_195) rfl ((if0 _ _).trans (teq hq195).1) (by decide) (by decide) ?_
        show Steps p.tables e below (T79.setTop (mkF m 202 #[.val (.int p1), .val (.int p2), .val (.int p3), .val (.int p4), .val (.int p5), .val (.int (4 : Int32)), .val (.int cc1), .val (.int cc2), .val (.int cc3), .val (.int cc4), .val (.ref b71), .val (.int gt), .unset, .unset, .unset, .unset] [])) _
        refine XS.iconst X79.here hx rfl (hb hby at_202) ?_
        show Steps p.tables e below (T79.setTop (mkF m 203 #[.val (.int p1), .val (.int p2), .val (.int p3), .val (.int p4), .val (.int p5), .val (.int (4 : Int32)), .val (.int cc1), .val (.int cc2), .val (.int cc3), .val (.int cc4), .val (.ref b71), .val (.int gt), .unset, .unset, .unset, .unset] [(.int (0 : Int32))])) _
        exact kt
      · simp only [if_neg hq195] at kt
        refine XS.ifNo X79.here hx rfl (hb hby at_195) rfl ((if0 _ _).trans (feq hq195).1) ?_
        show Steps p.tables e below (T79.setTop (mkF m 198 #[.val (.int p1), .val (.int p2), .val (.int p3), .val (.int p4), .val (.int p5), .val (.int (4 : Int32)), .val (.int cc1), .val (.int cc2), .val (.int cc3), .val (.int cc4), .val (.ref b71), .val (.int gt), .unset, .unset, .unset, .unset] [])) _
        refine XS.iconst X79.here hx rfl (hb hby at_198) ?_
        show Steps p.tables e below (T79.setTop (mkF m 199 #[.val (.int p1), .val (.int p2), .val (.int p3), .val (.int p4), .val (.int p5), .val (.int (4 : Int32)), .val (.int cc1), .val (.int cc2), .val (.int cc3), .val (.int cc4), .val (.ref b71), .val (.int gt), .unset, .unset, .unset, .unset] [(.int (1 : Int32))])) _
        refine XS.goto X79.here hx rfl (pc0 := 199) (pc' := 203) rfl (hb hby at_199) (by decide) (by decide) ?_
        show Steps p.tables e below (T79.setTop (mkF m 203 #[.val (.int p1), .val (.int p2), .val (.int p3), .val (.int p4), .val (.int p5), .val (.int (4 : Int32)), .val (.int cc1), .val (.int cc2), .val (.int cc3), .val (.int cc4), .val (.ref b71), .val (.int gt), .unset, .unset, .unset, .unset] [(.int (1 : Int32))])) _
        exact kt
    show Goes p e below _ T79 (mkF m 203 #[.val (.int p1), .val (.int p2), .val (.int p3), .val (.int p4), .val (.int p5), .val (.int (4 : Int32)), .val (.int cc1), .val (.int cc2), .val (.int cc3), .val (.int cc4), .val (.ref b71), .val (.int gt), .unset, .unset, .unset, .unset] [(.int (if (digS cc1) = (0 : Int32) then (0 : Int32) else (1 : Int32)))])
    refine goStatic 0 X79 hx hZ hown (hw _ (List.mem_of_getElem? (i := 42) rfl)) (hw _ (List.mem_of_getElem? (i := 43) rfl)) (hw _ (List.mem_of_getElem? (i := 3) rfl)) (hw _ (List.mem_of_getElem? (i := 44) rfl)) (by decide) (rm_one l Z a0 hw (if (digS cc1) = (0 : Int32) then (0 : Int32) else (1 : Int32)) T77.heap n0 O0) eT79 (g := (mkF m 203 #[.val (.int p1), .val (.int p2), .val (.int p3), .val (.int p4), .val (.int p5), .val (.int (4 : Int32)), .val (.int cc1), .val (.int cc2), .val (.int cc3), .val (.int cc4), .val (.ref b71), .val (.int gt), .unset, .unset, .unset, .unset] [(.int (if (digS cc1) = (0 : Int32) then (0 : Int32) else (1 : Int32)))])) rfl (by rw [hml]; rfl) [(.int (if (digS cc1) = (0 : Int32) then (0 : Int32) else (1 : Int32)))] [] (lenOf pd__Z_I rfl) rfl rfl (by show 2 * 0 + _ ≤ _; exact Nat.le_of_eq rfl) (hb hby at_203) (by decide) (by decide) (by decide) (by decide) ?_
    intro v80 T80 L80 X80 q80
    obtain ⟨rfl, Nq80, eT80⟩ := q80
    have N80 := Fr.app N79 Nq80
    show Goes p e below _ T80 (mkF m 206 #[.val (.int p1), .val (.int p2), .val (.int p3), .val (.int p4), .val (.int p5), .val (.int (4 : Int32)), .val (.int cc1), .val (.int cc2), .val (.int cc3), .val (.int cc4), .val (.ref b71), .val (.int gt), .unset, .unset, .unset, .unset] [(.int (if (if (digS cc1) = (0 : Int32) then (0 : Int32) else (1 : Int32)) = (0 : Int32) then (0 : Int32) else (1 : Int32)))])
    generalize eo1 : (if (if (digS cc1) = (0 : Int32) then (0 : Int32) else (1 : Int32)) = (0 : Int32) then (0 : Int32) else (1 : Int32)) = o1
    show Goes p e below _ T80 (mkF m 206 #[.val (.int p1), .val (.int p2), .val (.int p3), .val (.int p4), .val (.int p5), .val (.int (4 : Int32)), .val (.int cc1), .val (.int cc2), .val (.int cc3), .val (.int cc4), .val (.ref b71), .val (.int gt), .unset, .unset, .unset, .unset] [(.int o1)])
    refine Goes.of (fun _ => XS.iload X80.here hx rfl (hb hby at_206) rfl) ?_
    show Goes p e below _ T80 (mkF m 208 #[.val (.int p1), .val (.int p2), .val (.int p3), .val (.int p4), .val (.int p5), .val (.int (4 : Int32)), .val (.int cc1), .val (.int cc2), .val (.int cc3), .val (.int cc4), .val (.ref b71), .val (.int gt), .unset, .unset, .unset, .unset] [(.int (4 : Int32)), (.int o1)])
    refine Goes.of (fun _ => XS.iconst X80.here hx rfl (hb hby at_208)) ?_
    show Goes p e below _ T80 (mkF m 209 #[.val (.int p1), .val (.int p2), .val (.int p3), .val (.int p4), .val (.int p5), .val (.int (4 : Int32)), .val (.int cc1), .val (.int cc2), .val (.int cc3), .val (.int cc4), .val (.ref b71), .val (.int gt), .unset, .unset, .unset, .unset] [(.int (1 : Int32)), (.int (4 : Int32)), (.int o1)])
    refine Goes.of (fun _ => XS.icmpNo X80.here hx rfl (hb hby at_209) rfl (tlt (by decide)).2.2.2) ?_
    show Goes p e below _ T80 (mkF m 212 #[.val (.int p1), .val (.int p2), .val (.int p3), .val (.int p4), .val (.int p5), .val (.int (4 : Int32)), .val (.int cc1), .val (.int cc2), .val (.int cc3), .val (.int cc4), .val (.ref b71), .val (.int gt), .unset, .unset, .unset, .unset] [(.int o1)])
    refine Goes.of (fun _ => XS.iload X80.here hx rfl (hb hby at_212) rfl) ?_
    show Goes p e below _ T80 (mkF m 214 #[.val (.int p1), .val (.int p2), .val (.int p3), .val (.int p4), .val (.int p5), .val (.int (4 : Int32)), .val (.int cc1), .val (.int cc2), .val (.int cc3), .val (.int cc4), .val (.ref b71), .val (.int gt), .unset, .unset, .unset, .unset] [(.int cc2), (.int o1)])
    refine goStatic 1 X80 hx hZ hown (hw _ (List.mem_of_getElem? (i := 77) rfl)) (hw _ (List.mem_of_getElem? (i := 78) rfl)) (hw _ (List.mem_of_getElem? (i := 3) rfl)) (hw _ (List.mem_of_getElem? (i := 79) rfl)) (by decide) (rm_dig l Z a0 hw cc2 T77.heap n0 O0) eT80 (g := (mkF m 214 #[.val (.int p1), .val (.int p2), .val (.int p3), .val (.int p4), .val (.int p5), .val (.int (4 : Int32)), .val (.int cc1), .val (.int cc2), .val (.int cc3), .val (.int cc4), .val (.ref b71), .val (.int gt), .unset, .unset, .unset, .unset] [(.int cc2), (.int o1)])) rfl (by rw [hml]; rfl) [(.int cc2)] [(.int o1)] (lenOf pd__C_Z rfl) rfl rfl (by show 2 * 0 + _ ≤ _; exact Nat.le_of_eq rfl) (hb hby at_214) (by decide) (by decide) (by decide) (by decide) ?_
    intro v81 T81 L81 X81 q81
    obtain ⟨rfl, Nq81, eT81⟩ := q81
    have N81 := Fr.app N80 Nq81
    show Goes p e below _ T81 (mkF m 217 #[.val (.int p1), .val (.int p2), .val (.int p3), .val (.int p4), .val (.int p5), .val (.int (4 : Int32)), .val (.int cc1), .val (.int cc2), .val (.int cc3), .val (.int cc4), .val (.ref b71), .val (.int gt), .unset, .unset, .unset, .unset] [(.int (digS cc2)), (.int o1)])
    refine Goes.of (T' := T81) (f' := (mkF m 225 #[.val (.int p1), .val (.int p2), .val (.int p3), .val (.int p4), .val (.int p5), .val (.int (4 : Int32)), .val (.int cc1), .val (.int cc2), .val (.int cc3), .val (.int cc4), .val (.ref b71), .val (.int gt), .unset, .unset, .unset, .unset] [(.int (if (digS cc2) = (0 : Int32) then (0 : Int32) else (1 : Int32))), (.int o1)])) (fun t kt => ?_) ?_
    · show Steps p.tables e below (T81.setTop (mkF m 217 #[.val (.int p1), .val (.int p2), .val (.int p3), .val (.int p4), .val (.int p5), .val (.int (4 : Int32)), .val (.int cc1), .val (.int cc2), .val (.int cc3), .val (.int cc4), .val (.ref b71), .val (.int gt), .unset, .unset, .unset, .unset] [(.int (digS cc2)), (.int o1)])) _
      by_cases hq217 : (digS cc2) = (0 : Int32)
      · simp only [if_pos hq217] at kt
        refine XS.ifYes X81.here hx rfl (pc0 := 217) (pc' := 224) rfl (hb hby at_217) rfl ((if0 _ _).trans (teq hq217).1) (by decide) (by decide) ?_
        show Steps p.tables e below (T81.setTop (mkF m 224 #[.val (.int p1), .val (.int p2), .val (.int p3), .val (.int p4), .val (.int p5), .val (.int (4 : Int32)), .val (.int cc1), .val (.int cc2), .val (.int cc3), .val (.int cc4), .val (.ref b71), .val (.int gt), .unset, .unset, .unset, .unset] [(.int o1)])) _
        refine XS.iconst X81.here hx rfl (hb hby at_224) ?_
        show Steps p.tables e below (T81.setTop (mkF m 225 #[.val (.int p1), .val (.int p2), .val (.int p3), .val (.int p4), .val (.int p5), .val (.int (4 : Int32)), .val (.int cc1), .val (.int cc2), .val (.int cc3), .val (.int cc4), .val (.ref b71), .val (.int gt), .unset, .unset, .unset, .unset] [(.int (0 : Int32)), (.int o1)])) _
        exact kt
      · simp only [if_neg hq217] at kt
        refine XS.ifNo X81.here hx rfl (hb hby at_217) rfl ((if0 _ _).trans (feq hq217).1) ?_
        show Steps p.tables e below (T81.setTop (mkF m 220 #[.val (.int p1), .val (.int p2), .val (.int p3), .val (.int p4), .val (.int p5), .val (.int (4 : Int32)), .val (.int cc1), .val (.int cc2), .val (.int cc3), .val (.int cc4), .val (.ref b71), .val (.int gt), .unset, .unset, .unset, .unset] [(.int o1)])) _
        refine XS.iconst X81.here hx rfl (hb hby at_220) ?_
        show Steps p.tables e below (T81.setTop (mkF m 221 #[.val (.int p1), .val (.int p2), .val (.int p3), .val (.int p4), .val (.int p5), .val (.int (4 : Int32)), .val (.int cc1), .val (.int cc2), .val (.int cc3), .val (.int cc4), .val (.ref b71), .val (.int gt), .unset, .unset, .unset, .unset] [(.int (1 : Int32)), (.int o1)])) _
        refine XS.goto X81.here hx rfl (pc0 := 221) (pc' := 225) rfl (hb hby at_221) (by decide) (by decide) ?_
        show Steps p.tables e below (T81.setTop (mkF m 225 #[.val (.int p1), .val (.int p2), .val (.int p3), .val (.int p4), .val (.int p5), .val (.int (4 : Int32)), .val (.int cc1), .val (.int cc2), .val (.int cc3), .val (.int cc4), .val (.ref b71), .val (.int gt), .unset, .unset, .unset, .unset] [(.int (1 : Int32)), (.int o1)])) _
        exact kt
    show Goes p e below _ T81 (mkF m 225 #[.val (.int p1), .val (.int p2), .val (.int p3), .val (.int p4), .val (.int p5), .val (.int (4 : Int32)), .val (.int cc1), .val (.int cc2), .val (.int cc3), .val (.int cc4), .val (.ref b71), .val (.int gt), .unset, .unset, .unset, .unset] [(.int (if (digS cc2) = (0 : Int32) then (0 : Int32) else (1 : Int32))), (.int o1)])
    refine goStatic 1 X81 hx hZ hown (hw _ (List.mem_of_getElem? (i := 42) rfl)) (hw _ (List.mem_of_getElem? (i := 43) rfl)) (hw _ (List.mem_of_getElem? (i := 3) rfl)) (hw _ (List.mem_of_getElem? (i := 44) rfl)) (by decide) (rm_one l Z a0 hw (if (digS cc2) = (0 : Int32) then (0 : Int32) else (1 : Int32)) T77.heap n0 O0) eT81 (g := (mkF m 225 #[.val (.int p1), .val (.int p2), .val (.int p3), .val (.int p4), .val (.int p5), .val (.int (4 : Int32)), .val (.int cc1), .val (.int cc2), .val (.int cc3), .val (.int cc4), .val (.ref b71), .val (.int gt), .unset, .unset, .unset, .unset] [(.int (if (digS cc2) = (0 : Int32) then (0 : Int32) else (1 : Int32))), (.int o1)])) rfl (by rw [hml]; rfl) [(.int (if (digS cc2) = (0 : Int32) then (0 : Int32) else (1 : Int32)))] [(.int o1)] (lenOf pd__Z_I rfl) rfl rfl (by show 2 * 0 + _ ≤ _; exact Nat.le_of_eq rfl) (hb hby at_225) (by decide) (by decide) (by decide) (by decide) ?_
    intro v82 T82 L82 X82 q82
    obtain ⟨rfl, Nq82, eT82⟩ := q82
    have N82 := Fr.app N81 Nq82
    show Goes p e below _ T82 (mkF m 228 #[.val (.int p1), .val (.int p2), .val (.int p3), .val (.int p4), .val (.int p5), .val (.int (4 : Int32)), .val (.int cc1), .val (.int cc2), .val (.int cc3), .val (.int cc4), .val (.ref b71), .val (.int gt), .unset, .unset, .unset, .unset] [(.int (if (if (digS cc2) = (0 : Int32) then (0 : Int32) else (1 : Int32)) = (0 : Int32) then (0 : Int32) else (1 : Int32))), (.int o1)])
    generalize eo2 : (if (if (digS cc2) = (0 : Int32) then (0 : Int32) else (1 : Int32)) = (0 : Int32) then (0 : Int32) else (1 : Int32)) = o2
    show Goes p e below _ T82 (mkF m 228 #[.val (.int p1), .val (.int p2), .val (.int p3), .val (.int p4), .val (.int p5), .val (.int (4 : Int32)), .val (.int cc1), .val (.int cc2), .val (.int cc3), .val (.int cc4), .val (.ref b71), .val (.int gt), .unset, .unset, .unset, .unset] [(.int o2), (.int o1)])
    refine Goes.of (fun _ => XS.iadd X82.here hx rfl (hb hby at_228) rfl) ?_
    show Goes p e below _ T82 (mkF m 229 #[.val (.int p1), .val (.int p2), .val (.int p3), .val (.int p4), .val (.int p5), .val (.int (4 : Int32)), .val (.int cc1), .val (.int cc2), .val (.int cc3), .val (.int cc4), .val (.ref b71), .val (.int gt), .unset, .unset, .unset, .unset] [(.int (o1 + o2))])
    refine Goes.of (fun _ => XS.iload X82.here hx rfl (hb hby at_229) rfl) ?_
    show Goes p e below _ T82 (mkF m 231 #[.val (.int p1), .val (.int p2), .val (.int p3), .val (.int p4), .val (.int p5), .val (.int (4 : Int32)), .val (.int cc1), .val (.int cc2), .val (.int cc3), .val (.int cc4), .val (.ref b71), .val (.int gt), .unset, .unset, .unset, .unset] [(.int (4 : Int32)), (.int (o1 + o2))])
    refine Goes.of (fun _ => XS.iconst X82.here hx rfl (hb hby at_231)) ?_
    show Goes p e below _ T82 (mkF m 232 #[.val (.int p1), .val (.int p2), .val (.int p3), .val (.int p4), .val (.int p5), .val (.int (4 : Int32)), .val (.int cc1), .val (.int cc2), .val (.int cc3), .val (.int cc4), .val (.ref b71), .val (.int gt), .unset, .unset, .unset, .unset] [(.int (2 : Int32)), (.int (4 : Int32)), (.int (o1 + o2))])
    refine Goes.of (fun _ => XS.icmpNo X82.here hx rfl (hb hby at_232) rfl (tlt (by decide)).2.2.2) ?_
    show Goes p e below _ T82 (mkF m 235 #[.val (.int p1), .val (.int p2), .val (.int p3), .val (.int p4), .val (.int p5), .val (.int (4 : Int32)), .val (.int cc1), .val (.int cc2), .val (.int cc3), .val (.int cc4), .val (.ref b71), .val (.int gt), .unset, .unset, .unset, .unset] [(.int (o1 + o2))])
    refine Goes.of (fun _ => XS.iload X82.here hx rfl (hb hby at_235) rfl) ?_
    show Goes p e below _ T82 (mkF m 237 #[.val (.int p1), .val (.int p2), .val (.int p3), .val (.int p4), .val (.int p5), .val (.int (4 : Int32)), .val (.int cc1), .val (.int cc2), .val (.int cc3), .val (.int cc4), .val (.ref b71), .val (.int gt), .unset, .unset, .unset, .unset] [(.int cc3), (.int (o1 + o2))])
    refine goStatic 1 X82 hx hZ hown (hw _ (List.mem_of_getElem? (i := 77) rfl)) (hw _ (List.mem_of_getElem? (i := 78) rfl)) (hw _ (List.mem_of_getElem? (i := 3) rfl)) (hw _ (List.mem_of_getElem? (i := 79) rfl)) (by decide) (rm_dig l Z a0 hw cc3 T77.heap n0 O0) eT82 (g := (mkF m 237 #[.val (.int p1), .val (.int p2), .val (.int p3), .val (.int p4), .val (.int p5), .val (.int (4 : Int32)), .val (.int cc1), .val (.int cc2), .val (.int cc3), .val (.int cc4), .val (.ref b71), .val (.int gt), .unset, .unset, .unset, .unset] [(.int cc3), (.int (o1 + o2))])) rfl (by rw [hml]; rfl) [(.int cc3)] [(.int (o1 + o2))] (lenOf pd__C_Z rfl) rfl rfl (by show 2 * 0 + _ ≤ _; exact Nat.le_of_eq rfl) (hb hby at_237) (by decide) (by decide) (by decide) (by decide) ?_
    intro v83 T83 L83 X83 q83
    obtain ⟨rfl, Nq83, eT83⟩ := q83
    have N83 := Fr.app N82 Nq83
    show Goes p e below _ T83 (mkF m 240 #[.val (.int p1), .val (.int p2), .val (.int p3), .val (.int p4), .val (.int p5), .val (.int (4 : Int32)), .val (.int cc1), .val (.int cc2), .val (.int cc3), .val (.int cc4), .val (.ref b71), .val (.int gt), .unset, .unset, .unset, .unset] [(.int (digS cc3)), (.int (o1 + o2))])
    refine Goes.of (T' := T83) (f' := (mkF m 248 #[.val (.int p1), .val (.int p2), .val (.int p3), .val (.int p4), .val (.int p5), .val (.int (4 : Int32)), .val (.int cc1), .val (.int cc2), .val (.int cc3), .val (.int cc4), .val (.ref b71), .val (.int gt), .unset, .unset, .unset, .unset] [(.int (if (digS cc3) = (0 : Int32) then (0 : Int32) else (1 : Int32))), (.int (o1 + o2))])) (fun t kt => ?_) ?_
    · show Steps p.tables e below (T83.setTop (mkF m 240 #[.val (.int p1), .val (.int p2), .val (.int p3), .val (.int p4), .val (.int p5), .val (.int (4 : Int32)), .val (.int cc1), .val (.int cc2), .val (.int cc3), .val (.int cc4), .val (.ref b71), .val (.int gt), .unset, .unset, .unset, .unset] [(.int (digS cc3)), (.int (o1 + o2))])) _
      by_cases hq240 : (digS cc3) = (0 : Int32)
      · simp only [if_pos hq240] at kt
        refine XS.ifYes X83.here hx rfl (pc0 := 240) (pc' := 247) rfl (hb hby at_240) rfl ((if0 _ _).trans (teq hq240).1) (by decide) (by decide) ?_
        show Steps p.tables e below (T83.setTop (mkF m 247 #[.val (.int p1), .val (.int p2), .val (.int p3), .val (.int p4), .val (.int p5), .val (.int (4 : Int32)), .val (.int cc1), .val (.int cc2), .val (.int cc3), .val (.int cc4), .val (.ref b71), .val (.int gt), .unset, .unset, .unset, .unset] [(.int (o1 + o2))])) _
        refine XS.iconst X83.here hx rfl (hb hby at_247) ?_
        show Steps p.tables e below (T83.setTop (mkF m 248 #[.val (.int p1), .val (.int p2), .val (.int p3), .val (.int p4), .val (.int p5), .val (.int (4 : Int32)), .val (.int cc1), .val (.int cc2), .val (.int cc3), .val (.int cc4), .val (.ref b71), .val (.int gt), .unset, .unset, .unset, .unset] [(.int (0 : Int32)), (.int (o1 + o2))])) _
        exact kt
      · simp only [if_neg hq240] at kt
        refine XS.ifNo X83.here hx rfl (hb hby at_240) rfl ((if0 _ _).trans (feq hq240).1) ?_
        show Steps p.tables e below (T83.setTop (mkF m 243 #[.val (.int p1), .val (.int p2), .val (.int p3), .val (.int p4), .val (.int p5), .val (.int (4 : Int32)), .val (.int cc1), .val (.int cc2), .val (.int cc3), .val (.int cc4), .val (.ref b71), .val (.int gt), .unset, .unset, .unset, .unset] [(.int (o1 + o2))])) _
        refine XS.iconst X83.here hx rfl (hb hby at_243) ?_
        show Steps p.tables e below (T83.setTop (mkF m 244 #[.val (.int p1), .val (.int p2), .val (.int p3), .val (.int p4), .val (.int p5), .val (.int (4 : Int32)), .val (.int cc1), .val (.int cc2), .val (.int cc3), .val (.int cc4), .val (.ref b71), .val (.int gt), .unset, .unset, .unset, .unset] [(.int (1 : Int32)), (.int (o1 + o2))])) _
        refine XS.goto X83.here hx rfl (pc0 := 244) (pc' := 248) rfl (hb hby at_244) (by decide) (by decide) ?_
        show Steps p.tables e below (T83.setTop (mkF m 248 #[.val (.int p1), .val (.int p2), .val (.int p3), .val (.int p4), .val (.int p5), .val (.int (4 : Int32)), .val (.int cc1), .val (.int cc2), .val (.int cc3), .val (.int cc4), .val (.ref b71), .val (.int gt), .unset, .unset, .unset, .unset] [(.int (1 : Int32)), (.int (o1 + o2))])) _
        exact kt
    show Goes p e below _ T83 (mkF m 248 #[.val (.int p1), .val (.int p2), .val (.int p3), .val (.int p4), .val (.int p5), .val (.int (4 : Int32)), .val (.int cc1), .val (.int cc2), .val (.int cc3), .val (.int cc4), .val (.ref b71), .val (.int gt), .unset, .unset, .unset, .unset] [(.int (if (digS cc3) = (0 : Int32) then (0 : Int32) else (1 : Int32))), (.int (o1 + o2))])
    refine goStatic 1 X83 hx hZ hown (hw _ (List.mem_of_getElem? (i := 42) rfl)) (hw _ (List.mem_of_getElem? (i := 43) rfl)) (hw _ (List.mem_of_getElem? (i := 3) rfl)) (hw _ (List.mem_of_getElem? (i := 44) rfl)) (by decide) (rm_one l Z a0 hw (if (digS cc3) = (0 : Int32) then (0 : Int32) else (1 : Int32)) T77.heap n0 O0) eT83 (g := (mkF m 248 #[.val (.int p1), .val (.int p2), .val (.int p3), .val (.int p4), .val (.int p5), .val (.int (4 : Int32)), .val (.int cc1), .val (.int cc2), .val (.int cc3), .val (.int cc4), .val (.ref b71), .val (.int gt), .unset, .unset, .unset, .unset] [(.int (if (digS cc3) = (0 : Int32) then (0 : Int32) else (1 : Int32))), (.int (o1 + o2))])) rfl (by rw [hml]; rfl) [(.int (if (digS cc3) = (0 : Int32) then (0 : Int32) else (1 : Int32)))] [(.int (o1 + o2))] (lenOf pd__Z_I rfl) rfl rfl (by show 2 * 0 + _ ≤ _; exact Nat.le_of_eq rfl) (hb hby at_248) (by decide) (by decide) (by decide) (by decide) ?_
    intro v84 T84 L84 X84 q84
    obtain ⟨rfl, Nq84, eT84⟩ := q84
    have N84 := Fr.app N83 Nq84
    show Goes p e below _ T84 (mkF m 251 #[.val (.int p1), .val (.int p2), .val (.int p3), .val (.int p4), .val (.int p5), .val (.int (4 : Int32)), .val (.int cc1), .val (.int cc2), .val (.int cc3), .val (.int cc4), .val (.ref b71), .val (.int gt), .unset, .unset, .unset, .unset] [(.int (if (if (digS cc3) = (0 : Int32) then (0 : Int32) else (1 : Int32)) = (0 : Int32) then (0 : Int32) else (1 : Int32))), (.int (o1 + o2))])
    generalize eo3 : (if (if (digS cc3) = (0 : Int32) then (0 : Int32) else (1 : Int32)) = (0 : Int32) then (0 : Int32) else (1 : Int32)) = o3
    show Goes p e below _ T84 (mkF m 251 #[.val (.int p1), .val (.int p2), .val (.int p3), .val (.int p4), .val (.int p5), .val (.int (4 : Int32)), .val (.int cc1), .val (.int cc2), .val (.int cc3), .val (.int cc4), .val (.ref b71), .val (.int gt), .unset, .unset, .unset, .unset] [(.int o3), (.int (o1 + o2))])
    refine Goes.of (fun _ => XS.iadd X84.here hx rfl (hb hby at_251) rfl) ?_
    show Goes p e below _ T84 (mkF m 252 #[.val (.int p1), .val (.int p2), .val (.int p3), .val (.int p4), .val (.int p5), .val (.int (4 : Int32)), .val (.int cc1), .val (.int cc2), .val (.int cc3), .val (.int cc4), .val (.ref b71), .val (.int gt), .unset, .unset, .unset, .unset] [(.int ((o1 + o2) + o3))])
    refine Goes.of (fun _ => XS.iload X84.here hx rfl (hb hby at_252) rfl) ?_
    show Goes p e below _ T84 (mkF m 254 #[.val (.int p1), .val (.int p2), .val (.int p3), .val (.int p4), .val (.int p5), .val (.int (4 : Int32)), .val (.int cc1), .val (.int cc2), .val (.int cc3), .val (.int cc4), .val (.ref b71), .val (.int gt), .unset, .unset, .unset, .unset] [(.int (4 : Int32)), (.int ((o1 + o2) + o3))])
    refine Goes.of (fun _ => XS.iconst X84.here hx rfl (hb hby at_254)) ?_
    show Goes p e below _ T84 (mkF m 255 #[.val (.int p1), .val (.int p2), .val (.int p3), .val (.int p4), .val (.int p5), .val (.int (4 : Int32)), .val (.int cc1), .val (.int cc2), .val (.int cc3), .val (.int cc4), .val (.ref b71), .val (.int gt), .unset, .unset, .unset, .unset] [(.int (3 : Int32)), (.int (4 : Int32)), (.int ((o1 + o2) + o3))])
    refine Goes.of (fun _ => XS.icmpNo X84.here hx rfl (hb hby at_255) rfl (tlt (by decide)).2.2.2) ?_
    show Goes p e below _ T84 (mkF m 258 #[.val (.int p1), .val (.int p2), .val (.int p3), .val (.int p4), .val (.int p5), .val (.int (4 : Int32)), .val (.int cc1), .val (.int cc2), .val (.int cc3), .val (.int cc4), .val (.ref b71), .val (.int gt), .unset, .unset, .unset, .unset] [(.int ((o1 + o2) + o3))])
    refine Goes.of (fun _ => XS.iload X84.here hx rfl (hb hby at_258) rfl) ?_
    show Goes p e below _ T84 (mkF m 260 #[.val (.int p1), .val (.int p2), .val (.int p3), .val (.int p4), .val (.int p5), .val (.int (4 : Int32)), .val (.int cc1), .val (.int cc2), .val (.int cc3), .val (.int cc4), .val (.ref b71), .val (.int gt), .unset, .unset, .unset, .unset] [(.int cc4), (.int ((o1 + o2) + o3))])
    refine goStatic 1 X84 hx hZ hown (hw _ (List.mem_of_getElem? (i := 77) rfl)) (hw _ (List.mem_of_getElem? (i := 78) rfl)) (hw _ (List.mem_of_getElem? (i := 3) rfl)) (hw _ (List.mem_of_getElem? (i := 79) rfl)) (by decide) (rm_dig l Z a0 hw cc4 T77.heap n0 O0) eT84 (g := (mkF m 260 #[.val (.int p1), .val (.int p2), .val (.int p3), .val (.int p4), .val (.int p5), .val (.int (4 : Int32)), .val (.int cc1), .val (.int cc2), .val (.int cc3), .val (.int cc4), .val (.ref b71), .val (.int gt), .unset, .unset, .unset, .unset] [(.int cc4), (.int ((o1 + o2) + o3))])) rfl (by rw [hml]; rfl) [(.int cc4)] [(.int ((o1 + o2) + o3))] (lenOf pd__C_Z rfl) rfl rfl (by show 2 * 0 + _ ≤ _; exact Nat.le_of_eq rfl) (hb hby at_260) (by decide) (by decide) (by decide) (by decide) ?_
    intro v85 T85 L85 X85 q85
    obtain ⟨rfl, Nq85, eT85⟩ := q85
    have N85 := Fr.app N84 Nq85
    show Goes p e below _ T85 (mkF m 263 #[.val (.int p1), .val (.int p2), .val (.int p3), .val (.int p4), .val (.int p5), .val (.int (4 : Int32)), .val (.int cc1), .val (.int cc2), .val (.int cc3), .val (.int cc4), .val (.ref b71), .val (.int gt), .unset, .unset, .unset, .unset] [(.int (digS cc4)), (.int ((o1 + o2) + o3))])
    refine Goes.of (T' := T85) (f' := (mkF m 271 #[.val (.int p1), .val (.int p2), .val (.int p3), .val (.int p4), .val (.int p5), .val (.int (4 : Int32)), .val (.int cc1), .val (.int cc2), .val (.int cc3), .val (.int cc4), .val (.ref b71), .val (.int gt), .unset, .unset, .unset, .unset] [(.int (if (digS cc4) = (0 : Int32) then (0 : Int32) else (1 : Int32))), (.int ((o1 + o2) + o3))])) (fun t kt => ?_) ?_
    · show Steps p.tables e below (T85.setTop (mkF m 263 #[.val (.int p1), .val (.int p2), .val (.int p3), .val (.int p4), .val (.int p5), .val (.int (4 : Int32)), .val (.int cc1), .val (.int cc2), .val (.int cc3), .val (.int cc4), .val (.ref b71), .val (.int gt), .unset, .unset, .unset, .unset] [(.int (digS cc4)), (.int ((o1 + o2) + o3))])) _
      by_cases hq263 : (digS cc4) = (0 : Int32)
      · simp only [if_pos hq263] at kt
        refine XS.ifYes X85.here hx rfl (pc0 := 263) (pc' := 270) rfl (hb hby at_263) rfl ((if0 _ _).trans (teq hq263).1) (by decide) (by decide) ?_
        show Steps p.tables e below (T85.setTop (mkF m 270 #[.val (.int p1), .val (.int p2), .val (.int p3), .val (.int p4), .val (.int p5), .val (.int (4 : Int32)), .val (.int cc1), .val (.int cc2), .val (.int cc3), .val (.int cc4), .val (.ref b71), .val (.int gt), .unset, .unset, .unset, .unset] [(.int ((o1 + o2) + o3))])) _
        refine XS.iconst X85.here hx rfl (hb hby at_270) ?_
        show Steps p.tables e below (T85.setTop (mkF m 271 #[.val (.int p1), .val (.int p2), .val (.int p3), .val (.int p4), .val (.int p5), .val (.int (4 : Int32)), .val (.int cc1), .val (.int cc2), .val (.int cc3), .val (.int cc4), .val (.ref b71), .val (.int gt), .unset, .unset, .unset, .unset] [(.int (0 : Int32)), (.int ((o1 + o2) + o3))])) _
        exact kt
      · simp only [if_neg hq263] at kt
        refine XS.ifNo X85.here hx rfl (hb hby at_263) rfl ((if0 _ _).trans (feq hq263).1) ?_
        show Steps p.tables e below (T85.setTop (mkF m 266 #[.val (.int p1), .val (.int p2), .val (.int p3), .val (.int p4), .val (.int p5), .val (.int (4 : Int32)), .val (.int cc1), .val (.int cc2), .val (.int cc3), .val (.int cc4), .val (.ref b71), .val (.int gt), .unset, .unset, .unset, .unset] [(.int ((o1 + o2) + o3))])) _
        refine XS.iconst X85.here hx rfl (hb hby at_266) ?_
        show Steps p.tables e below (T85.setTop (mkF m 267 #[.val (.int p1), .val (.int p2), .val (.int p3), .val (.int p4), .val (.int p5), .val (.int (4 : Int32)), .val (.int cc1), .val (.int cc2), .val (.int cc3), .val (.int cc4), .val (.ref b71), .val (.int gt), .unset, .unset, .unset, .unset] [(.int (1 : Int32)), (.int ((o1 + o2) + o3))])) _
        refine XS.goto X85.here hx rfl (pc0 := 267) (pc' := 271) rfl (hb hby at_267) (by decide) (by decide) ?_
        show Steps p.tables e below (T85.setTop (mkF m 271 #[.val (.int p1), .val (.int p2), .val (.int p3), .val (.int p4), .val (.int p5), .val (.int (4 : Int32)), .val (.int cc1), .val (.int cc2), .val (.int cc3), .val (.int cc4), .val (.ref b71), .val (.int gt), .unset, .unset, .unset, .unset] [(.int (1 : Int32)), (.int ((o1 + o2) + o3))])) _
        exact kt
    show Goes p e below _ T85 (mkF m 271 #[.val (.int p1), .val (.int p2), .val (.int p3), .val (.int p4), .val (.int p5), .val (.int (4 : Int32)), .val (.int cc1), .val (.int cc2), .val (.int cc3), .val (.int cc4), .val (.ref b71), .val (.int gt), .unset, .unset, .unset, .unset] [(.int (if (digS cc4) = (0 : Int32) then (0 : Int32) else (1 : Int32))), (.int ((o1 + o2) + o3))])
    refine goStatic 1 X85 hx hZ hown (hw _ (List.mem_of_getElem? (i := 42) rfl)) (hw _ (List.mem_of_getElem? (i := 43) rfl)) (hw _ (List.mem_of_getElem? (i := 3) rfl)) (hw _ (List.mem_of_getElem? (i := 44) rfl)) (by decide) (rm_one l Z a0 hw (if (digS cc4) = (0 : Int32) then (0 : Int32) else (1 : Int32)) T77.heap n0 O0) eT85 (g := (mkF m 271 #[.val (.int p1), .val (.int p2), .val (.int p3), .val (.int p4), .val (.int p5), .val (.int (4 : Int32)), .val (.int cc1), .val (.int cc2), .val (.int cc3), .val (.int cc4), .val (.ref b71), .val (.int gt), .unset, .unset, .unset, .unset] [(.int (if (digS cc4) = (0 : Int32) then (0 : Int32) else (1 : Int32))), (.int ((o1 + o2) + o3))])) rfl (by rw [hml]; rfl) [(.int (if (digS cc4) = (0 : Int32) then (0 : Int32) else (1 : Int32)))] [(.int ((o1 + o2) + o3))] (lenOf pd__Z_I rfl) rfl rfl (by show 2 * 0 + _ ≤ _; exact Nat.le_of_eq rfl) (hb hby at_271) (by decide) (by decide) (by decide) (by decide) ?_
    intro v86 T86 L86 X86 q86
    obtain ⟨rfl, Nq86, eT86⟩ := q86
    have N86 := Fr.app N85 Nq86
    show Goes p e below _ T86 (mkF m 274 #[.val (.int p1), .val (.int p2), .val (.int p3), .val (.int p4), .val (.int p5), .val (.int (4 : Int32)), .val (.int cc1), .val (.int cc2), .val (.int cc3), .val (.int cc4), .val (.ref b71), .val (.int gt), .unset, .unset, .unset, .unset] [(.int (if (if (digS cc4) = (0 : Int32) then (0 : Int32) else (1 : Int32)) = (0 : Int32) then (0 : Int32) else (1 : Int32))), (.int ((o1 + o2) + o3))])
    generalize eo4 : (if (if (digS cc4) = (0 : Int32) then (0 : Int32) else (1 : Int32)) = (0 : Int32) then (0 : Int32) else (1 : Int32)) = o4
    show Goes p e below _ T86 (mkF m 274 #[.val (.int p1), .val (.int p2), .val (.int p3), .val (.int p4), .val (.int p5), .val (.int (4 : Int32)), .val (.int cc1), .val (.int cc2), .val (.int cc3), .val (.int cc4), .val (.ref b71), .val (.int gt), .unset, .unset, .unset, .unset] [(.int o4), (.int ((o1 + o2) + o3))])
    refine Goes.of (fun _ => XS.iadd X86.here hx rfl (hb hby at_274) rfl) ?_
    show Goes p e below _ T86 (mkF m 275 #[.val (.int p1), .val (.int p2), .val (.int p3), .val (.int p4), .val (.int p5), .val (.int (4 : Int32)), .val (.int cc1), .val (.int cc2), .val (.int cc3), .val (.int cc4), .val (.ref b71), .val (.int gt), .unset, .unset, .unset, .unset] [(.int (((o1 + o2) + o3) + o4))])
    refine Goes.of (fun _ => XS.istore X86.here hx rfl (hb hby at_275) rfl (l' := #[.val (.int p1), .val (.int p2), .val (.int p3), .val (.int p4), .val (.int p5), .val (.int (4 : Int32)), .val (.int cc1), .val (.int cc2), .val (.int cc3), .val (.int cc4), .val (.ref b71), .val (.int gt), .val (.int (((o1 + o2) + o3) + o4)), .unset, .unset, .unset]) rfl) ?_
    show Goes p e below _ T86 (mkF m 277 #[.val (.int p1), .val (.int p2), .val (.int p3), .val (.int p4), .val (.int p5), .val (.int (4 : Int32)), .val (.int cc1), .val (.int cc2), .val (.int cc3), .val (.int cc4), .val (.ref b71), .val (.int gt), .val (.int (((o1 + o2) + o3) + o4)), .unset, .unset, .unset] [])
    generalize edg : (((o1 + o2) + o3) + o4) = dg
    show Goes p e below _ T86 (mkF m 277 #[.val (.int p1), .val (.int p2), .val (.int p3), .val (.int p4), .val (.int p5), .val (.int (4 : Int32)), .val (.int cc1), .val (.int cc2), .val (.int cc3), .val (.int cc4), .val (.ref b71), .val (.int gt), .val (.int dg), .unset, .unset, .unset] [])
    refine Goes.of (fun _ => XS.iload X86.here hx rfl (hb hby at_277) rfl) ?_
    show Goes p e below _ T86 (mkF m 279 #[.val (.int p1), .val (.int p2), .val (.int p3), .val (.int p4), .val (.int p5), .val (.int (4 : Int32)), .val (.int cc1), .val (.int cc2), .val (.int cc3), .val (.int cc4), .val (.ref b71), .val (.int gt), .val (.int dg), .unset, .unset, .unset] [(.int (4 : Int32))])
    refine Goes.of (fun _ => XS.ifNo X86.here hx rfl (hb hby at_279) rfl ((if0 _ _).trans (tlt (by decide)).2.2.2)) ?_
    show Goes p e below _ T86 (mkF m 282 #[.val (.int p1), .val (.int p2), .val (.int p3), .val (.int p4), .val (.int p5), .val (.int (4 : Int32)), .val (.int cc1), .val (.int cc2), .val (.int cc3), .val (.int cc4), .val (.ref b71), .val (.int gt), .val (.int dg), .unset, .unset, .unset] [])
    refine Goes.of (fun _ => XS.iload X86.here hx rfl (hb hby at_282) rfl) ?_
    show Goes p e below _ T86 (mkF m 284 #[.val (.int p1), .val (.int p2), .val (.int p3), .val (.int p4), .val (.int p5), .val (.int (4 : Int32)), .val (.int cc1), .val (.int cc2), .val (.int cc3), .val (.int cc4), .val (.ref b71), .val (.int gt), .val (.int dg), .unset, .unset, .unset] [(.int cc1)])
    refine Goes.of (fun _ => XS.bipush X86.here hx rfl (hb hby at_284)) ?_
    show Goes p e below _ T86 (mkF m 286 #[.val (.int p1), .val (.int p2), .val (.int p3), .val (.int p4), .val (.int p5), .val (.int (4 : Int32)), .val (.int cc1), .val (.int cc2), .val (.int cc3), .val (.int cc4), .val (.ref b71), .val (.int gt), .val (.int dg), .unset, .unset, .unset] [(.int (46 : Int32)), (.int cc1)])
    refine Goes.of (T' := T86) (f' := (mkF m 294 #[.val (.int p1), .val (.int p2), .val (.int p3), .val (.int p4), .val (.int p5), .val (.int (4 : Int32)), .val (.int cc1), .val (.int cc2), .val (.int cc3), .val (.int cc4), .val (.ref b71), .val (.int gt), .val (.int dg), .unset, .unset, .unset] [(.int (if cc1 = (46 : Int32) then (1 : Int32) else (0 : Int32)))])) (fun t kt => ?_) ?_
    · show Steps p.tables e below (T86.setTop (mkF m 286 #[.val (.int p1), .val (.int p2), .val (.int p3), .val (.int p4), .val (.int p5), .val (.int (4 : Int32)), .val (.int cc1), .val (.int cc2), .val (.int cc3), .val (.int cc4), .val (.ref b71), .val (.int gt), .val (.int dg), .unset, .unset, .unset] [(.int (46 : Int32)), (.int cc1)])) _
      by_cases hq286 : cc1 = (46 : Int32)
      · simp only [if_pos hq286] at kt
        refine XS.icmpNo X86.here hx rfl (hb hby at_286) rfl (teq hq286).2 ?_
        show Steps p.tables e below (T86.setTop (mkF m 289 #[.val (.int p1), .val (.int p2), .val (.int p3), .val (.int p4), .val (.int p5), .val (.int (4 : Int32)), .val (.int cc1), .val (.int cc2), .val (.int cc3), .val (.int cc4), .val (.ref b71), .val (.int gt), .val (.int dg), .unset, .unset, .unset] [])) _
        refine XS.iconst X86.here hx rfl (hb hby at_289) ?_
        show Steps p.tables e below (T86.setTop (mkF m 290 #[.val (.int p1), .val (.int p2), .val (.int p3), .val (.int p4), .val (.int p5), .val (.int (4 : Int32)), .val (.int cc1), .val (.int cc2), .val (.int cc3), .val (.int cc4), .val (.ref b71), .val (.int gt), .val (.int dg), .unset, .unset, .unset] [(.int (1 : Int32))])) _
        refine XS.goto X86.here hx rfl (pc0 := 290) (pc' := 294) rfl (hb hby at_290) (by decide) (by decide) ?_
        show Steps p.tables e below (T86.setTop (mkF m 294 #[.val (.int p1), .val (.int p2), .val (.int p3), .val (.int p4), .val (.int p5), .val (.int (4 : Int32)), .val (.int cc1), .val (.int cc2), .val (.int cc3), .val (.int cc4), .val (.ref b71), .val (.int gt), .val (.int dg), .unset, .unset, .unset] [(.int (1 : Int32))])) _
        exact kt
      · simp only [if_neg hq286] at kt
        refine XS.icmpYes X86.here hx rfl (pc0 := 286) (pc' := 293) rfl (hb hby at_286) rfl (feq hq286).2 (by decide) (by decide) ?_
        show Steps p.tables e below (T86.setTop (mkF m 293 #[.val (.int p1), .val (.int p2), .val (.int p3), .val (.int p4), .val (.int p5), .val (.int (4 : Int32)), .val (.int cc1), .val (.int cc2), .val (.int cc3), .val (.int cc4), .val (.ref b71), .val (.int gt), .val (.int dg), .unset, .unset, .unset] [])) _
        refine XS.iconst X86.here hx rfl (hb hby at_293) ?_
        show Steps p.tables e below (T86.setTop (mkF m 294 #[.val (.int p1), .val (.int p2), .val (.int p3), .val (.int p4), .val (.int p5), .val (.int (4 : Int32)), .val (.int cc1), .val (.int cc2), .val (.int cc3), .val (.int cc4), .val (.ref b71), .val (.int gt), .val (.int dg), .unset, .unset, .unset] [(.int (0 : Int32))])) _
        exact kt
    show Goes p e below _ T86 (mkF m 294 #[.val (.int p1), .val (.int p2), .val (.int p3), .val (.int p4), .val (.int p5), .val (.int (4 : Int32)), .val (.int cc1), .val (.int cc2), .val (.int cc3), .val (.int cc4), .val (.ref b71), .val (.int gt), .val (.int dg), .unset, .unset, .unset] [(.int (if cc1 = (46 : Int32) then (1 : Int32) else (0 : Int32)))])
    refine goStatic 0 X86 hx hZ hown (hw _ (List.mem_of_getElem? (i := 42) rfl)) (hw _ (List.mem_of_getElem? (i := 43) rfl)) (hw _ (List.mem_of_getElem? (i := 3) rfl)) (hw _ (List.mem_of_getElem? (i := 44) rfl)) (by decide) (rm_one l Z a0 hw (if cc1 = (46 : Int32) then (1 : Int32) else (0 : Int32)) T77.heap n0 O0) eT86 (g := (mkF m 294 #[.val (.int p1), .val (.int p2), .val (.int p3), .val (.int p4), .val (.int p5), .val (.int (4 : Int32)), .val (.int cc1), .val (.int cc2), .val (.int cc3), .val (.int cc4), .val (.ref b71), .val (.int gt), .val (.int dg), .unset, .unset, .unset] [(.int (if cc1 = (46 : Int32) then (1 : Int32) else (0 : Int32)))])) rfl (by rw [hml]; rfl) [(.int (if cc1 = (46 : Int32) then (1 : Int32) else (0 : Int32)))] [] (lenOf pd__Z_I rfl) rfl rfl (by show 2 * 0 + _ ≤ _; exact Nat.le_of_eq rfl) (hb hby at_294) (by decide) (by decide) (by decide) (by decide) ?_
    intro v87 T87 L87 X87 q87
    obtain ⟨rfl, Nq87, eT87⟩ := q87
    have N87 := Fr.app N86 Nq87
    show Goes p e below _ T87 (mkF m 297 #[.val (.int p1), .val (.int p2), .val (.int p3), .val (.int p4), .val (.int p5), .val (.int (4 : Int32)), .val (.int cc1), .val (.int cc2), .val (.int cc3), .val (.int cc4), .val (.ref b71), .val (.int gt), .val (.int dg), .unset, .unset, .unset] [(.int (if (if cc1 = (46 : Int32) then (1 : Int32) else (0 : Int32)) = (0 : Int32) then (0 : Int32) else (1 : Int32)))])
    generalize er1 : (if (if cc1 = (46 : Int32) then (1 : Int32) else (0 : Int32)) = (0 : Int32) then (0 : Int32) else (1 : Int32)) = r1
    show Goes p e below _ T87 (mkF m 297 #[.val (.int p1), .val (.int p2), .val (.int p3), .val (.int p4), .val (.int p5), .val (.int (4 : Int32)), .val (.int cc1), .val (.int cc2), .val (.int cc3), .val (.int cc4), .val (.ref b71), .val (.int gt), .val (.int dg), .unset, .unset, .unset] [(.int r1)])
    refine Goes.of (fun _ => XS.iload X87.here hx rfl (hb hby at_297) rfl) ?_
    show Goes p e below _ T87 (mkF m 299 #[.val (.int p1), .val (.int p2), .val (.int p3), .val (.int p4), .val (.int p5), .val (.int (4 : Int32)), .val (.int cc1), .val (.int cc2), .val (.int cc3), .val (.int cc4), .val (.ref b71), .val (.int gt), .val (.int dg), .unset, .unset, .unset] [(.int (4 : Int32)), (.int r1)])
    refine Goes.of (fun _ => XS.iconst X87.here hx rfl (hb hby at_299)) ?_
    show Goes p e below _ T87 (mkF m 300 #[.val (.int p1), .val (.int p2), .val (.int p3), .val (.int p4), .val (.int p5), .val (.int (4 : Int32)), .val (.int cc1), .val (.int cc2), .val (.int cc3), .val (.int cc4), .val (.ref b71), .val (.int gt), .val (.int dg), .unset, .unset, .unset] [(.int (1 : Int32)), (.int (4 : Int32)), (.int r1)])
    refine Goes.of (fun _ => XS.icmpNo X87.here hx rfl (hb hby at_300) rfl (tlt (by decide)).2.2.2) ?_
    show Goes p e below _ T87 (mkF m 303 #[.val (.int p1), .val (.int p2), .val (.int p3), .val (.int p4), .val (.int p5), .val (.int (4 : Int32)), .val (.int cc1), .val (.int cc2), .val (.int cc3), .val (.int cc4), .val (.ref b71), .val (.int gt), .val (.int dg), .unset, .unset, .unset] [(.int r1)])
    refine Goes.of (fun _ => XS.iload X87.here hx rfl (hb hby at_303) rfl) ?_
    show Goes p e below _ T87 (mkF m 305 #[.val (.int p1), .val (.int p2), .val (.int p3), .val (.int p4), .val (.int p5), .val (.int (4 : Int32)), .val (.int cc1), .val (.int cc2), .val (.int cc3), .val (.int cc4), .val (.ref b71), .val (.int gt), .val (.int dg), .unset, .unset, .unset] [(.int cc2), (.int r1)])
    refine Goes.of (fun _ => XS.bipush X87.here hx rfl (hb hby at_305)) ?_
    show Goes p e below _ T87 (mkF m 307 #[.val (.int p1), .val (.int p2), .val (.int p3), .val (.int p4), .val (.int p5), .val (.int (4 : Int32)), .val (.int cc1), .val (.int cc2), .val (.int cc3), .val (.int cc4), .val (.ref b71), .val (.int gt), .val (.int dg), .unset, .unset, .unset] [(.int (46 : Int32)), (.int cc2), (.int r1)])
    refine Goes.of (T' := T87) (f' := (mkF m 315 #[.val (.int p1), .val (.int p2), .val (.int p3), .val (.int p4), .val (.int p5), .val (.int (4 : Int32)), .val (.int cc1), .val (.int cc2), .val (.int cc3), .val (.int cc4), .val (.ref b71), .val (.int gt), .val (.int dg), .unset, .unset, .unset] [(.int (if cc2 = (46 : Int32) then (1 : Int32) else (0 : Int32))), (.int r1)])) (fun t kt => ?_) ?_
    · show Steps p.tables e below (T87.setTop (mkF m 307 #[.val (.int p1), .val (.int p2), .val (.int p3), .val (.int p4), .val (.int p5), .val (.int (4 : Int32)), .val (.int cc1), .val (.int cc2), .val (.int cc3), .val (.int cc4), .val (.ref b71), .val (.int gt), .val (.int dg), .unset, .unset, .unset] [(.int (46 : Int32)), (.int cc2), (.int r1)])) _
      by_cases hq307 : cc2 = (46 : Int32)
      · simp only [if_pos hq307] at kt
        refine XS.icmpNo X87.here hx rfl (hb hby at_307) rfl (teq hq307).2 ?_
        show Steps p.tables e below (T87.setTop (mkF m 310 #[.val (.int p1), .val (.int p2), .val (.int p3), .val (.int p4), .val (.int p5), .val (.int (4 : Int32)), .val (.int cc1), .val (.int cc2), .val (.int cc3), .val (.int cc4), .val (.ref b71), .val (.int gt), .val (.int dg), .unset, .unset, .unset] [(.int r1)])) _
        refine XS.iconst X87.here hx rfl (hb hby at_310) ?_
        show Steps p.tables e below (T87.setTop (mkF m 311 #[.val (.int p1), .val (.int p2), .val (.int p3), .val (.int p4), .val (.int p5), .val (.int (4 : Int32)), .val (.int cc1), .val (.int cc2), .val (.int cc3), .val (.int cc4), .val (.ref b71), .val (.int gt), .val (.int dg), .unset, .unset, .unset] [(.int (1 : Int32)), (.int r1)])) _
        refine XS.goto X87.here hx rfl (pc0 := 311) (pc' := 315) rfl (hb hby at_311) (by decide) (by decide) ?_
        show Steps p.tables e below (T87.setTop (mkF m 315 #[.val (.int p1), .val (.int p2), .val (.int p3), .val (.int p4), .val (.int p5), .val (.int (4 : Int32)), .val (.int cc1), .val (.int cc2), .val (.int cc3), .val (.int cc4), .val (.ref b71), .val (.int gt), .val (.int dg), .unset, .unset, .unset] [(.int (1 : Int32)), (.int r1)])) _
        exact kt
      · simp only [if_neg hq307] at kt
        refine XS.icmpYes X87.here hx rfl (pc0 := 307) (pc' := 314) rfl (hb hby at_307) rfl (feq hq307).2 (by decide) (by decide) ?_
        show Steps p.tables e below (T87.setTop (mkF m 314 #[.val (.int p1), .val (.int p2), .val (.int p3), .val (.int p4), .val (.int p5), .val (.int (4 : Int32)), .val (.int cc1), .val (.int cc2), .val (.int cc3), .val (.int cc4), .val (.ref b71), .val (.int gt), .val (.int dg), .unset, .unset, .unset] [(.int r1)])) _
        refine XS.iconst X87.here hx rfl (hb hby at_314) ?_
        show Steps p.tables e below (T87.setTop (mkF m 315 #[.val (.int p1), .val (.int p2), .val (.int p3), .val (.int p4), .val (.int p5), .val (.int (4 : Int32)), .val (.int cc1), .val (.int cc2), .val (.int cc3), .val (.int cc4), .val (.ref b71), .val (.int gt), .val (.int dg), .unset, .unset, .unset] [(.int (0 : Int32)), (.int r1)])) _
        exact kt
    show Goes p e below _ T87 (mkF m 315 #[.val (.int p1), .val (.int p2), .val (.int p3), .val (.int p4), .val (.int p5), .val (.int (4 : Int32)), .val (.int cc1), .val (.int cc2), .val (.int cc3), .val (.int cc4), .val (.ref b71), .val (.int gt), .val (.int dg), .unset, .unset, .unset] [(.int (if cc2 = (46 : Int32) then (1 : Int32) else (0 : Int32))), (.int r1)])
    refine goStatic 1 X87 hx hZ hown (hw _ (List.mem_of_getElem? (i := 42) rfl)) (hw _ (List.mem_of_getElem? (i := 43) rfl)) (hw _ (List.mem_of_getElem? (i := 3) rfl)) (hw _ (List.mem_of_getElem? (i := 44) rfl)) (by decide) (rm_one l Z a0 hw (if cc2 = (46 : Int32) then (1 : Int32) else (0 : Int32)) T77.heap n0 O0) eT87 (g := (mkF m 315 #[.val (.int p1), .val (.int p2), .val (.int p3), .val (.int p4), .val (.int p5), .val (.int (4 : Int32)), .val (.int cc1), .val (.int cc2), .val (.int cc3), .val (.int cc4), .val (.ref b71), .val (.int gt), .val (.int dg), .unset, .unset, .unset] [(.int (if cc2 = (46 : Int32) then (1 : Int32) else (0 : Int32))), (.int r1)])) rfl (by rw [hml]; rfl) [(.int (if cc2 = (46 : Int32) then (1 : Int32) else (0 : Int32)))] [(.int r1)] (lenOf pd__Z_I rfl) rfl rfl (by show 2 * 0 + _ ≤ _; exact Nat.le_of_eq rfl) (hb hby at_315) (by decide) (by decide) (by decide) (by decide) ?_
    intro v88 T88 L88 X88 q88
    obtain ⟨rfl, Nq88, eT88⟩ := q88
    have N88 := Fr.app N87 Nq88
    show Goes p e below _ T88 (mkF m 318 #[.val (.int p1), .val (.int p2), .val (.int p3), .val (.int p4), .val (.int p5), .val (.int (4 : Int32)), .val (.int cc1), .val (.int cc2), .val (.int cc3), .val (.int cc4), .val (.ref b71), .val (.int gt), .val (.int dg), .unset, .unset, .unset] [(.int (if (if cc2 = (46 : Int32) then (1 : Int32) else (0 : Int32)) = (0 : Int32) then (0 : Int32) else (1 : Int32))), (.int r1)])
    generalize er2 : (if (if cc2 = (46 : Int32) then (1 : Int32) else (0 : Int32)) = (0 : Int32) then (0 : Int32) else (1 : Int32)) = r2
    show Goes p e below _ T88 (mkF m 318 #[.val (.int p1), .val (.int p2), .val (.int p3), .val (.int p4), .val (.int p5), .val (.int (4 : Int32)), .val (.int cc1), .val (.int cc2), .val (.int cc3), .val (.int cc4), .val (.ref b71), .val (.int gt), .val (.int dg), .unset, .unset, .unset] [(.int r2), (.int r1)])
    refine Goes.of (fun _ => XS.iadd X88.here hx rfl (hb hby at_318) rfl) ?_
    show Goes p e below _ T88 (mkF m 319 #[.val (.int p1), .val (.int p2), .val (.int p3), .val (.int p4), .val (.int p5), .val (.int (4 : Int32)), .val (.int cc1), .val (.int cc2), .val (.int cc3), .val (.int cc4), .val (.ref b71), .val (.int gt), .val (.int dg), .unset, .unset, .unset] [(.int (r1 + r2))])
    refine Goes.of (fun _ => XS.iload X88.here hx rfl (hb hby at_319) rfl) ?_
    show Goes p e below _ T88 (mkF m 321 #[.val (.int p1), .val (.int p2), .val (.int p3), .val (.int p4), .val (.int p5), .val (.int (4 : Int32)), .val (.int cc1), .val (.int cc2), .val (.int cc3), .val (.int cc4), .val (.ref b71), .val (.int gt), .val (.int dg), .unset, .unset, .unset] [(.int (4 : Int32)), (.int (r1 + r2))])
    refine Goes.of (fun _ => XS.iconst X88.here hx rfl (hb hby at_321)) ?_
    show Goes p e below _ T88 (mkF m 322 #[.val (.int p1), .val (.int p2), .val (.int p3), .val (.int p4), .val (.int p5), .val (.int (4 : Int32)), .val (.int cc1), .val (.int cc2), .val (.int cc3), .val (.int cc4), .val (.ref b71), .val (.int gt), .val (.int dg), .unset, .unset, .unset] [(.int (2 : Int32)), (.int (4 : Int32)), (.int (r1 + r2))])
    refine Goes.of (fun _ => XS.icmpNo X88.here hx rfl (hb hby at_322) rfl (tlt (by decide)).2.2.2) ?_
    show Goes p e below _ T88 (mkF m 325 #[.val (.int p1), .val (.int p2), .val (.int p3), .val (.int p4), .val (.int p5), .val (.int (4 : Int32)), .val (.int cc1), .val (.int cc2), .val (.int cc3), .val (.int cc4), .val (.ref b71), .val (.int gt), .val (.int dg), .unset, .unset, .unset] [(.int (r1 + r2))])
    refine Goes.of (fun _ => XS.iload X88.here hx rfl (hb hby at_325) rfl) ?_
    show Goes p e below _ T88 (mkF m 327 #[.val (.int p1), .val (.int p2), .val (.int p3), .val (.int p4), .val (.int p5), .val (.int (4 : Int32)), .val (.int cc1), .val (.int cc2), .val (.int cc3), .val (.int cc4), .val (.ref b71), .val (.int gt), .val (.int dg), .unset, .unset, .unset] [(.int cc3), (.int (r1 + r2))])
    refine Goes.of (fun _ => XS.bipush X88.here hx rfl (hb hby at_327)) ?_
    show Goes p e below _ T88 (mkF m 329 #[.val (.int p1), .val (.int p2), .val (.int p3), .val (.int p4), .val (.int p5), .val (.int (4 : Int32)), .val (.int cc1), .val (.int cc2), .val (.int cc3), .val (.int cc4), .val (.ref b71), .val (.int gt), .val (.int dg), .unset, .unset, .unset] [(.int (46 : Int32)), (.int cc3), (.int (r1 + r2))])
    refine Goes.of (T' := T88) (f' := (mkF m 337 #[.val (.int p1), .val (.int p2), .val (.int p3), .val (.int p4), .val (.int p5), .val (.int (4 : Int32)), .val (.int cc1), .val (.int cc2), .val (.int cc3), .val (.int cc4), .val (.ref b71), .val (.int gt), .val (.int dg), .unset, .unset, .unset] [(.int (if cc3 = (46 : Int32) then (1 : Int32) else (0 : Int32))), (.int (r1 + r2))])) (fun t kt => ?_) ?_
    · show Steps p.tables e below (T88.setTop (mkF m 329 #[.val (.int p1), .val (.int p2), .val (.int p3), .val (.int p4), .val (.int p5), .val (.int (4 : Int32)), .val (.int cc1), .val (.int cc2), .val (.int cc3), .val (.int cc4), .val (.ref b71), .val (.int gt), .val (.int dg), .unset, .unset, .unset] [(.int (46 : Int32)), (.int cc3), (.int (r1 + r2))])) _
      by_cases hq329 : cc3 = (46 : Int32)
      · simp only [if_pos hq329] at kt
        refine XS.icmpNo X88.here hx rfl (hb hby at_329) rfl (teq hq329).2 ?_
        show Steps p.tables e below (T88.setTop (mkF m 332 #[.val (.int p1), .val (.int p2), .val (.int p3), .val (.int p4), .val (.int p5), .val (.int (4 : Int32)), .val (.int cc1), .val (.int cc2), .val (.int cc3), .val (.int cc4), .val (.ref b71), .val (.int gt), .val (.int dg), .unset, .unset, .unset] [(.int (r1 + r2))])) _
        refine XS.iconst X88.here hx rfl (hb hby at_332) ?_
        show Steps p.tables e below (T88.setTop (mkF m 333 #[.val (.int p1), .val (.int p2), .val (.int p3), .val (.int p4), .val (.int p5), .val (.int (4 : Int32)), .val (.int cc1), .val (.int cc2), .val (.int cc3), .val (.int cc4), .val (.ref b71), .val (.int gt), .val (.int dg), .unset, .unset, .unset] [(.int (1 : Int32)), (.int (r1 + r2))])) _
        refine XS.goto X88.here hx rfl (pc0 := 333) (pc' := 337) rfl (hb hby at_333) (by decide) (by decide) ?_
        show Steps p.tables e below (T88.setTop (mkF m 337 #[.val (.int p1), .val (.int p2), .val (.int p3), .val (.int p4), .val (.int p5), .val (.int (4 : Int32)), .val (.int cc1), .val (.int cc2), .val (.int cc3), .val (.int cc4), .val (.ref b71), .val (.int gt), .val (.int dg), .unset, .unset, .unset] [(.int (1 : Int32)), (.int (r1 + r2))])) _
        exact kt
      · simp only [if_neg hq329] at kt
        refine XS.icmpYes X88.here hx rfl (pc0 := 329) (pc' := 336) rfl (hb hby at_329) rfl (feq hq329).2 (by decide) (by decide) ?_
        show Steps p.tables e below (T88.setTop (mkF m 336 #[.val (.int p1), .val (.int p2), .val (.int p3), .val (.int p4), .val (.int p5), .val (.int (4 : Int32)), .val (.int cc1), .val (.int cc2), .val (.int cc3), .val (.int cc4), .val (.ref b71), .val (.int gt), .val (.int dg), .unset, .unset, .unset] [(.int (r1 + r2))])) _
        refine XS.iconst X88.here hx rfl (hb hby at_336) ?_
        show Steps p.tables e below (T88.setTop (mkF m 337 #[.val (.int p1), .val (.int p2), .val (.int p3), .val (.int p4), .val (.int p5), .val (.int (4 : Int32)), .val (.int cc1), .val (.int cc2), .val (.int cc3), .val (.int cc4), .val (.ref b71), .val (.int gt), .val (.int dg), .unset, .unset, .unset] [(.int (0 : Int32)), (.int (r1 + r2))])) _
        exact kt
    show Goes p e below _ T88 (mkF m 337 #[.val (.int p1), .val (.int p2), .val (.int p3), .val (.int p4), .val (.int p5), .val (.int (4 : Int32)), .val (.int cc1), .val (.int cc2), .val (.int cc3), .val (.int cc4), .val (.ref b71), .val (.int gt), .val (.int dg), .unset, .unset, .unset] [(.int (if cc3 = (46 : Int32) then (1 : Int32) else (0 : Int32))), (.int (r1 + r2))])
    refine goStatic 1 X88 hx hZ hown (hw _ (List.mem_of_getElem? (i := 42) rfl)) (hw _ (List.mem_of_getElem? (i := 43) rfl)) (hw _ (List.mem_of_getElem? (i := 3) rfl)) (hw _ (List.mem_of_getElem? (i := 44) rfl)) (by decide) (rm_one l Z a0 hw (if cc3 = (46 : Int32) then (1 : Int32) else (0 : Int32)) T77.heap n0 O0) eT88 (g := (mkF m 337 #[.val (.int p1), .val (.int p2), .val (.int p3), .val (.int p4), .val (.int p5), .val (.int (4 : Int32)), .val (.int cc1), .val (.int cc2), .val (.int cc3), .val (.int cc4), .val (.ref b71), .val (.int gt), .val (.int dg), .unset, .unset, .unset] [(.int (if cc3 = (46 : Int32) then (1 : Int32) else (0 : Int32))), (.int (r1 + r2))])) rfl (by rw [hml]; rfl) [(.int (if cc3 = (46 : Int32) then (1 : Int32) else (0 : Int32)))] [(.int (r1 + r2))] (lenOf pd__Z_I rfl) rfl rfl (by show 2 * 0 + _ ≤ _; exact Nat.le_of_eq rfl) (hb hby at_337) (by decide) (by decide) (by decide) (by decide) ?_
    intro v89 T89 L89 X89 q89
    obtain ⟨rfl, Nq89, eT89⟩ := q89
    have N89 := Fr.app N88 Nq89
    show Goes p e below _ T89 (mkF m 340 #[.val (.int p1), .val (.int p2), .val (.int p3), .val (.int p4), .val (.int p5), .val (.int (4 : Int32)), .val (.int cc1), .val (.int cc2), .val (.int cc3), .val (.int cc4), .val (.ref b71), .val (.int gt), .val (.int dg), .unset, .unset, .unset] [(.int (if (if cc3 = (46 : Int32) then (1 : Int32) else (0 : Int32)) = (0 : Int32) then (0 : Int32) else (1 : Int32))), (.int (r1 + r2))])
    generalize er3 : (if (if cc3 = (46 : Int32) then (1 : Int32) else (0 : Int32)) = (0 : Int32) then (0 : Int32) else (1 : Int32)) = r3
    show Goes p e below _ T89 (mkF m 340 #[.val (.int p1), .val (.int p2), .val (.int p3), .val (.int p4), .val (.int p5), .val (.int (4 : Int32)), .val (.int cc1), .val (.int cc2), .val (.int cc3), .val (.int cc4), .val (.ref b71), .val (.int gt), .val (.int dg), .unset, .unset, .unset] [(.int r3), (.int (r1 + r2))])
    refine Goes.of (fun _ => XS.iadd X89.here hx rfl (hb hby at_340) rfl) ?_
    show Goes p e below _ T89 (mkF m 341 #[.val (.int p1), .val (.int p2), .val (.int p3), .val (.int p4), .val (.int p5), .val (.int (4 : Int32)), .val (.int cc1), .val (.int cc2), .val (.int cc3), .val (.int cc4), .val (.ref b71), .val (.int gt), .val (.int dg), .unset, .unset, .unset] [(.int ((r1 + r2) + r3))])
    refine Goes.of (fun _ => XS.iload X89.here hx rfl (hb hby at_341) rfl) ?_
    show Goes p e below _ T89 (mkF m 343 #[.val (.int p1), .val (.int p2), .val (.int p3), .val (.int p4), .val (.int p5), .val (.int (4 : Int32)), .val (.int cc1), .val (.int cc2), .val (.int cc3), .val (.int cc4), .val (.ref b71), .val (.int gt), .val (.int dg), .unset, .unset, .unset] [(.int (4 : Int32)), (.int ((r1 + r2) + r3))])
    refine Goes.of (fun _ => XS.iconst X89.here hx rfl (hb hby at_343)) ?_
    show Goes p e below _ T89 (mkF m 344 #[.val (.int p1), .val (.int p2), .val (.int p3), .val (.int p4), .val (.int p5), .val (.int (4 : Int32)), .val (.int cc1), .val (.int cc2), .val (.int cc3), .val (.int cc4), .val (.ref b71), .val (.int gt), .val (.int dg), .unset, .unset, .unset] [(.int (3 : Int32)), (.int (4 : Int32)), (.int ((r1 + r2) + r3))])
    refine Goes.of (fun _ => XS.icmpNo X89.here hx rfl (hb hby at_344) rfl (tlt (by decide)).2.2.2) ?_
    show Goes p e below _ T89 (mkF m 347 #[.val (.int p1), .val (.int p2), .val (.int p3), .val (.int p4), .val (.int p5), .val (.int (4 : Int32)), .val (.int cc1), .val (.int cc2), .val (.int cc3), .val (.int cc4), .val (.ref b71), .val (.int gt), .val (.int dg), .unset, .unset, .unset] [(.int ((r1 + r2) + r3))])
    refine Goes.of (fun _ => XS.iload X89.here hx rfl (hb hby at_347) rfl) ?_
    show Goes p e below _ T89 (mkF m 349 #[.val (.int p1), .val (.int p2), .val (.int p3), .val (.int p4), .val (.int p5), .val (.int (4 : Int32)), .val (.int cc1), .val (.int cc2), .val (.int cc3), .val (.int cc4), .val (.ref b71), .val (.int gt), .val (.int dg), .unset, .unset, .unset] [(.int cc4), (.int ((r1 + r2) + r3))])
    refine Goes.of (fun _ => XS.bipush X89.here hx rfl (hb hby at_349)) ?_
    show Goes p e below _ T89 (mkF m 351 #[.val (.int p1), .val (.int p2), .val (.int p3), .val (.int p4), .val (.int p5), .val (.int (4 : Int32)), .val (.int cc1), .val (.int cc2), .val (.int cc3), .val (.int cc4), .val (.ref b71), .val (.int gt), .val (.int dg), .unset, .unset, .unset] [(.int (46 : Int32)), (.int cc4), (.int ((r1 + r2) + r3))])
    refine Goes.of (T' := T89) (f' := (mkF m 359 #[.val (.int p1), .val (.int p2), .val (.int p3), .val (.int p4), .val (.int p5), .val (.int (4 : Int32)), .val (.int cc1), .val (.int cc2), .val (.int cc3), .val (.int cc4), .val (.ref b71), .val (.int gt), .val (.int dg), .unset, .unset, .unset] [(.int (if cc4 = (46 : Int32) then (1 : Int32) else (0 : Int32))), (.int ((r1 + r2) + r3))])) (fun t kt => ?_) ?_
    · show Steps p.tables e below (T89.setTop (mkF m 351 #[.val (.int p1), .val (.int p2), .val (.int p3), .val (.int p4), .val (.int p5), .val (.int (4 : Int32)), .val (.int cc1), .val (.int cc2), .val (.int cc3), .val (.int cc4), .val (.ref b71), .val (.int gt), .val (.int dg), .unset, .unset, .unset] [(.int (46 : Int32)), (.int cc4), (.int ((r1 + r2) + r3))])) _
      by_cases hq351 : cc4 = (46 : Int32)
      · simp only [if_pos hq351] at kt
        refine XS.icmpNo X89.here hx rfl (hb hby at_351) rfl (teq hq351).2 ?_
        show Steps p.tables e below (T89.setTop (mkF m 354 #[.val (.int p1), .val (.int p2), .val (.int p3), .val (.int p4), .val (.int p5), .val (.int (4 : Int32)), .val (.int cc1), .val (.int cc2), .val (.int cc3), .val (.int cc4), .val (.ref b71), .val (.int gt), .val (.int dg), .unset, .unset, .unset] [(.int ((r1 + r2) + r3))])) _
        refine XS.iconst X89.here hx rfl (hb hby at_354) ?_
        show Steps p.tables e below (T89.setTop (mkF m 355 #[.val (.int p1), .val (.int p2), .val (.int p3), .val (.int p4), .val (.int p5), .val (.int (4 : Int32)), .val (.int cc1), .val (.int cc2), .val (.int cc3), .val (.int cc4), .val (.ref b71), .val (.int gt), .val (.int dg), .unset, .unset, .unset] [(.int (1 : Int32)), (.int ((r1 + r2) + r3))])) _
        refine XS.goto X89.here hx rfl (pc0 := 355) (pc' := 359) rfl (hb hby at_355) (by decide) (by decide) ?_
        show Steps p.tables e below (T89.setTop (mkF m 359 #[.val (.int p1), .val (.int p2), .val (.int p3), .val (.int p4), .val (.int p5), .val (.int (4 : Int32)), .val (.int cc1), .val (.int cc2), .val (.int cc3), .val (.int cc4), .val (.ref b71), .val (.int gt), .val (.int dg), .unset, .unset, .unset] [(.int (1 : Int32)), (.int ((r1 + r2) + r3))])) _
        exact kt
      · simp only [if_neg hq351] at kt
        refine XS.icmpYes X89.here hx rfl (pc0 := 351) (pc' := 358) rfl (hb hby at_351) rfl (feq hq351).2 (by decide) (by decide) ?_
        show Steps p.tables e below (T89.setTop (mkF m 358 #[.val (.int p1), .val (.int p2), .val (.int p3), .val (.int p4), .val (.int p5), .val (.int (4 : Int32)), .val (.int cc1), .val (.int cc2), .val (.int cc3), .val (.int cc4), .val (.ref b71), .val (.int gt), .val (.int dg), .unset, .unset, .unset] [(.int ((r1 + r2) + r3))])) _
        refine XS.iconst X89.here hx rfl (hb hby at_358) ?_
        show Steps p.tables e below (T89.setTop (mkF m 359 #[.val (.int p1), .val (.int p2), .val (.int p3), .val (.int p4), .val (.int p5), .val (.int (4 : Int32)), .val (.int cc1), .val (.int cc2), .val (.int cc3), .val (.int cc4), .val (.ref b71), .val (.int gt), .val (.int dg), .unset, .unset, .unset] [(.int (0 : Int32)), (.int ((r1 + r2) + r3))])) _
        exact kt
    show Goes p e below _ T89 (mkF m 359 #[.val (.int p1), .val (.int p2), .val (.int p3), .val (.int p4), .val (.int p5), .val (.int (4 : Int32)), .val (.int cc1), .val (.int cc2), .val (.int cc3), .val (.int cc4), .val (.ref b71), .val (.int gt), .val (.int dg), .unset, .unset, .unset] [(.int (if cc4 = (46 : Int32) then (1 : Int32) else (0 : Int32))), (.int ((r1 + r2) + r3))])
    refine goStatic 1 X89 hx hZ hown (hw _ (List.mem_of_getElem? (i := 42) rfl)) (hw _ (List.mem_of_getElem? (i := 43) rfl)) (hw _ (List.mem_of_getElem? (i := 3) rfl)) (hw _ (List.mem_of_getElem? (i := 44) rfl)) (by decide) (rm_one l Z a0 hw (if cc4 = (46 : Int32) then (1 : Int32) else (0 : Int32)) T77.heap n0 O0) eT89 (g := (mkF m 359 #[.val (.int p1), .val (.int p2), .val (.int p3), .val (.int p4), .val (.int p5), .val (.int (4 : Int32)), .val (.int cc1), .val (.int cc2), .val (.int cc3), .val (.int cc4), .val (.ref b71), .val (.int gt), .val (.int dg), .unset, .unset, .unset] [(.int (if cc4 = (46 : Int32) then (1 : Int32) else (0 : Int32))), (.int ((r1 + r2) + r3))])) rfl (by rw [hml]; rfl) [(.int (if cc4 = (46 : Int32) then (1 : Int32) else (0 : Int32)))] [(.int ((r1 + r2) + r3))] (lenOf pd__Z_I rfl) rfl rfl (by show 2 * 0 + _ ≤ _; exact Nat.le_of_eq rfl) (hb hby at_359) (by decide) (by decide) (by decide) (by decide) ?_
    intro v90 T90 L90 X90 q90
    obtain ⟨rfl, Nq90, eT90⟩ := q90
    have N90 := Fr.app N89 Nq90
    show Goes p e below _ T90 (mkF m 362 #[.val (.int p1), .val (.int p2), .val (.int p3), .val (.int p4), .val (.int p5), .val (.int (4 : Int32)), .val (.int cc1), .val (.int cc2), .val (.int cc3), .val (.int cc4), .val (.ref b71), .val (.int gt), .val (.int dg), .unset, .unset, .unset] [(.int (if (if cc4 = (46 : Int32) then (1 : Int32) else (0 : Int32)) = (0 : Int32) then (0 : Int32) else (1 : Int32))), (.int ((r1 + r2) + r3))])
    generalize er4 : (if (if cc4 = (46 : Int32) then (1 : Int32) else (0 : Int32)) = (0 : Int32) then (0 : Int32) else (1 : Int32)) = r4
    show Goes p e below _ T90 (mkF m 362 #[.val (.int p1), .val (.int p2), .val (.int p3), .val (.int p4), .val (.int p5), .val (.int (4 : Int32)), .val (.int cc1), .val (.int cc2), .val (.int cc3), .val (.int cc4), .val (.ref b71), .val (.int gt), .val (.int dg), .unset, .unset, .unset] [(.int r4), (.int ((r1 + r2) + r3))])
    refine Goes.of (fun _ => XS.iadd X90.here hx rfl (hb hby at_362) rfl) ?_
    show Goes p e below _ T90 (mkF m 363 #[.val (.int p1), .val (.int p2), .val (.int p3), .val (.int p4), .val (.int p5), .val (.int (4 : Int32)), .val (.int cc1), .val (.int cc2), .val (.int cc3), .val (.int cc4), .val (.ref b71), .val (.int gt), .val (.int dg), .unset, .unset, .unset] [(.int (((r1 + r2) + r3) + r4))])
    refine Goes.of (fun _ => XS.istore X90.here hx rfl (hb hby at_363) rfl (l' := #[.val (.int p1), .val (.int p2), .val (.int p3), .val (.int p4), .val (.int p5), .val (.int (4 : Int32)), .val (.int cc1), .val (.int cc2), .val (.int cc3), .val (.int cc4), .val (.ref b71), .val (.int gt), .val (.int dg), .val (.int (((r1 + r2) + r3) + r4)), .unset, .unset]) rfl) ?_
    show Goes p e below _ T90 (mkF m 365 #[.val (.int p1), .val (.int p2), .val (.int p3), .val (.int p4), .val (.int p5), .val (.int (4 : Int32)), .val (.int cc1), .val (.int cc2), .val (.int cc3), .val (.int cc4), .val (.ref b71), .val (.int gt), .val (.int dg), .val (.int (((r1 + r2) + r3) + r4)), .unset, .unset] [])
    generalize ept : (((r1 + r2) + r3) + r4) = pt
    show Goes p e below _ T90 (mkF m 365 #[.val (.int p1), .val (.int p2), .val (.int p3), .val (.int p4), .val (.int p5), .val (.int (4 : Int32)), .val (.int cc1), .val (.int cc2), .val (.int cc3), .val (.int cc4), .val (.ref b71), .val (.int gt), .val (.int dg), .val (.int pt), .unset, .unset] [])
    refine Goes.of (fun _ => XS.iconst X90.here hx rfl (hb hby at_365)) ?_
    show Goes p e below _ T90 (mkF m 366 #[.val (.int p1), .val (.int p2), .val (.int p3), .val (.int p4), .val (.int p5), .val (.int (4 : Int32)), .val (.int cc1), .val (.int cc2), .val (.int cc3), .val (.int cc4), .val (.ref b71), .val (.int gt), .val (.int dg), .val (.int pt), .unset, .unset] [(.int (1 : Int32))])
    refine Goes.of (fun _ => XS.istore X90.here hx rfl (hb hby at_366) rfl (l' := #[.val (.int p1), .val (.int p2), .val (.int p3), .val (.int p4), .val (.int p5), .val (.int (4 : Int32)), .val (.int cc1), .val (.int cc2), .val (.int cc3), .val (.int cc4), .val (.ref b71), .val (.int gt), .val (.int dg), .val (.int pt), .val (.int (1 : Int32)), .unset]) rfl) ?_
    show Goes p e below _ T90 (mkF m 368 #[.val (.int p1), .val (.int p2), .val (.int p3), .val (.int p4), .val (.int p5), .val (.int (4 : Int32)), .val (.int cc1), .val (.int cc2), .val (.int cc3), .val (.int cc4), .val (.ref b71), .val (.int gt), .val (.int dg), .val (.int pt), .val (.int (1 : Int32)), .unset] [])
    refine Goes.of (fun _ => XS.iload X90.here hx rfl (hb hby at_368) rfl) ?_
    show Goes p e below _ T90 (mkF m 370 #[.val (.int p1), .val (.int p2), .val (.int p3), .val (.int p4), .val (.int p5), .val (.int (4 : Int32)), .val (.int cc1), .val (.int cc2), .val (.int cc3), .val (.int cc4), .val (.ref b71), .val (.int gt), .val (.int dg), .val (.int pt), .val (.int (1 : Int32)), .unset] [(.int (4 : Int32))])
    refine Goes.of (fun _ => XS.ifNo X90.here hx rfl (hb hby at_370) rfl ((if0 _ _).trans (tlt (by decide)).2.2.2)) ?_
    show Goes p e below _ T90 (mkF m 373 #[.val (.int p1), .val (.int p2), .val (.int p3), .val (.int p4), .val (.int p5), .val (.int (4 : Int32)), .val (.int cc1), .val (.int cc2), .val (.int cc3), .val (.int cc4), .val (.ref b71), .val (.int gt), .val (.int dg), .val (.int pt), .val (.int (1 : Int32)), .unset] [])
    refine Goes.of (fun _ => XS.iload X90.here hx rfl (hb hby at_373) rfl) ?_
    show Goes p e below _ T90 (mkF m 375 #[.val (.int p1), .val (.int p2), .val (.int p3), .val (.int p4), .val (.int p5), .val (.int (4 : Int32)), .val (.int cc1), .val (.int cc2), .val (.int cc3), .val (.int cc4), .val (.ref b71), .val (.int gt), .val (.int dg), .val (.int pt), .val (.int (1 : Int32)), .unset] [(.int cc1)])
    refine goStatic 0 X90 hx hZ hown (hw _ (List.mem_of_getElem? (i := 77) rfl)) (hw _ (List.mem_of_getElem? (i := 78) rfl)) (hw _ (List.mem_of_getElem? (i := 3) rfl)) (hw _ (List.mem_of_getElem? (i := 79) rfl)) (by decide) (rm_dig l Z a0 hw cc1 T77.heap n0 O0) eT90 (g := (mkF m 375 #[.val (.int p1), .val (.int p2), .val (.int p3), .val (.int p4), .val (.int p5), .val (.int (4 : Int32)), .val (.int cc1), .val (.int cc2), .val (.int cc3), .val (.int cc4), .val (.ref b71), .val (.int gt), .val (.int dg), .val (.int pt), .val (.int (1 : Int32)), .unset] [(.int cc1)])) rfl (by rw [hml]; rfl) [(.int cc1)] [] (lenOf pd__C_Z rfl) rfl rfl (by show 2 * 0 + _ ≤ _; exact Nat.le_of_eq rfl) (hb hby at_375) (by decide) (by decide) (by decide) (by decide) ?_
    intro v91 T91 L91 X91 q91
    obtain ⟨rfl, Nq91, eT91⟩ := q91
    have N91 := Fr.app N90 Nq91
    show Goes p e below _ T91 (mkF m 378 #[.val (.int p1), .val (.int p2), .val (.int p3), .val (.int p4), .val (.int p5), .val (.int (4 : Int32)), .val (.int cc1), .val (.int cc2), .val (.int cc3), .val (.int cc4), .val (.ref b71), .val (.int gt), .val (.int dg), .val (.int pt), .val (.int (1 : Int32)), .unset] [(.int (digS cc1))])
    refine Goes.of (T' := T91) (f' := (mkF m 405 #[.val (.int p1), .val (.int p2), .val (.int p3), .val (.int p4), .val (.int p5), .val (.int (4 : Int32)), .val (.int cc1), .val (.int cc2), .val (.int cc3), .val (.int cc4), .val (.ref b71), .val (.int gt), .val (.int dg), .val (.int pt), .val (.int (if (digS cc1) = (0 : Int32) then (if cc1 = (46 : Int32) then (1 : Int32) else (if cc1 = (43 : Int32) then (1 : Int32) else (if cc1 = (45 : Int32) then (1 : Int32) else (0 : Int32)))) else (1 : Int32))), .unset] [])) (fun t kt => ?_) ?_
    · show Steps p.tables e below (T91.setTop (mkF m 378 #[.val (.int p1), .val (.int p2), .val (.int p3), .val (.int p4), .val (.int p5), .val (.int (4 : Int32)), .val (.int cc1), .val (.int cc2), .val (.int cc3), .val (.int cc4), .val (.ref b71), .val (.int gt), .val (.int dg), .val (.int pt), .val (.int (1 : Int32)), .unset] [(.int (digS cc1))])) _
      by_cases hq378 : (digS cc1) = (0 : Int32)
      · simp only [if_pos hq378] at kt
        refine XS.ifNo X91.here hx rfl (hb hby at_378) rfl ((if0 _ _).trans (teq hq378).2) ?_
        show Steps p.tables e below (T91.setTop (mkF m 381 #[.val (.int p1), .val (.int p2), .val (.int p3), .val (.int p4), .val (.int p5), .val (.int (4 : Int32)), .val (.int cc1), .val (.int cc2), .val (.int cc3), .val (.int cc4), .val (.ref b71), .val (.int gt), .val (.int dg), .val (.int pt), .val (.int (1 : Int32)), .unset] [])) _
        refine XS.iload X91.here hx rfl (hb hby at_381) rfl ?_
        show Steps p.tables e below (T91.setTop (mkF m 383 #[.val (.int p1), .val (.int p2), .val (.int p3), .val (.int p4), .val (.int p5), .val (.int (4 : Int32)), .val (.int cc1), .val (.int cc2), .val (.int cc3), .val (.int cc4), .val (.ref b71), .val (.int gt), .val (.int dg), .val (.int pt), .val (.int (1 : Int32)), .unset] [(.int cc1)])) _
        refine XS.bipush X91.here hx rfl (hb hby at_383) ?_
        show Steps p.tables e below (T91.setTop (mkF m 385 #[.val (.int p1), .val (.int p2), .val (.int p3), .val (.int p4), .val (.int p5), .val (.int (4 : Int32)), .val (.int cc1), .val (.int cc2), .val (.int cc3), .val (.int cc4), .val (.ref b71), .val (.int gt), .val (.int dg), .val (.int pt), .val (.int (1 : Int32)), .unset] [(.int (46 : Int32)), (.int cc1)])) _
        by_cases hq385 : cc1 = (46 : Int32)
        · simp only [if_pos hq385] at kt
          refine XS.icmpYes X91.here hx rfl (pc0 := 385) (pc' := 405) rfl (hb hby at_385) rfl (teq hq385).1 (by decide) (by decide) ?_
          show Steps p.tables e below (T91.setTop (mkF m 405 #[.val (.int p1), .val (.int p2), .val (.int p3), .val (.int p4), .val (.int p5), .val (.int (4 : Int32)), .val (.int cc1), .val (.int cc2), .val (.int cc3), .val (.int cc4), .val (.ref b71), .val (.int gt), .val (.int dg), .val (.int pt), .val (.int (1 : Int32)), .unset] [])) _
          exact kt
        · simp only [if_neg hq385] at kt
          refine XS.icmpNo X91.here hx rfl (hb hby at_385) rfl (feq hq385).1 ?_
          show Steps p.tables e below (T91.setTop (mkF m 388 #[.val (.int p1), .val (.int p2), .val (.int p3), .val (.int p4), .val (.int p5), .val (.int (4 : Int32)), .val (.int cc1), .val (.int cc2), .val (.int cc3), .val (.int cc4), .val (.ref b71), .val (.int gt), .val (.int dg), .val (.int pt), .val (.int (1 : Int32)), .unset] [])) _
          refine XS.iload X91.here hx rfl (hb hby at_388) rfl ?_
          show Steps p.tables e below (T91.setTop (mkF m 390 #[.val (.int p1), .val (.int p2), .val (.int p3), .val (.int p4), .val (.int p5), .val (.int (4 : Int32)), .val (.int cc1), .val (.int cc2), .val (.int cc3), .val (.int cc4), .val (.ref b71), .val (.int gt), .val (.int dg), .val (.int pt), .val (.int (1 : Int32)), .unset] [(.int cc1)])) _
          refine XS.bipush X91.here hx rfl (hb hby at_390) ?_
          show Steps p.tables e below (T91.setTop (mkF m 392 #[.val (.int p1), .val (.int p2), .val (.int p3), .val (.int p4), .val (.int p5), .val (.int (4 : Int32)), .val (.int cc1), .val (.int cc2), .val (.int cc3), .val (.int cc4), .val (.ref b71), .val (.int gt), .val (.int dg), .val (.int pt), .val (.int (1 : Int32)), .unset] [(.int (43 : Int32)), (.int cc1)])) _
          by_cases hq392 : cc1 = (43 : Int32)
          · simp only [if_pos hq392] at kt
            refine XS.icmpYes X91.here hx rfl (pc0 := 392) (pc' := 405) rfl (hb hby at_392) rfl (teq hq392).1 (by decide) (by decide) ?_
            show Steps p.tables e below (T91.setTop (mkF m 405 #[.val (.int p1), .val (.int p2), .val (.int p3), .val (.int p4), .val (.int p5), .val (.int (4 : Int32)), .val (.int cc1), .val (.int cc2), .val (.int cc3), .val (.int cc4), .val (.ref b71), .val (.int gt), .val (.int dg), .val (.int pt), .val (.int (1 : Int32)), .unset] [])) _
            exact kt
          · simp only [if_neg hq392] at kt
            refine XS.icmpNo X91.here hx rfl (hb hby at_392) rfl (feq hq392).1 ?_
            show Steps p.tables e below (T91.setTop (mkF m 395 #[.val (.int p1), .val (.int p2), .val (.int p3), .val (.int p4), .val (.int p5), .val (.int (4 : Int32)), .val (.int cc1), .val (.int cc2), .val (.int cc3), .val (.int cc4), .val (.ref b71), .val (.int gt), .val (.int dg), .val (.int pt), .val (.int (1 : Int32)), .unset] [])) _
            refine XS.iload X91.here hx rfl (hb hby at_395) rfl ?_
            show Steps p.tables e below (T91.setTop (mkF m 397 #[.val (.int p1), .val (.int p2), .val (.int p3), .val (.int p4), .val (.int p5), .val (.int (4 : Int32)), .val (.int cc1), .val (.int cc2), .val (.int cc3), .val (.int cc4), .val (.ref b71), .val (.int gt), .val (.int dg), .val (.int pt), .val (.int (1 : Int32)), .unset] [(.int cc1)])) _
            refine XS.bipush X91.here hx rfl (hb hby at_397) ?_
            show Steps p.tables e below (T91.setTop (mkF m 399 #[.val (.int p1), .val (.int p2), .val (.int p3), .val (.int p4), .val (.int p5), .val (.int (4 : Int32)), .val (.int cc1), .val (.int cc2), .val (.int cc3), .val (.int cc4), .val (.ref b71), .val (.int gt), .val (.int dg), .val (.int pt), .val (.int (1 : Int32)), .unset] [(.int (45 : Int32)), (.int cc1)])) _
            by_cases hq399 : cc1 = (45 : Int32)
            · simp only [if_pos hq399] at kt
              refine XS.icmpYes X91.here hx rfl (pc0 := 399) (pc' := 405) rfl (hb hby at_399) rfl (teq hq399).1 (by decide) (by decide) ?_
              show Steps p.tables e below (T91.setTop (mkF m 405 #[.val (.int p1), .val (.int p2), .val (.int p3), .val (.int p4), .val (.int p5), .val (.int (4 : Int32)), .val (.int cc1), .val (.int cc2), .val (.int cc3), .val (.int cc4), .val (.ref b71), .val (.int gt), .val (.int dg), .val (.int pt), .val (.int (1 : Int32)), .unset] [])) _
              exact kt
            · simp only [if_neg hq399] at kt
              refine XS.icmpNo X91.here hx rfl (hb hby at_399) rfl (feq hq399).1 ?_
              show Steps p.tables e below (T91.setTop (mkF m 402 #[.val (.int p1), .val (.int p2), .val (.int p3), .val (.int p4), .val (.int p5), .val (.int (4 : Int32)), .val (.int cc1), .val (.int cc2), .val (.int cc3), .val (.int cc4), .val (.ref b71), .val (.int gt), .val (.int dg), .val (.int pt), .val (.int (1 : Int32)), .unset] [])) _
              refine XS.iconst X91.here hx rfl (hb hby at_402) ?_
              show Steps p.tables e below (T91.setTop (mkF m 403 #[.val (.int p1), .val (.int p2), .val (.int p3), .val (.int p4), .val (.int p5), .val (.int (4 : Int32)), .val (.int cc1), .val (.int cc2), .val (.int cc3), .val (.int cc4), .val (.ref b71), .val (.int gt), .val (.int dg), .val (.int pt), .val (.int (1 : Int32)), .unset] [(.int (0 : Int32))])) _
              refine XS.istore X91.here hx rfl (hb hby at_403) rfl (l' := #[.val (.int p1), .val (.int p2), .val (.int p3), .val (.int p4), .val (.int p5), .val (.int (4 : Int32)), .val (.int cc1), .val (.int cc2), .val (.int cc3), .val (.int cc4), .val (.ref b71), .val (.int gt), .val (.int dg), .val (.int pt), .val (.int (0 : Int32)), .unset]) rfl ?_
              show Steps p.tables e below (T91.setTop (mkF m 405 #[.val (.int p1), .val (.int p2), .val (.int p3), .val (.int p4), .val (.int p5), .val (.int (4 : Int32)), .val (.int cc1), .val (.int cc2), .val (.int cc3), .val (.int cc4), .val (.ref b71), .val (.int gt), .val (.int dg), .val (.int pt), .val (.int (0 : Int32)), .unset] [])) _
              exact kt
      · simp only [if_neg hq378] at kt
        refine XS.ifYes X91.here hx rfl (pc0 := 378) (pc' := 405) rfl (hb hby at_378) rfl ((if0 _ _).trans (feq hq378).2) (by decide) (by decide) ?_
        show Steps p.tables e below (T91.setTop (mkF m 405 #[.val (.int p1), .val (.int p2), .val (.int p3), .val (.int p4), .val (.int p5), .val (.int (4 : Int32)), .val (.int cc1), .val (.int cc2), .val (.int cc3), .val (.int cc4), .val (.ref b71), .val (.int gt), .val (.int dg), .val (.int pt), .val (.int (1 : Int32)), .unset] [])) _
        exact kt
    show Goes p e below _ T91 (mkF m 405 #[.val (.int p1), .val (.int p2), .val (.int p3), .val (.int p4), .val (.int p5), .val (.int (4 : Int32)), .val (.int cc1), .val (.int cc2), .val (.int cc3), .val (.int cc4), .val (.ref b71), .val (.int gt), .val (.int dg), .val (.int pt), .val (.int (if (digS cc1) = (0 : Int32) then (if cc1 = (46 : Int32) then (1 : Int32) else (if cc1 = (43 : Int32) then (1 : Int32) else (if cc1 = (45 : Int32) then (1 : Int32) else (0 : Int32)))) else (1 : Int32))), .unset] [])
    generalize es1 : (if (digS cc1) = (0 : Int32) then (if cc1 = (46 : Int32) then (1 : Int32) else (if cc1 = (43 : Int32) then (1 : Int32) else (if cc1 = (45 : Int32) then (1 : Int32) else (0 : Int32)))) else (1 : Int32)) = s1
    show Goes p e below _ T91 (mkF m 405 #[.val (.int p1), .val (.int p2), .val (.int p3), .val (.int p4), .val (.int p5), .val (.int (4 : Int32)), .val (.int cc1), .val (.int cc2), .val (.int cc3), .val (.int cc4), .val (.ref b71), .val (.int gt), .val (.int dg), .val (.int pt), .val (.int s1), .unset] [])
    refine Goes.of (fun _ => XS.iload X91.here hx rfl (hb hby at_405) rfl) ?_
    show Goes p e below _ T91 (mkF m 407 #[.val (.int p1), .val (.int p2), .val (.int p3), .val (.int p4), .val (.int p5), .val (.int (4 : Int32)), .val (.int cc1), .val (.int cc2), .val (.int cc3), .val (.int cc4), .val (.ref b71), .val (.int gt), .val (.int dg), .val (.int pt), .val (.int s1), .unset] [(.int (4 : Int32))])
    refine Goes.of (fun _ => XS.iconst X91.here hx rfl (hb hby at_407)) ?_
    show Goes p e below _ T91 (mkF m 408 #[.val (.int p1), .val (.int p2), .val (.int p3), .val (.int p4), .val (.int p5), .val (.int (4 : Int32)), .val (.int cc1), .val (.int cc2), .val (.int cc3), .val (.int cc4), .val (.ref b71), .val (.int gt), .val (.int dg), .val (.int pt), .val (.int s1), .unset] [(.int (1 : Int32)), (.int (4 : Int32))])
    refine Goes.of (fun _ => XS.icmpNo X91.here hx rfl (hb hby at_408) rfl (tlt (by decide)).2.2.2) ?_
    show Goes p e below _ T91 (mkF m 411 #[.val (.int p1), .val (.int p2), .val (.int p3), .val (.int p4), .val (.int p5), .val (.int (4 : Int32)), .val (.int cc1), .val (.int cc2), .val (.int cc3), .val (.int cc4), .val (.ref b71), .val (.int gt), .val (.int dg), .val (.int pt), .val (.int s1), .unset] [])
    refine Goes.of (fun _ => XS.iload X91.here hx rfl (hb hby at_411) rfl) ?_
    show Goes p e below _ T91 (mkF m 413 #[.val (.int p1), .val (.int p2), .val (.int p3), .val (.int p4), .val (.int p5), .val (.int (4 : Int32)), .val (.int cc1), .val (.int cc2), .val (.int cc3), .val (.int cc4), .val (.ref b71), .val (.int gt), .val (.int dg), .val (.int pt), .val (.int s1), .unset] [(.int cc2)])
    refine goStatic 0 X91 hx hZ hown (hw _ (List.mem_of_getElem? (i := 80) rfl)) (hw _ (List.mem_of_getElem? (i := 81) rfl)) (hw _ (List.mem_of_getElem? (i := 3) rfl)) (hw _ (List.mem_of_getElem? (i := 82) rfl)) (by decide) (rm_body l Z a0 hw cc2 T77.heap n0 O0) eT91 (g := (mkF m 413 #[.val (.int p1), .val (.int p2), .val (.int p3), .val (.int p4), .val (.int p5), .val (.int (4 : Int32)), .val (.int cc1), .val (.int cc2), .val (.int cc3), .val (.int cc4), .val (.ref b71), .val (.int gt), .val (.int dg), .val (.int pt), .val (.int s1), .unset] [(.int cc2)])) rfl (by rw [hml]; rfl) [(.int cc2)] [] (lenOf pd__C_Z rfl) rfl rfl (by show 2 * 0 + _ ≤ _; exact Nat.le_of_eq rfl) (hb hby at_413) (by decide) (by decide) (by decide) (by decide) ?_
    intro v92 T92 L92 X92 q92
    obtain ⟨rfl, Nq92, eT92⟩ := q92
    have N92 := Fr.app N91 Nq92
    show Goes p e below _ T92 (mkF m 416 #[.val (.int p1), .val (.int p2), .val (.int p3), .val (.int p4), .val (.int p5), .val (.int (4 : Int32)), .val (.int cc1), .val (.int cc2), .val (.int cc3), .val (.int cc4), .val (.ref b71), .val (.int gt), .val (.int dg), .val (.int pt), .val (.int s1), .unset] [(.int (bodyS cc2))])
    refine Goes.of (T' := T92) (f' := (mkF m 422 #[.val (.int p1), .val (.int p2), .val (.int p3), .val (.int p4), .val (.int p5), .val (.int (4 : Int32)), .val (.int cc1), .val (.int cc2), .val (.int cc3), .val (.int cc4), .val (.ref b71), .val (.int gt), .val (.int dg), .val (.int pt), .val (.int (if (bodyS cc2) = (0 : Int32) then (0 : Int32) else s1)), .unset] [])) (fun t kt => ?_) ?_
    · show Steps p.tables e below (T92.setTop (mkF m 416 #[.val (.int p1), .val (.int p2), .val (.int p3), .val (.int p4), .val (.int p5), .val (.int (4 : Int32)), .val (.int cc1), .val (.int cc2), .val (.int cc3), .val (.int cc4), .val (.ref b71), .val (.int gt), .val (.int dg), .val (.int pt), .val (.int s1), .unset] [(.int (bodyS cc2))])) _
      by_cases hq416 : (bodyS cc2) = (0 : Int32)
      · simp only [if_pos hq416] at kt
        refine XS.ifNo X92.here hx rfl (hb hby at_416) rfl ((if0 _ _).trans (teq hq416).2) ?_
        show Steps p.tables e below (T92.setTop (mkF m 419 #[.val (.int p1), .val (.int p2), .val (.int p3), .val (.int p4), .val (.int p5), .val (.int (4 : Int32)), .val (.int cc1), .val (.int cc2), .val (.int cc3), .val (.int cc4), .val (.ref b71), .val (.int gt), .val (.int dg), .val (.int pt), .val (.int s1), .unset] [])) _
        refine XS.iconst X92.here hx rfl (hb hby at_419) ?_
        show Steps p.tables e below (T92.setTop (mkF m 420 #[.val (.int p1), .val (.int p2), .val (.int p3), .val (.int p4), .val (.int p5), .val (.int (4 : Int32)), .val (.int cc1), .val (.int cc2), .val (.int cc3), .val (.int cc4), .val (.ref b71), .val (.int gt), .val (.int dg), .val (.int pt), .val (.int s1), .unset] [(.int (0 : Int32))])) _
        refine XS.istore X92.here hx rfl (hb hby at_420) rfl (l' := #[.val (.int p1), .val (.int p2), .val (.int p3), .val (.int p4), .val (.int p5), .val (.int (4 : Int32)), .val (.int cc1), .val (.int cc2), .val (.int cc3), .val (.int cc4), .val (.ref b71), .val (.int gt), .val (.int dg), .val (.int pt), .val (.int (0 : Int32)), .unset]) rfl ?_
        show Steps p.tables e below (T92.setTop (mkF m 422 #[.val (.int p1), .val (.int p2), .val (.int p3), .val (.int p4), .val (.int p5), .val (.int (4 : Int32)), .val (.int cc1), .val (.int cc2), .val (.int cc3), .val (.int cc4), .val (.ref b71), .val (.int gt), .val (.int dg), .val (.int pt), .val (.int (0 : Int32)), .unset] [])) _
        exact kt
      · simp only [if_neg hq416] at kt
        refine XS.ifYes X92.here hx rfl (pc0 := 416) (pc' := 422) rfl (hb hby at_416) rfl ((if0 _ _).trans (feq hq416).2) (by decide) (by decide) ?_
        show Steps p.tables e below (T92.setTop (mkF m 422 #[.val (.int p1), .val (.int p2), .val (.int p3), .val (.int p4), .val (.int p5), .val (.int (4 : Int32)), .val (.int cc1), .val (.int cc2), .val (.int cc3), .val (.int cc4), .val (.ref b71), .val (.int gt), .val (.int dg), .val (.int pt), .val (.int s1), .unset] [])) _
        exact kt
    show Goes p e below _ T92 (mkF m 422 #[.val (.int p1), .val (.int p2), .val (.int p3), .val (.int p4), .val (.int p5), .val (.int (4 : Int32)), .val (.int cc1), .val (.int cc2), .val (.int cc3), .val (.int cc4), .val (.ref b71), .val (.int gt), .val (.int dg), .val (.int pt), .val (.int (if (bodyS cc2) = (0 : Int32) then (0 : Int32) else s1)), .unset] [])
    generalize es2 : (if (bodyS cc2) = (0 : Int32) then (0 : Int32) else s1) = s2
    show Goes p e below _ T92 (mkF m 422 #[.val (.int p1), .val (.int p2), .val (.int p3), .val (.int p4), .val (.int p5), .val (.int (4 : Int32)), .val (.int cc1), .val (.int cc2), .val (.int cc3), .val (.int cc4), .val (.ref b71), .val (.int gt), .val (.int dg), .val (.int pt), .val (.int s2), .unset] [])
    refine Goes.of (fun _ => XS.iload X92.here hx rfl (hb hby at_422) rfl) ?_
    show Goes p e below _ T92 (mkF m 424 #[.val (.int p1), .val (.int p2), .val (.int p3), .val (.int p4), .val (.int p5), .val (.int (4 : Int32)), .val (.int cc1), .val (.int cc2), .val (.int cc3), .val (.int cc4), .val (.ref b71), .val (.int gt), .val (.int dg), .val (.int pt), .val (.int s2), .unset] [(.int (4 : Int32))])
    refine Goes.of (fun _ => XS.iconst X92.here hx rfl (hb hby at_424)) ?_
    show Goes p e below _ T92 (mkF m 425 #[.val (.int p1), .val (.int p2), .val (.int p3), .val (.int p4), .val (.int p5), .val (.int (4 : Int32)), .val (.int cc1), .val (.int cc2), .val (.int cc3), .val (.int cc4), .val (.ref b71), .val (.int gt), .val (.int dg), .val (.int pt), .val (.int s2), .unset] [(.int (2 : Int32)), (.int (4 : Int32))])
    refine Goes.of (fun _ => XS.icmpNo X92.here hx rfl (hb hby at_425) rfl (tlt (by decide)).2.2.2) ?_
    show Goes p e below _ T92 (mkF m 428 #[.val (.int p1), .val (.int p2), .val (.int p3), .val (.int p4), .val (.int p5), .val (.int (4 : Int32)), .val (.int cc1), .val (.int cc2), .val (.int cc3), .val (.int cc4), .val (.ref b71), .val (.int gt), .val (.int dg), .val (.int pt), .val (.int s2), .unset] [])
    refine Goes.of (fun _ => XS.iload X92.here hx rfl (hb hby at_428) rfl) ?_
    show Goes p e below _ T92 (mkF m 430 #[.val (.int p1), .val (.int p2), .val (.int p3), .val (.int p4), .val (.int p5), .val (.int (4 : Int32)), .val (.int cc1), .val (.int cc2), .val (.int cc3), .val (.int cc4), .val (.ref b71), .val (.int gt), .val (.int dg), .val (.int pt), .val (.int s2), .unset] [(.int cc3)])
    refine goStatic 0 X92 hx hZ hown (hw _ (List.mem_of_getElem? (i := 80) rfl)) (hw _ (List.mem_of_getElem? (i := 81) rfl)) (hw _ (List.mem_of_getElem? (i := 3) rfl)) (hw _ (List.mem_of_getElem? (i := 82) rfl)) (by decide) (rm_body l Z a0 hw cc3 T77.heap n0 O0) eT92 (g := (mkF m 430 #[.val (.int p1), .val (.int p2), .val (.int p3), .val (.int p4), .val (.int p5), .val (.int (4 : Int32)), .val (.int cc1), .val (.int cc2), .val (.int cc3), .val (.int cc4), .val (.ref b71), .val (.int gt), .val (.int dg), .val (.int pt), .val (.int s2), .unset] [(.int cc3)])) rfl (by rw [hml]; rfl) [(.int cc3)] [] (lenOf pd__C_Z rfl) rfl rfl (by show 2 * 0 + _ ≤ _; exact Nat.le_of_eq rfl) (hb hby at_430) (by decide) (by decide) (by decide) (by decide) ?_
    intro v93 T93 L93 X93 q93
    obtain ⟨rfl, Nq93, eT93⟩ := q93
    have N93 := Fr.app N92 Nq93
    show Goes p e below _ T93 (mkF m 433 #[.val (.int p1), .val (.int p2), .val (.int p3), .val (.int p4), .val (.int p5), .val (.int (4 : Int32)), .val (.int cc1), .val (.int cc2), .val (.int cc3), .val (.int cc4), .val (.ref b71), .val (.int gt), .val (.int dg), .val (.int pt), .val (.int s2), .unset] [(.int (bodyS cc3))])
    refine Goes.of (T' := T93) (f' := (mkF m 439 #[.val (.int p1), .val (.int p2), .val (.int p3), .val (.int p4), .val (.int p5), .val (.int (4 : Int32)), .val (.int cc1), .val (.int cc2), .val (.int cc3), .val (.int cc4), .val (.ref b71), .val (.int gt), .val (.int dg), .val (.int pt), .val (.int (if (bodyS cc3) = (0 : Int32) then (0 : Int32) else s2)), .unset] [])) (fun t kt => ?_) ?_
    · show Steps p.tables e below (T93.setTop (mkF m 433 #[.val (.int p1), .val (.int p2), .val (.int p3), .val (.int p4), .val (.int p5), .val (.int (4 : Int32)), .val (.int cc1), .val (.int cc2), .val (.int cc3), .val (.int cc4), .val (.ref b71), .val (.int gt), .val (.int dg), .val (.int pt), .val (.int s2), .unset] [(.int (bodyS cc3))])) _
      by_cases hq433 : (bodyS cc3) = (0 : Int32)
      · simp only [if_pos hq433] at kt
        refine XS.ifNo X93.here hx rfl (hb hby at_433) rfl ((if0 _ _).trans (teq hq433).2) ?_
        show Steps p.tables e below (T93.setTop (mkF m 436 #[.val (.int p1), .val (.int p2), .val (.int p3), .val (.int p4), .val (.int p5), .val (.int (4 : Int32)), .val (.int cc1), .val (.int cc2), .val (.int cc3), .val (.int cc4), .val (.ref b71), .val (.int gt), .val (.int dg), .val (.int pt), .val (.int s2), .unset] [])) _
        refine XS.iconst X93.here hx rfl (hb hby at_436) ?_
        show Steps p.tables e below (T93.setTop (mkF m 437 #[.val (.int p1), .val (.int p2), .val (.int p3), .val (.int p4), .val (.int p5), .val (.int (4 : Int32)), .val (.int cc1), .val (.int cc2), .val (.int cc3), .val (.int cc4), .val (.ref b71), .val (.int gt), .val (.int dg), .val (.int pt), .val (.int s2), .unset] [(.int (0 : Int32))])) _
        refine XS.istore X93.here hx rfl (hb hby at_437) rfl (l' := #[.val (.int p1), .val (.int p2), .val (.int p3), .val (.int p4), .val (.int p5), .val (.int (4 : Int32)), .val (.int cc1), .val (.int cc2), .val (.int cc3), .val (.int cc4), .val (.ref b71), .val (.int gt), .val (.int dg), .val (.int pt), .val (.int (0 : Int32)), .unset]) rfl ?_
        show Steps p.tables e below (T93.setTop (mkF m 439 #[.val (.int p1), .val (.int p2), .val (.int p3), .val (.int p4), .val (.int p5), .val (.int (4 : Int32)), .val (.int cc1), .val (.int cc2), .val (.int cc3), .val (.int cc4), .val (.ref b71), .val (.int gt), .val (.int dg), .val (.int pt), .val (.int (0 : Int32)), .unset] [])) _
        exact kt
      · simp only [if_neg hq433] at kt
        refine XS.ifYes X93.here hx rfl (pc0 := 433) (pc' := 439) rfl (hb hby at_433) rfl ((if0 _ _).trans (feq hq433).2) (by decide) (by decide) ?_
        show Steps p.tables e below (T93.setTop (mkF m 439 #[.val (.int p1), .val (.int p2), .val (.int p3), .val (.int p4), .val (.int p5), .val (.int (4 : Int32)), .val (.int cc1), .val (.int cc2), .val (.int cc3), .val (.int cc4), .val (.ref b71), .val (.int gt), .val (.int dg), .val (.int pt), .val (.int s2), .unset] [])) _
        exact kt
    show Goes p e below _ T93 (mkF m 439 #[.val (.int p1), .val (.int p2), .val (.int p3), .val (.int p4), .val (.int p5), .val (.int (4 : Int32)), .val (.int cc1), .val (.int cc2), .val (.int cc3), .val (.int cc4), .val (.ref b71), .val (.int gt), .val (.int dg), .val (.int pt), .val (.int (if (bodyS cc3) = (0 : Int32) then (0 : Int32) else s2)), .unset] [])
    generalize es3 : (if (bodyS cc3) = (0 : Int32) then (0 : Int32) else s2) = s3
    show Goes p e below _ T93 (mkF m 439 #[.val (.int p1), .val (.int p2), .val (.int p3), .val (.int p4), .val (.int p5), .val (.int (4 : Int32)), .val (.int cc1), .val (.int cc2), .val (.int cc3), .val (.int cc4), .val (.ref b71), .val (.int gt), .val (.int dg), .val (.int pt), .val (.int s3), .unset] [])
    refine Goes.of (fun _ => XS.iload X93.here hx rfl (hb hby at_439) rfl) ?_
    show Goes p e below _ T93 (mkF m 441 #[.val (.int p1), .val (.int p2), .val (.int p3), .val (.int p4), .val (.int p5), .val (.int (4 : Int32)), .val (.int cc1), .val (.int cc2), .val (.int cc3), .val (.int cc4), .val (.ref b71), .val (.int gt), .val (.int dg), .val (.int pt), .val (.int s3), .unset] [(.int (4 : Int32))])
    refine Goes.of (fun _ => XS.iconst X93.here hx rfl (hb hby at_441)) ?_
    show Goes p e below _ T93 (mkF m 442 #[.val (.int p1), .val (.int p2), .val (.int p3), .val (.int p4), .val (.int p5), .val (.int (4 : Int32)), .val (.int cc1), .val (.int cc2), .val (.int cc3), .val (.int cc4), .val (.ref b71), .val (.int gt), .val (.int dg), .val (.int pt), .val (.int s3), .unset] [(.int (3 : Int32)), (.int (4 : Int32))])
    refine Goes.of (fun _ => XS.icmpNo X93.here hx rfl (hb hby at_442) rfl (tlt (by decide)).2.2.2) ?_
    show Goes p e below _ T93 (mkF m 445 #[.val (.int p1), .val (.int p2), .val (.int p3), .val (.int p4), .val (.int p5), .val (.int (4 : Int32)), .val (.int cc1), .val (.int cc2), .val (.int cc3), .val (.int cc4), .val (.ref b71), .val (.int gt), .val (.int dg), .val (.int pt), .val (.int s3), .unset] [])
    refine Goes.of (fun _ => XS.iload X93.here hx rfl (hb hby at_445) rfl) ?_
    show Goes p e below _ T93 (mkF m 447 #[.val (.int p1), .val (.int p2), .val (.int p3), .val (.int p4), .val (.int p5), .val (.int (4 : Int32)), .val (.int cc1), .val (.int cc2), .val (.int cc3), .val (.int cc4), .val (.ref b71), .val (.int gt), .val (.int dg), .val (.int pt), .val (.int s3), .unset] [(.int cc4)])
    refine goStatic 0 X93 hx hZ hown (hw _ (List.mem_of_getElem? (i := 80) rfl)) (hw _ (List.mem_of_getElem? (i := 81) rfl)) (hw _ (List.mem_of_getElem? (i := 3) rfl)) (hw _ (List.mem_of_getElem? (i := 82) rfl)) (by decide) (rm_body l Z a0 hw cc4 T77.heap n0 O0) eT93 (g := (mkF m 447 #[.val (.int p1), .val (.int p2), .val (.int p3), .val (.int p4), .val (.int p5), .val (.int (4 : Int32)), .val (.int cc1), .val (.int cc2), .val (.int cc3), .val (.int cc4), .val (.ref b71), .val (.int gt), .val (.int dg), .val (.int pt), .val (.int s3), .unset] [(.int cc4)])) rfl (by rw [hml]; rfl) [(.int cc4)] [] (lenOf pd__C_Z rfl) rfl rfl (by show 2 * 0 + _ ≤ _; exact Nat.le_of_eq rfl) (hb hby at_447) (by decide) (by decide) (by decide) (by decide) ?_
    intro v94 T94 L94 X94 q94
    obtain ⟨rfl, Nq94, eT94⟩ := q94
    have N94 := Fr.app N93 Nq94
    show Goes p e below _ T94 (mkF m 450 #[.val (.int p1), .val (.int p2), .val (.int p3), .val (.int p4), .val (.int p5), .val (.int (4 : Int32)), .val (.int cc1), .val (.int cc2), .val (.int cc3), .val (.int cc4), .val (.ref b71), .val (.int gt), .val (.int dg), .val (.int pt), .val (.int s3), .unset] [(.int (bodyS cc4))])
    refine Goes.of (T' := T94) (f' := (mkF m 456 #[.val (.int p1), .val (.int p2), .val (.int p3), .val (.int p4), .val (.int p5), .val (.int (4 : Int32)), .val (.int cc1), .val (.int cc2), .val (.int cc3), .val (.int cc4), .val (.ref b71), .val (.int gt), .val (.int dg), .val (.int pt), .val (.int (if (bodyS cc4) = (0 : Int32) then (0 : Int32) else s3)), .unset] [])) (fun t kt => ?_) ?_
    · show Steps p.tables e below (T94.setTop (mkF m 450 #[.val (.int p1), .val (.int p2), .val (.int p3), .val (.int p4), .val (.int p5), .val (.int (4 : Int32)), .val (.int cc1), .val (.int cc2), .val (.int cc3), .val (.int cc4), .val (.ref b71), .val (.int gt), .val (.int dg), .val (.int pt), .val (.int s3), .unset] [(.int (bodyS cc4))])) _
      by_cases hq450 : (bodyS cc4) = (0 : Int32)
      · simp only [if_pos hq450] at kt
        refine XS.ifNo X94.here hx rfl (hb hby at_450) rfl ((if0 _ _).trans (teq hq450).2) ?_
        show Steps p.tables e below (T94.setTop (mkF m 453 #[.val (.int p1), .val (.int p2), .val (.int p3), .val (.int p4), .val (.int p5), .val (.int (4 : Int32)), .val (.int cc1), .val (.int cc2), .val (.int cc3), .val (.int cc4), .val (.ref b71), .val (.int gt), .val (.int dg), .val (.int pt), .val (.int s3), .unset] [])) _
        refine XS.iconst X94.here hx rfl (hb hby at_453) ?_
        show Steps p.tables e below (T94.setTop (mkF m 454 #[.val (.int p1), .val (.int p2), .val (.int p3), .val (.int p4), .val (.int p5), .val (.int (4 : Int32)), .val (.int cc1), .val (.int cc2), .val (.int cc3), .val (.int cc4), .val (.ref b71), .val (.int gt), .val (.int dg), .val (.int pt), .val (.int s3), .unset] [(.int (0 : Int32))])) _
        refine XS.istore X94.here hx rfl (hb hby at_454) rfl (l' := #[.val (.int p1), .val (.int p2), .val (.int p3), .val (.int p4), .val (.int p5), .val (.int (4 : Int32)), .val (.int cc1), .val (.int cc2), .val (.int cc3), .val (.int cc4), .val (.ref b71), .val (.int gt), .val (.int dg), .val (.int pt), .val (.int (0 : Int32)), .unset]) rfl ?_
        show Steps p.tables e below (T94.setTop (mkF m 456 #[.val (.int p1), .val (.int p2), .val (.int p3), .val (.int p4), .val (.int p5), .val (.int (4 : Int32)), .val (.int cc1), .val (.int cc2), .val (.int cc3), .val (.int cc4), .val (.ref b71), .val (.int gt), .val (.int dg), .val (.int pt), .val (.int (0 : Int32)), .unset] [])) _
        exact kt
      · simp only [if_neg hq450] at kt
        refine XS.ifYes X94.here hx rfl (pc0 := 450) (pc' := 456) rfl (hb hby at_450) rfl ((if0 _ _).trans (feq hq450).2) (by decide) (by decide) ?_
        show Steps p.tables e below (T94.setTop (mkF m 456 #[.val (.int p1), .val (.int p2), .val (.int p3), .val (.int p4), .val (.int p5), .val (.int (4 : Int32)), .val (.int cc1), .val (.int cc2), .val (.int cc3), .val (.int cc4), .val (.ref b71), .val (.int gt), .val (.int dg), .val (.int pt), .val (.int s3), .unset] [])) _
        exact kt
    show Goes p e below _ T94 (mkF m 456 #[.val (.int p1), .val (.int p2), .val (.int p3), .val (.int p4), .val (.int p5), .val (.int (4 : Int32)), .val (.int cc1), .val (.int cc2), .val (.int cc3), .val (.int cc4), .val (.ref b71), .val (.int gt), .val (.int dg), .val (.int pt), .val (.int (if (bodyS cc4) = (0 : Int32) then (0 : Int32) else s3)), .unset] [])
    generalize es4 : (if (bodyS cc4) = (0 : Int32) then (0 : Int32) else s3) = s4
    show Goes p e below _ T94 (mkF m 456 #[.val (.int p1), .val (.int p2), .val (.int p3), .val (.int p4), .val (.int p5), .val (.int (4 : Int32)), .val (.int cc1), .val (.int cc2), .val (.int cc3), .val (.int cc4), .val (.ref b71), .val (.int gt), .val (.int dg), .val (.int pt), .val (.int s4), .unset] [])
    refine Goes.of (fun _ => XS.iload X94.here hx rfl (hb hby at_456) rfl) ?_
    show Goes p e below _ T94 (mkF m 458 #[.val (.int p1), .val (.int p2), .val (.int p3), .val (.int p4), .val (.int p5), .val (.int (4 : Int32)), .val (.int cc1), .val (.int cc2), .val (.int cc3), .val (.int cc4), .val (.ref b71), .val (.int gt), .val (.int dg), .val (.int pt), .val (.int s4), .unset] [(.int s4)])
    refine Goes.of (T' := T94) (f' := (mkF m 477 #[.val (.int p1), .val (.int p2), .val (.int p3), .val (.int p4), .val (.int p5), .val (.int (4 : Int32)), .val (.int cc1), .val (.int cc2), .val (.int cc3), .val (.int cc4), .val (.ref b71), .val (.int gt), .val (.int dg), .val (.int pt), .val (.int s4), .unset] [(.int (if s4 = (0 : Int32) then (0 : Int32) else (if (0 : Int32) < dg then (if (1 : Int32) < pt then (0 : Int32) else (1 : Int32)) else (0 : Int32))))])) (fun t kt => ?_) ?_
    · show Steps p.tables e below (T94.setTop (mkF m 458 #[.val (.int p1), .val (.int p2), .val (.int p3), .val (.int p4), .val (.int p5), .val (.int (4 : Int32)), .val (.int cc1), .val (.int cc2), .val (.int cc3), .val (.int cc4), .val (.ref b71), .val (.int gt), .val (.int dg), .val (.int pt), .val (.int s4), .unset] [(.int s4)])) _
      by_cases hq458 : s4 = (0 : Int32)
      · simp only [if_pos hq458] at kt
        refine XS.ifYes X94.here hx rfl (pc0 := 458) (pc' := 476) rfl (hb hby at_458) rfl ((if0 _ _).trans (teq hq458).1) (by decide) (by decide) ?_
        show Steps p.tables e below (T94.setTop (mkF m 476 #[.val (.int p1), .val (.int p2), .val (.int p3), .val (.int p4), .val (.int p5), .val (.int (4 : Int32)), .val (.int cc1), .val (.int cc2), .val (.int cc3), .val (.int cc4), .val (.ref b71), .val (.int gt), .val (.int dg), .val (.int pt), .val (.int s4), .unset] [])) _
        refine XS.iconst X94.here hx rfl (hb hby at_476) ?_
        show Steps p.tables e below (T94.setTop (mkF m 477 #[.val (.int p1), .val (.int p2), .val (.int p3), .val (.int p4), .val (.int p5), .val (.int (4 : Int32)), .val (.int cc1), .val (.int cc2), .val (.int cc3), .val (.int cc4), .val (.ref b71), .val (.int gt), .val (.int dg), .val (.int pt), .val (.int s4), .unset] [(.int (0 : Int32))])) _
        exact kt
      · simp only [if_neg hq458] at kt
        refine XS.ifNo X94.here hx rfl (hb hby at_458) rfl ((if0 _ _).trans (feq hq458).1) ?_
        show Steps p.tables e below (T94.setTop (mkF m 461 #[.val (.int p1), .val (.int p2), .val (.int p3), .val (.int p4), .val (.int p5), .val (.int (4 : Int32)), .val (.int cc1), .val (.int cc2), .val (.int cc3), .val (.int cc4), .val (.ref b71), .val (.int gt), .val (.int dg), .val (.int pt), .val (.int s4), .unset] [])) _
        refine XS.iload X94.here hx rfl (hb hby at_461) rfl ?_
        show Steps p.tables e below (T94.setTop (mkF m 463 #[.val (.int p1), .val (.int p2), .val (.int p3), .val (.int p4), .val (.int p5), .val (.int (4 : Int32)), .val (.int cc1), .val (.int cc2), .val (.int cc3), .val (.int cc4), .val (.ref b71), .val (.int gt), .val (.int dg), .val (.int pt), .val (.int s4), .unset] [(.int dg)])) _
        by_cases hq463 : (0 : Int32) < dg
        · simp only [if_pos hq463] at kt
          refine XS.ifNo X94.here hx rfl (hb hby at_463) rfl ((if0 _ _).trans (tlt hq463).2.2.2) ?_
          show Steps p.tables e below (T94.setTop (mkF m 466 #[.val (.int p1), .val (.int p2), .val (.int p3), .val (.int p4), .val (.int p5), .val (.int (4 : Int32)), .val (.int cc1), .val (.int cc2), .val (.int cc3), .val (.int cc4), .val (.ref b71), .val (.int gt), .val (.int dg), .val (.int pt), .val (.int s4), .unset] [])) _
          refine XS.iload X94.here hx rfl (hb hby at_466) rfl ?_
          show Steps p.tables e below (T94.setTop (mkF m 468 #[.val (.int p1), .val (.int p2), .val (.int p3), .val (.int p4), .val (.int p5), .val (.int (4 : Int32)), .val (.int cc1), .val (.int cc2), .val (.int cc3), .val (.int cc4), .val (.ref b71), .val (.int gt), .val (.int dg), .val (.int pt), .val (.int s4), .unset] [(.int pt)])) _
          refine XS.iconst X94.here hx rfl (hb hby at_468) ?_
          show Steps p.tables e below (T94.setTop (mkF m 469 #[.val (.int p1), .val (.int p2), .val (.int p3), .val (.int p4), .val (.int p5), .val (.int (4 : Int32)), .val (.int cc1), .val (.int cc2), .val (.int cc3), .val (.int cc4), .val (.ref b71), .val (.int gt), .val (.int dg), .val (.int pt), .val (.int s4), .unset] [(.int (1 : Int32)), (.int pt)])) _
          by_cases hq469 : (1 : Int32) < pt
          · simp only [if_pos hq469] at kt
            refine XS.icmpYes X94.here hx rfl (pc0 := 469) (pc' := 476) rfl (hb hby at_469) rfl (tlt hq469).2.2.1 (by decide) (by decide) ?_
            show Steps p.tables e below (T94.setTop (mkF m 476 #[.val (.int p1), .val (.int p2), .val (.int p3), .val (.int p4), .val (.int p5), .val (.int (4 : Int32)), .val (.int cc1), .val (.int cc2), .val (.int cc3), .val (.int cc4), .val (.ref b71), .val (.int gt), .val (.int dg), .val (.int pt), .val (.int s4), .unset] [])) _
            refine XS.iconst X94.here hx rfl (hb hby at_476) ?_
            show Steps p.tables e below (T94.setTop (mkF m 477 #[.val (.int p1), .val (.int p2), .val (.int p3), .val (.int p4), .val (.int p5), .val (.int (4 : Int32)), .val (.int cc1), .val (.int cc2), .val (.int cc3), .val (.int cc4), .val (.ref b71), .val (.int gt), .val (.int dg), .val (.int pt), .val (.int s4), .unset] [(.int (0 : Int32))])) _
            exact kt
          · simp only [if_neg hq469] at kt
            refine XS.icmpNo X94.here hx rfl (hb hby at_469) rfl (flt hq469).2.2.1 ?_
            show Steps p.tables e below (T94.setTop (mkF m 472 #[.val (.int p1), .val (.int p2), .val (.int p3), .val (.int p4), .val (.int p5), .val (.int (4 : Int32)), .val (.int cc1), .val (.int cc2), .val (.int cc3), .val (.int cc4), .val (.ref b71), .val (.int gt), .val (.int dg), .val (.int pt), .val (.int s4), .unset] [])) _
            refine XS.iconst X94.here hx rfl (hb hby at_472) ?_
            show Steps p.tables e below (T94.setTop (mkF m 473 #[.val (.int p1), .val (.int p2), .val (.int p3), .val (.int p4), .val (.int p5), .val (.int (4 : Int32)), .val (.int cc1), .val (.int cc2), .val (.int cc3), .val (.int cc4), .val (.ref b71), .val (.int gt), .val (.int dg), .val (.int pt), .val (.int s4), .unset] [(.int (1 : Int32))])) _
            refine XS.goto X94.here hx rfl (pc0 := 473) (pc' := 477) rfl (hb hby at_473) (by decide) (by decide) ?_
            show Steps p.tables e below (T94.setTop (mkF m 477 #[.val (.int p1), .val (.int p2), .val (.int p3), .val (.int p4), .val (.int p5), .val (.int (4 : Int32)), .val (.int cc1), .val (.int cc2), .val (.int cc3), .val (.int cc4), .val (.ref b71), .val (.int gt), .val (.int dg), .val (.int pt), .val (.int s4), .unset] [(.int (1 : Int32))])) _
            exact kt
        · simp only [if_neg hq463] at kt
          refine XS.ifYes X94.here hx rfl (pc0 := 463) (pc' := 476) rfl (hb hby at_463) rfl ((if0 _ _).trans (flt hq463).2.2.2) (by decide) (by decide) ?_
          show Steps p.tables e below (T94.setTop (mkF m 476 #[.val (.int p1), .val (.int p2), .val (.int p3), .val (.int p4), .val (.int p5), .val (.int (4 : Int32)), .val (.int cc1), .val (.int cc2), .val (.int cc3), .val (.int cc4), .val (.ref b71), .val (.int gt), .val (.int dg), .val (.int pt), .val (.int s4), .unset] [])) _
          refine XS.iconst X94.here hx rfl (hb hby at_476) ?_
          show Steps p.tables e below (T94.setTop (mkF m 477 #[.val (.int p1), .val (.int p2), .val (.int p3), .val (.int p4), .val (.int p5), .val (.int (4 : Int32)), .val (.int cc1), .val (.int cc2), .val (.int cc3), .val (.int cc4), .val (.ref b71), .val (.int gt), .val (.int dg), .val (.int pt), .val (.int s4), .unset] [(.int (0 : Int32))])) _
          exact kt
    show Goes p e below _ T94 (mkF m 477 #[.val (.int p1), .val (.int p2), .val (.int p3), .val (.int p4), .val (.int p5), .val (.int (4 : Int32)), .val (.int cc1), .val (.int cc2), .val (.int cc3), .val (.int cc4), .val (.ref b71), .val (.int gt), .val (.int dg), .val (.int pt), .val (.int s4), .unset] [(.int (if s4 = (0 : Int32) then (0 : Int32) else (if (0 : Int32) < dg then (if (1 : Int32) < pt then (0 : Int32) else (1 : Int32)) else (0 : Int32))))])
    refine Goes.of (fun _ => XS.istore X94.here hx rfl (hb hby at_477) rfl (l' := #[.val (.int p1), .val (.int p2), .val (.int p3), .val (.int p4), .val (.int p5), .val (.int (4 : Int32)), .val (.int cc1), .val (.int cc2), .val (.int cc3), .val (.int cc4), .val (.ref b71), .val (.int gt), .val (.int dg), .val (.int pt), .val (.int s4), .val (.int (if s4 = (0 : Int32) then (0 : Int32) else (if (0 : Int32) < dg then (if (1 : Int32) < pt then (0 : Int32) else (1 : Int32)) else (0 : Int32))))]) rfl) ?_
    show Goes p e below _ T94 (mkF m 479 #[.val (.int p1), .val (.int p2), .val (.int p3), .val (.int p4), .val (.int p5), .val (.int (4 : Int32)), .val (.int cc1), .val (.int cc2), .val (.int cc3), .val (.int cc4), .val (.ref b71), .val (.int gt), .val (.int dg), .val (.int pt), .val (.int s4), .val (.int (if s4 = (0 : Int32) then (0 : Int32) else (if (0 : Int32) < dg then (if (1 : Int32) < pt then (0 : Int32) else (1 : Int32)) else (0 : Int32))))] [])
    generalize exp : (if s4 = (0 : Int32) then (0 : Int32) else (if (0 : Int32) < dg then (if (1 : Int32) < pt then (0 : Int32) else (1 : Int32)) else (0 : Int32))) = xp
    show Goes p e below _ T94 (mkF m 479 #[.val (.int p1), .val (.int p2), .val (.int p3), .val (.int p4), .val (.int p5), .val (.int (4 : Int32)), .val (.int cc1), .val (.int cc2), .val (.int cc3), .val (.int cc4), .val (.ref b71), .val (.int gt), .val (.int dg), .val (.int pt), .val (.int s4), .val (.int xp)] [])
    refine Goes.of (fun _ => XS.iload X94.here hx rfl (hb hby at_479) rfl) ?_
    show Goes p e below _ T94 (mkF m 481 #[.val (.int p1), .val (.int p2), .val (.int p3), .val (.int p4), .val (.int p5), .val (.int (4 : Int32)), .val (.int cc1), .val (.int cc2), .val (.int cc3), .val (.int cc4), .val (.ref b71), .val (.int gt), .val (.int dg), .val (.int pt), .val (.int s4), .val (.int xp)] [(.int gt)])
    refine Goes.of (fun _ => XS.iload X94.here hx rfl (hb hby at_481) rfl) ?_
    show Goes p e below _ T94 (mkF m 483 #[.val (.int p1), .val (.int p2), .val (.int p3), .val (.int p4), .val (.int p5), .val (.int (4 : Int32)), .val (.int cc1), .val (.int cc2), .val (.int cc3), .val (.int cc4), .val (.ref b71), .val (.int gt), .val (.int dg), .val (.int pt), .val (.int s4), .val (.int xp)] [(.int xp), (.int gt)])
    refine Goes.of (fun _ => XS.icmpNo X94.here hx rfl (hb hby at_483) rfl (teq (by subst exp es4 es3 es2 es1 ept er4 er3 er2 er1 edg eo4 eo3 eo2 eo1 egt; exact fin4 cc1 cc2 cc3 cc4)).2) ?_
    show Goes p e below _ T94 (mkF m 486 #[.val (.int p1), .val (.int p2), .val (.int p3), .val (.int p4), .val (.int p5), .val (.int (4 : Int32)), .val (.int cc1), .val (.int cc2), .val (.int cc3), .val (.int cc4), .val (.ref b71), .val (.int gt), .val (.int dg), .val (.int pt), .val (.int s4), .val (.int xp)] [])
    refine Goes.of (fun _ => XS.iconst X94.here hx rfl (hb hby at_486)) ?_
    show Goes p e below _ T94 (mkF m 487 #[.val (.int p1), .val (.int p2), .val (.int p3), .val (.int p4), .val (.int p5), .val (.int (4 : Int32)), .val (.int cc1), .val (.int cc2), .val (.int cc3), .val (.int cc4), .val (.ref b71), .val (.int gt), .val (.int dg), .val (.int pt), .val (.int s4), .val (.int xp)] [(.int (1 : Int32))])
    refine Goes.of (fun _ => XS.goto X94.here hx rfl (pc0 := 487) (pc' := 491) rfl (hb hby at_487) (by decide) (by decide)) ?_
    show Goes p e below _ T94 (mkF m 491 #[.val (.int p1), .val (.int p2), .val (.int p3), .val (.int p4), .val (.int p5), .val (.int (4 : Int32)), .val (.int cc1), .val (.int cc2), .val (.int cc3), .val (.int cc4), .val (.ref b71), .val (.int gt), .val (.int dg), .val (.int pt), .val (.int s4), .val (.int xp)] [(.int (1 : Int32))])
    exact retZW (t := .boolean) X94 hS hk hZ hEL HC hx hret hlk (by simp) (hb hby at_491) eT94 (by decide) (by decide) ⟨rfl, N94⟩
set_option maxRecDepth 65536 in
set_option maxHeartbeats 40000000 in
theorem comes_1 {Post : Tables → Env → Array Value → State → Outcome → State → Prop} (hpost : ∀ tb e args s v u, (limb_1_1.after args s (.returned v) u = true ∧ limb_1_2.after args s (.returned v) u = true ∧ True) → ReturnedEndW s (.returned v) u (Jvm.fieldLocs frame_1_writes args s ++ Jvm.arrayLocs frame_1_arrays args s ++ Jvm.staticLocs frame_1_statics s) 24 2176 → Post tb e args s (.returned v) u) :
    ArmFor flags0 classFile x code maxLocals ret World_1 tables_1 room_1 Calls_1 rest_1 Pre_1 Post := by
  intro l hfl _ _ p e ha hc hk s m args below hf hA hF happ hP
  obtain ⟨hcalls, hrest, hpre⟩ := hP
  obtain ⟨-, -, -, hnamed, -, -, -, hat⟩ := (Spec.applies_iff hf).mp happ
  obtain ⟨hg, hn⟩ := and_e (Cond.before_iff.mp (show (Jvm.Cond.and given_1 narrow_1).before args s = true from hpre))
  obtain ⟨hcount, hg0⟩ := and_e hg
  obtain ⟨hv0, hg1⟩ := and_e hg0
  obtain ⟨hv1, hg2⟩ := and_e hg1
  obtain ⟨hv2, hg3⟩ := and_e hg2
  obtain ⟨hv3, hg4⟩ := and_e hg3
  have hv4 := hg4
  obtain ⟨w0, w1, w2, w3, w4, rfl⟩ : ∃ w0 w1 w2 w3 w4 : Value, args = #[w0, w1, w2, w3, w4] := by
    have hs : args.size = 5 := by simpa [Cond.value, given_1] using hcount
    obtain ⟨L⟩ := args
    match L, hs with
    | [w0, w1, w2, w3, w4], _ => exact ⟨w0, w1, w2, w3, w4, rfl⟩
  have hw := fun d (hd : d ∈ tables_1) => atoms_spec (ws := Jvm.Cond.code x code maxLocals ret :: tables_1) hat d (List.mem_cons_of_mem _ hd)
  have hfit : Fit s := fun {y c} hc i hi => by
    obtain ⟨ha, rfl⟩ := Array.getElem?_eq_some_iff.mp hc
    have q := List.all_eq_true.mp ((Array.all_eq_true_iff_forall_mem.mp hF) _ (Array.getElem_mem ha)) i (List.mem_range.mpr hi)
    simpa [Array.getElem?_eq_getElem hi] using q
  obtain ⟨hsets, hown0⟩ := atoms_of _ (rest_1_c_eq ▸ (show rest_1_c.before _ s = true from hrest))
  obtain ⟨i0, ei0⟩ := is_v hv0
  obtain rfl : w0 = (.int i0) := Option.some.inj ei0
  obtain ⟨i1, ei1⟩ := is_v hv1
  obtain rfl : w1 = (.int i1) := Option.some.inj ei1
  obtain ⟨i2, ei2⟩ := is_v hv2
  obtain rfl : w2 = (.int i2) := Option.some.inj ei2
  obtain ⟨i3, ei3⟩ := is_v hv3
  obtain rfl : w3 = (.int i3) := Option.some.inj ei3
  obtain ⟨i4, ei4⟩ := is_v hv4
  obtain rfl : w4 = (.int i4) := Option.some.inj ei4
  obtain ⟨cz, evcz⟩ := is_v (Cond.before_iff.mp (hsets _ (List.mem_of_getElem? (i := 1) rfl)))
  have Sc := Sta.start evcz (Or.inl (hsets _ (List.mem_of_getElem? (i := 0) rfl)))
  have hcz := ne_of_not evcz (hsets _ (List.mem_of_getElem? (i := 2) rfl))
  obtain ⟨fm, evfm, hfm⟩ := isR_v (Cond.before_iff.mp (hsets _ (List.mem_of_getElem? (i := 8) rfl)))
  have Sf := Sta.start evfm (Or.inl (hsets _ (List.mem_of_getElem? (i := 7) rfl)))
  have hCH : CHv s EL s.vm s.heap := CHv.start (hELof hw) (fun p hp => hcalls.1 p hp) (hsets _ (List.mem_of_getElem? (i := 2) rfl)) (hw _ (List.mem_of_getElem? (i := 20) rfl)) (hw _ (List.mem_of_getElem? (i := 6) rfl))
  obtain ⟨n, o, h1, h2, h3, _, L, rfl, ⟨rfl, N⟩, -, hq⟩ := rm_law l s _ hw tables_1 i0 i1 i2 i3 i4 cz fm s.heap s.heap.size (Old.start s) Sc hcz Sf hfm p e ha hc hk s m _ below hf ((Spec.applies_iff_loose hf).mp happ).1 ⟨rfl, State.Warmed39.refl s, rfl, hCH⟩ trivial
  refine ⟨n, _, h1, h2, h3, hpost _ _ _ _ _ _ ⟨Cond.after_iff.mpr rfl, Cond.after_iff.mpr (eq_i res_at (Term.int_eval (1)) rfl), trivial⟩ ⟨hq.1, hq.2.1, hq.2.2.1, (hq.2.2.2.sift fun y hy => Or.inr (N y hy)).mono (by decide) (by decide)⟩⟩
theorem main_1_1 : Claimed_1_1 := comes_1 fun _ _ _ _ _ _ h hF => ⟨h.1, hF⟩
theorem main_1_2 : Claimed_1_2 := comes_1 fun _ _ _ _ _ _ h hF => ⟨h.2.1, hF⟩
end Jvm.Pilot.@@N@@
namespace Jvm.Pilot.@@N@@
open Jvm Jvm.ClassFile Sem Op Lib Jvm.Free Jvm.Stand Jvm.Pilot.@@N@@.Jvm.D
/-! MADE BY PROGRAM (witnessworld.py) out of the Statement's table words and the real class files: 20 classes; the members and pool entries that the words name. The judged class is class 1, her method 1. -/
namespace start1
open Jvm.ClassFile
def u (s : String) : CpInfo := .utf8 (stringToUtf16 s)
/-- a pool by its gaps: so many unusable entries, then the entry; so many at the end -/
def gap : Nat → List CpInfo → List CpInfo
  | 0, r => r
  | n + 1, r => .unusable :: gap n r
def poolList (es : List (Nat × CpInfo)) (last : Nat) : List CpInfo := es.foldr (fun e r => gap e.1 (e.2 :: r)) (gap last [])
def pool (es : List (Nat × CpInfo)) (last : Nat) : Array CpInfo := ⟨poolList es last⟩
def fileOf (pool : Array CpInfo) (this : Nat) (attrs : Array Attribute := #[]) (ms : Array MethodInfo := #[]) (fl : Nat := 33) (sup : Nat := 0) (ifs : Array Nat := #[]) (fds : Array FieldInfo := #[]) : ClassFile where
  minorVersion := 0
  majorVersion := 65
  constantPool := pool
  accessFlags := fl
  thisClass := this
  superClass := sup
  interfaces := ifs
  fields := fds
  methods := ms
  attributes := attrs
def plain (name : String) (sup : Option ClassId) : Class where
  name := name
  kind := .ordinary
  loader := none
  accessFlags := 33
  super := sup
  interfaces := #[]
  cf := none
  fields := #[]
  methods := #[]
  instanceTypes := #[]
  staticTypes := #[]
  resolved := #[]
  callSites := []
  init := .initialized
  statics := none
  mirror := none

def pool0 : Array CpInfo := pool [(5, u "<init>"), (0, u "()V"), (1, .class_ 10), (1, u "java/lang/Object")] 113

def k0c0 : Code := { maxStack := 0, maxLocals := 1, code := object_method_1_code, exceptionTable := #[], attributes := #[] }
def k0m0 : Method := { name := "<init>", desc := "()V", sig := { parameters := [], returnType := none }, accessFlags := 1, code := some k0c0 }
/-- java/lang/Object -/
def k0 : Class := { plain "java/lang/Object" none with
  accessFlags := 33
  interfaces := #[]
  cf := some (fileOf pool0 8 #[] #[{ accessFlags := 1, nameIndex := 5, descriptorIndex := 6, attributes := #[] }] 33 0 #[] #[])
  fields := #[]
  methods := #[k0m0]
  instanceTypes := #[]
  staticTypes := #[]
  resolved := Array.replicate 124 none
  statics := none }

def pool1 : Array CpInfo := pool [(2, .class_ 4), (1, u "java/lang/Object"), (0, u "<init>"), (0, u "()V"), (0, .integer 2147483647), (0, .methodref 9 10), (0, .class_ 11), (0, .nameAndType 12 13), (0, u "com/example/medianode/medianode/core/DecimalsIsPlainPinLaw"), (0, u "pick"), (0, u "(I)C"), (0, .class_ 15), (0, u "java/lang/String"), (0, .methodref 14 17), (0, .nameAndType 5 18), (0, u "([C)V"), (0, .methodref 20 21), (0, .class_ 22), (0, .nameAndType 23 24), (0, u "com/example/medianode/medianode/core/Decimals"), (0, u "isPlain"), (0, u "(Ljava/lang/String;)Z"), (0, .methodref 9 26), (0, .nameAndType 27 28), (0, u "dig"), (0, u "(C)Z"), (0, .methodref 9 30), (0, .nameAndType 31 32), (0, u "one"), (0, u "(Z)I"), (0, .methodref 9 34), (0, .nameAndType 35 28), (0, u "body"), (0, .string 37), (0, u "0123456789.+-"), (0, .methodref 14 39), (0, .nameAndType 40 13), (0, u "charAt"), (2, u "law"), (0, u "(IIIII)Z")] 3

def k1m0 : Method := { name := "<init>", desc := "()V", sig := { parameters := [], returnType := none }, accessFlags := 2, code := none }
def k1c1 : Code := { maxStack := 6, maxLocals := 16, code := code, exceptionTable := #[], attributes := #[] }
def k1m1 : Method := { name := "law", desc := "(IIIII)Z", sig := { parameters := [.int, .int, .int, .int, .int], returnType := some .boolean }, accessFlags := 9, code := some k1c1 }
def k1c2 : Code := { maxStack := 2, maxLocals := 3, code := method_3_code, exceptionTable := #[], attributes := #[] }
def k1m2 : Method := { name := "pick", desc := "(I)C", sig := { parameters := [.int], returnType := some .char }, accessFlags := 10, code := some k1c2 }
def k1c3 : Code := { maxStack := 2, maxLocals := 1, code := method_4_code, exceptionTable := #[], attributes := #[] }
def k1m3 : Method := { name := "dig", desc := "(C)Z", sig := { parameters := [.char], returnType := some .boolean }, accessFlags := 10, code := some k1c3 }
def k1c4 : Code := { maxStack := 2, maxLocals := 1, code := method_5_code, exceptionTable := #[], attributes := #[] }
def k1m4 : Method := { name := "body", desc := "(C)Z", sig := { parameters := [.char], returnType := some .boolean }, accessFlags := 10, code := some k1c4 }
def k1c5 : Code := { maxStack := 1, maxLocals := 1, code := method_6_code, exceptionTable := #[], attributes := #[] }
def k1m5 : Method := { name := "one", desc := "(Z)I", sig := { parameters := [.boolean], returnType := some .int }, accessFlags := 10, code := some k1c5 }
/-- com/example/medianode/medianode/core/DecimalsIsPlainPinLaw -/
def k1 : Class := { plain "com/example/medianode/medianode/core/DecimalsIsPlainPinLaw" (some 0) with
  accessFlags := 49
  interfaces := #[]
  cf := some (fileOf pool1 9 #[] #[{ accessFlags := 2, nameIndex := 5, descriptorIndex := 6, attributes := #[] }, { accessFlags := 9, nameIndex := 43, descriptorIndex := 44, attributes := #[] }, { accessFlags := 10, nameIndex := 12, descriptorIndex := 13, attributes := #[] }, { accessFlags := 10, nameIndex := 27, descriptorIndex := 28, attributes := #[] }, { accessFlags := 10, nameIndex := 35, descriptorIndex := 28, attributes := #[] }, { accessFlags := 10, nameIndex := 31, descriptorIndex := 32, attributes := #[] }] 49 2 #[] #[])
  fields := #[]
  methods := #[k1m0, k1m1, k1m2, k1m3, k1m4, k1m5]
  instanceTypes := #[]
  staticTypes := #[]
  resolved := Array.replicate 48 none
  statics := none }

def pool2 : Array CpInfo := pool [(1, .class_ 2), (0, u "java/io/Serializable"), (0, .class_ 4), (0, u "java/lang/Object")] 2

/-- java/io/Serializable -/
def k2 : Class := { plain "java/io/Serializable" (some 0) with
  accessFlags := 1537
  interfaces := #[]
  cf := some (fileOf pool2 1 #[] #[] 1537 3 #[] #[])
  fields := #[]
  methods := #[]
  instanceTypes := #[]
  staticTypes := #[]
  resolved := Array.replicate 7 none
  statics := none }

def pool3 : Array CpInfo := pool [(1, .class_ 2), (0, u "java/lang/Comparable"), (0, .class_ 4), (0, u "java/lang/Object")] 7

/-- java/lang/Comparable -/
def k3 : Class := { plain "java/lang/Comparable" (some 0) with
  accessFlags := 1537
  interfaces := #[]
  cf := some (fileOf pool3 1 #[] #[] 1537 3 #[] #[])
  fields := #[]
  methods := #[]
  instanceTypes := #[]
  staticTypes := #[]
  resolved := Array.replicate 12 none
  statics := none }

def pool4 : Array CpInfo := pool [(2, .class_ 4), (1, u "java/lang/CharSequence"), (42, .class_ 48), (0, u "java/lang/CharSequence$1CodePointIterator"), (10, .class_ 60), (0, u "java/lang/CharSequence$1CharIterator"), (5, .class_ 67), (0, u "java/lang/Object")] 63

/-- java/lang/CharSequence -/
def k4 : Class := { plain "java/lang/CharSequence" (some 0) with
  accessFlags := 1537
  interfaces := #[]
  cf := some (fileOf pool4 2 #[.nestMembers #[47, 59]] #[] 1537 66 #[] #[])
  fields := #[]
  methods := #[]
  instanceTypes := #[]
  staticTypes := #[]
  resolved := Array.replicate 131 none
  statics := none }

def pool5 : Array CpInfo := pool [(1, .class_ 2), (0, u "java/lang/constant/Constable"), (0, .class_ 4), (0, u "java/lang/Object")] 6

/-- java/lang/constant/Constable -/
def k5 : Class := { plain "java/lang/constant/Constable" (some 0) with
  accessFlags := 1537
  interfaces := #[]
  cf := some (fileOf pool5 1 #[] #[] 1537 3 #[] #[])
  fields := #[]
  methods := #[]
  instanceTypes := #[]
  staticTypes := #[]
  resolved := Array.replicate 11 none
  statics := none }

def pool6 : Array CpInfo := pool [(1, .class_ 2), (0, u "java/lang/constant/ConstantDesc"), (0, .class_ 4), (0, u "java/lang/Object")] 32

/-- java/lang/constant/ConstantDesc -/
def k6 : Class := { plain "java/lang/constant/ConstantDesc" (some 0) with
  accessFlags := 1537
  interfaces := #[]
  cf := some (fileOf pool6 1 #[] #[] 1537 3 #[] #[])
  fields := #[]
  methods := #[]
  instanceTypes := #[]
  staticTypes := #[]
  resolved := Array.replicate 37 none
  statics := none }

def pool7 : Array CpInfo := pool [(1, .methodref 2 3), (0, .class_ 4), (0, .nameAndType 5 6), (0, u "java/lang/Object"), (0, u "<init>"), (0, u "()V"), (0, .string 8), (0, u ""), (0, .fieldref 10 11), (0, .class_ 12), (0, .nameAndType 13 14), (0, u "java/lang/String"), (0, u "value"), (0, u "[B"), (0, .fieldref 10 16), (0, .nameAndType 17 18), (0, u "coder"), (0, u "B"), (2, u "hash"), (0, u "I"), (2, u "hashIsZero"), (0, u "Z"), (0, .methodref 10 28), (0, .nameAndType 5 29), (0, u "([CIILjava/lang/Void;)V"), (8, .fieldref 10 39), (0, .nameAndType 40 26), (0, u "COMPACT_STRINGS"), (1, .class_ 44), (1, u "java/lang/StringUTF16"), (0, u "compress"), (1, .methodref 42 48), (0, .nameAndType 49 50), (0, u "coderFromArrayLen"), (0, u "([BI)B"), (56, .class_ 109), (1, u "java/lang/StringLatin1"), (32, u "()Z"), (34, .methodref 42 178), (0, .nameAndType 45 179), (0, u "([CII)[B"), (154, u "()I"), (0, .methodref 10 336), (0, .nameAndType 17 337), (0, u "()B"), (25, u "([BI)C"), (27, u "(II)V"), (35, u "(I)C"), (64, .methodref 10 493), (0, .nameAndType 494 142), (0, u "isLatin1"), (0, .methodref 107 496), (0, .nameAndType 497 363), (0, u "charAt"), (3, u "checkIndex"), (5, u "length"), (67, .class_ 576), (0, u "java/lang/CharSequence"), (22, u "CASE_INSENSITIVE_ORDER"), (0, u "Ljava/util/Comparator;"), (409, u "([C)V"), (42, .fieldref 1054 1055), (0, .class_ 1056), (0, .nameAndType 1057 1058), (0, u "jdk/internal/util/Preconditions"), (0, u "SIOOBE_FORMATTER"), (0, u "Ljava/util/function/BiFunction;"), (0, .methodref 1054 1060), (0, .nameAndType 501 1061), (0, u "(IILjava/util/function/BiFunction;)I"), (39, u "serialPersistentFields"), (0, u "[Ljava/io/ObjectStreamField;"), (0, .class_ 1104), (0, u "java/lang/String$CaseInsensitiveComparator"), (1, .class_ 1107), (0, u "java/io/Serializable"), (0, .class_ 1109), (0, u "java/lang/Comparable"), (0, .class_ 1111), (0, u "java/lang/constant/Constable"), (0, .class_ 1113), (0, u "java/lang/constant/ConstantDesc"), (2, u "serialVersionUID"), (0, u "J"), (3, u "REPL"), (0, u "C"), (2, u "LATIN1"), (1, u "UTF16")] 323

def k7m0 : Method := { name := "<init>", desc := "()V", sig := { parameters := [], returnType := none }, accessFlags := 1, code := none }
def k7c1 : Code := { maxStack := 5, maxLocals := 2, code := jdk_42_method_3_code, exceptionTable := #[], attributes := #[] }
def k7m1 : Method := { name := "<init>", desc := "([C)V", sig := { parameters := [(.array .char)], returnType := none }, accessFlags := 1, code := some k7c1 }
def k7c2 : Code := { maxStack := 2, maxLocals := 1, code := jdk_42_method_54_code, exceptionTable := #[], attributes := #[] }
def k7m2 : Method := { name := "length", desc := "()I", sig := { parameters := [], returnType := some .int }, accessFlags := 1, code := some k7c2 }
def k7c3 : Code := { maxStack := 2, maxLocals := 2, code := jdk_42_method_56_code, exceptionTable := #[], attributes := #[] }
def k7m3 : Method := { name := "charAt", desc := "(I)C", sig := { parameters := [.int], returnType := some .char }, accessFlags := 1, code := some k7c3 }
def k7c4 : Code := { maxStack := 4, maxLocals := 6, code := jdk_42_method_149_code, exceptionTable := #[], attributes := #[] }
def k7m4 : Method := { name := "<init>", desc := "([CIILjava/lang/Void;)V", sig := { parameters := [(.array .char), .int, .int, (.object "java/lang/Void")], returnType := none }, accessFlags := 2, code := some k7c4 }
def k7c5 : Code := { maxStack := 1, maxLocals := 1, code := jdk_42_method_152_code, exceptionTable := #[], attributes := #[] }
def k7m5 : Method := { name := "coder", desc := "()B", sig := { parameters := [], returnType := some .byte }, accessFlags := 0, code := some k7c5 }
def k7c6 : Code := { maxStack := 1, maxLocals := 1, code := jdk_42_method_154_code, exceptionTable := #[], attributes := #[] }
def k7m6 : Method := { name := "isLatin1", desc := "()Z", sig := { parameters := [], returnType := some .boolean }, accessFlags := 0, code := some k7c6 }
def k7c7 : Code := { maxStack := 3, maxLocals := 2, code := jdk_42_method_155_code, exceptionTable := #[], attributes := #[] }
def k7m7 : Method := { name := "checkIndex", desc := "(II)V", sig := { parameters := [.int, .int], returnType := none }, accessFlags := 8, code := some k7c7 }
/-- java/lang/String -/
def k7 : Class := { plain "java/lang/String" (some 0) with
  accessFlags := 49
  interfaces := #[2, 3, 4, 5, 6]
  cf := some (fileOf pool7 10 #[.nestMembers #[1103]] #[{ accessFlags := 1, nameIndex := 5, descriptorIndex := 6, attributes := #[] }, { accessFlags := 1, nameIndex := 5, descriptorIndex := 1010, attributes := #[] }, { accessFlags := 1, nameIndex := 507, descriptorIndex := 334, attributes := #[] }, { accessFlags := 1, nameIndex := 497, descriptorIndex := 427, attributes := #[] }, { accessFlags := 2, nameIndex := 5, descriptorIndex := 29, attributes := #[] }, { accessFlags := 0, nameIndex := 17, descriptorIndex := 337, attributes := #[] }, { accessFlags := 0, nameIndex := 494, descriptorIndex := 142, attributes := #[] }, { accessFlags := 8, nameIndex := 501, descriptorIndex := 391, attributes := #[] }] 49 2 #[1106, 1108, 575, 1110, 1112] #[{ accessFlags := 18, nameIndex := 13, descriptorIndex := 14, attributes := #[] }, { accessFlags := 18, nameIndex := 17, descriptorIndex := 18, attributes := #[] }, { accessFlags := 2, nameIndex := 21, descriptorIndex := 22, attributes := #[] }, { accessFlags := 2, nameIndex := 25, descriptorIndex := 26, attributes := #[] }, { accessFlags := 26, nameIndex := 1116, descriptorIndex := 1117, attributes := #[] }, { accessFlags := 24, nameIndex := 40, descriptorIndex := 26, attributes := #[] }, { accessFlags := 26, nameIndex := 1101, descriptorIndex := 1102, attributes := #[] }, { accessFlags := 26, nameIndex := 1121, descriptorIndex := 1122, attributes := #[] }, { accessFlags := 25, nameIndex := 599, descriptorIndex := 600, attributes := #[] }, { accessFlags := 24, nameIndex := 1125, descriptorIndex := 18, attributes := #[] }, { accessFlags := 24, nameIndex := 1127, descriptorIndex := 18, attributes := #[] }])
  fields := #[{ name := "value", type := (.array .byte), accessFlags := 18, slot := 0, constantValue := 0 }, { name := "coder", type := .byte, accessFlags := 18, slot := 1, constantValue := 0 }, { name := "hash", type := .int, accessFlags := 2, slot := 2, constantValue := 0 }, { name := "hashIsZero", type := .boolean, accessFlags := 2, slot := 3, constantValue := 0 }, { name := "serialVersionUID", type := .long, accessFlags := 26, slot := 0, constantValue := 0 }, { name := "COMPACT_STRINGS", type := .boolean, accessFlags := 24, slot := 1, constantValue := 0 }, { name := "serialPersistentFields", type := (.array (.object "java/io/ObjectStreamField")), accessFlags := 26, slot := 2, constantValue := 0 }, { name := "REPL", type := .char, accessFlags := 26, slot := 3, constantValue := 0 }, { name := "CASE_INSENSITIVE_ORDER", type := (.object "java/util/Comparator"), accessFlags := 25, slot := 4, constantValue := 0 }, { name := "LATIN1", type := .byte, accessFlags := 24, slot := 5, constantValue := 0 }, { name := "UTF16", type := .byte, accessFlags := 24, slot := 6, constantValue := 0 }]
  methods := #[k7m0, k7m1, k7m2, k7m3, k7m4, k7m5, k7m6, k7m7]
  instanceTypes := #[(.array .byte), .byte, .int, .boolean]
  staticTypes := #[.long, .boolean, (.array (.object "java/io/ObjectStreamField")), .char, (.object "java/util/Comparator"), .byte, .byte]
  resolved := Array.replicate 1451 none
  statics := some 0 }

def pool8 : Array CpInfo := pool [(2, .class_ 4), (1, u "java/lang/Object"), (0, u "<init>"), (0, u "()V"), (0, .methodref 8 9), (0, .class_ 10), (0, .nameAndType 11 12), (0, u "java/lang/String"), (0, u "length"), (0, u "()I"), (0, .methodref 8 14), (0, .nameAndType 15 16), (0, u "charAt"), (0, u "(I)C"), (0, .class_ 18), (0, u "com/example/medianode/medianode/core/Decimals"), (2, u "isPlain"), (0, u "(Ljava/lang/String;)Z")] 3

def k8m0 : Method := { name := "<init>", desc := "()V", sig := { parameters := [], returnType := none }, accessFlags := 2, code := none }
def k8c1 : Code := { maxStack := 2, maxLocals := 5, code := prog_6_method_2_code, exceptionTable := #[], attributes := #[] }
def k8m1 : Method := { name := "isPlain", desc := "(Ljava/lang/String;)Z", sig := { parameters := [(.object "java/lang/String")], returnType := some .boolean }, accessFlags := 8, code := some k8c1 }
/-- com/example/medianode/medianode/core/Decimals -/
def k8 : Class := { plain "com/example/medianode/medianode/core/Decimals" (some 0) with
  accessFlags := 48
  interfaces := #[]
  cf := some (fileOf pool8 17 #[] #[{ accessFlags := 2, nameIndex := 5, descriptorIndex := 6, attributes := #[] }, { accessFlags := 8, nameIndex := 21, descriptorIndex := 22, attributes := #[] }] 48 2 #[] #[])
  fields := #[]
  methods := #[k8m0, k8m1]
  instanceTypes := #[]
  staticTypes := #[]
  resolved := Array.replicate 26 none
  statics := none }

def pool9 : Array CpInfo := pool [(6, .class_ 8), (1, u "java/lang/Object"), (0, u "<init>"), (0, u "()V"), (1, .class_ 14), (1, u "java/lang/StringUTF16"), (31, u "$assertionsDisabled"), (0, u "Z"), (13, u "HI_BYTE_SHIFT"), (0, u "I"), (2, u "LO_BYTE_SHIFT"), (49, .methodref 12 116), (0, .nameAndType 117 118), (0, u "compress"), (0, u "([CI[BII)I"), (3, u "([CII)[B"), (138, u "coderFromArrayLen"), (0, u "([BI)B"), (106, .class_ 371), (1, u "java/lang/StringUTF16$LinesSpliterator"), (58, u "MAX_LENGTH"), (196, .class_ 628), (0, u "java/lang/StringUTF16$CodePointsSpliterator"), (0, .class_ 630), (0, u "java/lang/StringUTF16$CharsSpliterator")] 4

def k9m0 : Method := { name := "<init>", desc := "()V", sig := { parameters := [], returnType := none }, accessFlags := 0, code := none }
def k9c1 : Code := { maxStack := 2, maxLocals := 2, code := jdk_52_method_15_code, exceptionTable := #[], attributes := #[] }
def k9m1 : Method := { name := "coderFromArrayLen", desc := "([BI)B", sig := { parameters := [(.array .byte), .int], returnType := some .byte }, accessFlags := 8, code := some k9c1 }
def k9c2 : Code := { maxStack := 5, maxLocals := 6, code := jdk_52_method_16_code, exceptionTable := #[], attributes := #[] }
def k9m2 : Method := { name := "compress", desc := "([CII)[B", sig := { parameters := [(.array .char), .int, .int], returnType := some (.array .byte) }, accessFlags := 9, code := some k9c2 }
def k9c3 : Code := { maxStack := 3, maxLocals := 7, code := jdk_52_method_21_code, exceptionTable := #[], attributes := #[] }
def k9m3 : Method := { name := "compress", desc := "([CI[BII)I", sig := { parameters := [(.array .char), .int, (.array .byte), .int, .int], returnType := some .int }, accessFlags := 9, code := some k9c3 }
/-- java/lang/StringUTF16 -/
def k9 : Class := { plain "java/lang/StringUTF16" (some 0) with
  accessFlags := 48
  interfaces := #[]
  cf := some (fileOf pool9 12 #[.nestMembers #[627, 629, 369]] #[{ accessFlags := 0, nameIndex := 9, descriptorIndex := 10, attributes := #[] }, { accessFlags := 8, nameIndex := 261, descriptorIndex := 262, attributes := #[] }, { accessFlags := 9, nameIndex := 117, descriptorIndex := 122, attributes := #[] }, { accessFlags := 9, nameIndex := 117, descriptorIndex := 118, attributes := #[] }] 48 6 #[] #[{ accessFlags := 26, nameIndex := 61, descriptorIndex := 62, attributes := #[] }, { accessFlags := 26, nameIndex := 65, descriptorIndex := 62, attributes := #[] }, { accessFlags := 24, nameIndex := 430, descriptorIndex := 62, attributes := #[] }, { accessFlags := 4120, nameIndex := 46, descriptorIndex := 47, attributes := #[] }])
  fields := #[{ name := "HI_BYTE_SHIFT", type := .int, accessFlags := 26, slot := 0, constantValue := 0 }, { name := "LO_BYTE_SHIFT", type := .int, accessFlags := 26, slot := 1, constantValue := 0 }, { name := "MAX_LENGTH", type := .int, accessFlags := 24, slot := 2, constantValue := 0 }, { name := "$assertionsDisabled", type := .boolean, accessFlags := 4120, slot := 3, constantValue := 0 }]
  methods := #[k9m0, k9m1, k9m2, k9m3]
  instanceTypes := #[]
  staticTypes := #[.int, .int, .int, .boolean]
  resolved := Array.replicate 635 none
  statics := none }

def pool10 : Array CpInfo := pool [(1, .class_ 2), (0, u "java/lang/String"), (1, .class_ 6), (1, u "java/lang/Object"), (0, u "<init>"), (0, u "()V"), (0, .methodref 1 10), (0, .nameAndType 11 12), (0, u "checkIndex"), (0, u "(II)V"), (1, .class_ 16), (1, u "java/lang/StringLatin1"), (36, u "([BI)C"), (67, u "$assertionsDisabled"), (0, u "Z"), (98, .class_ 223), (1, u "java/lang/StringLatin1$LinesSpliterator"), (28, u "charAt"), (137, .class_ 391), (0, u "java/lang/StringLatin1$CharsSpliterator")] 3

def k10m0 : Method := { name := "<init>", desc := "()V", sig := { parameters := [], returnType := none }, accessFlags := 0, code := none }
def k10c1 : Code := { maxStack := 2, maxLocals := 2, code := jdk_43_method_2_code, exceptionTable := #[], attributes := #[] }
def k10m1 : Method := { name := "charAt", desc := "([BI)C", sig := { parameters := [(.array .byte), .int], returnType := some .char }, accessFlags := 9, code := some k10c1 }
/-- java/lang/StringLatin1 -/
def k10 : Class := { plain "java/lang/StringLatin1" (some 0) with
  accessFlags := 48
  interfaces := #[]
  cf := some (fileOf pool10 14 #[.nestMembers #[390, 221]] #[{ accessFlags := 0, nameIndex := 7, descriptorIndex := 8, attributes := #[] }, { accessFlags := 9, nameIndex := 252, descriptorIndex := 53, attributes := #[] }] 48 4 #[] #[{ accessFlags := 4120, nameIndex := 121, descriptorIndex := 122, attributes := #[] }])
  fields := #[{ name := "$assertionsDisabled", type := .boolean, accessFlags := 4120, slot := 0, constantValue := 0 }]
  methods := #[k10m0, k10m1]
  instanceTypes := #[]
  staticTypes := #[.boolean]
  resolved := Array.replicate 395 none
  statics := none }

def pool11 : Array CpInfo := pool [(2, .class_ 4), (1, u "java/lang/Object"), (0, u "<init>"), (0, u "()V"), (17, .class_ 26), (1, u "jdk/internal/util/Preconditions"), (6, u "checkIndex"), (21, .class_ 56), (0, u "jdk/internal/util/Preconditions$4"), (57, .class_ 115), (0, u "jdk/internal/util/Preconditions$1"), (7, u "SIOOBE_FORMATTER"), (0, u "Ljava/util/function/BiFunction;"), (0, .class_ 126), (0, u "jdk/internal/util/Preconditions$2"), (3, u "AIOOBE_FORMATTER"), (0, .class_ 132), (0, u "jdk/internal/util/Preconditions$3"), (3, u "IOOBE_FORMATTER"), (41, u "(IILjava/util/function/BiFunction;)I")] 15

def k11m0 : Method := { name := "<init>", desc := "()V", sig := { parameters := [], returnType := none }, accessFlags := 1, code := none }
def k11c1 : Code := { maxStack := 3, maxLocals := 3, code := jdk_41_method_11_code, exceptionTable := #[], attributes := #[] }
def k11m1 : Method := { name := "checkIndex", desc := "(IILjava/util/function/BiFunction;)I", sig := { parameters := [.int, .int, (.object "java/util/function/BiFunction")], returnType := some .int }, accessFlags := 9, code := some k11c1 }
/-- jdk/internal/util/Preconditions -/
def k11 : Class := { plain "jdk/internal/util/Preconditions" (some 0) with
  accessFlags := 33
  interfaces := #[]
  cf := some (fileOf pool11 24 #[.nestMembers #[55, 131, 125, 114]] #[{ accessFlags := 1, nameIndex := 5, descriptorIndex := 6, attributes := #[] }, { accessFlags := 9, nameIndex := 33, descriptorIndex := 178, attributes := #[] }] 33 2 #[] #[{ accessFlags := 25, nameIndex := 123, descriptorIndex := 124, attributes := #[] }, { accessFlags := 25, nameIndex := 130, descriptorIndex := 124, attributes := #[] }, { accessFlags := 25, nameIndex := 136, descriptorIndex := 124, attributes := #[] }])
  fields := #[{ name := "SIOOBE_FORMATTER", type := (.object "java/util/function/BiFunction"), accessFlags := 25, slot := 0, constantValue := 0 }, { name := "AIOOBE_FORMATTER", type := (.object "java/util/function/BiFunction"), accessFlags := 25, slot := 1, constantValue := 0 }, { name := "IOOBE_FORMATTER", type := (.object "java/util/function/BiFunction"), accessFlags := 25, slot := 2, constantValue := 0 }]
  methods := #[k11m0, k11m1]
  instanceTypes := #[]
  staticTypes := #[(.object "java/util/function/BiFunction"), (.object "java/util/function/BiFunction"), (.object "java/util/function/BiFunction")]
  resolved := Array.replicate 194 none
  statics := some 1 }

def pool12 : Array CpInfo := pool [(9, u "<init>"), (6, .class_ 18), (1, u "java/lang/Object"), (0, u "()V"), (1, .class_ 23), (1, u "jdk/internal/util/ArraysSupport"), (0, u "LOG2_ARRAY_LONG_INDEX_SCALE"), (0, u "I"), (2, u "U"), (0, u "Ljdk/internal/misc/Unsafe;"), (8, u "BIG_ENDIAN"), (0, u "Z"), (8, u "LOG2_BYTE_BIT_SIZE"), (4, u "LOG2_ARRAY_INT_INDEX_SCALE"), (54, u "JLA"), (0, u "Ljdk/internal/access/JavaLangAccess;"), (11, u "LOG2_ARRAY_BOOLEAN_INDEX_SCALE"), (9, u "LOG2_ARRAY_BYTE_INDEX_SCALE"), (5, u "LOG2_ARRAY_CHAR_INDEX_SCALE"), (5, u "LOG2_ARRAY_SHORT_INDEX_SCALE"), (18, u "LOG2_ARRAY_FLOAT_INDEX_SCALE"), (24, u "LOG2_ARRAY_DOUBLE_INDEX_SCALE"), (89, u "T_BOOLEAN"), (2, u "T_CHAR"), (1, u "T_FLOAT"), (1, u "T_DOUBLE"), (1, u "T_BYTE"), (1, u "T_SHORT"), (1, u "T_INT"), (1, u "T_LONG"), (1, u "SOFT_MAX_ARRAY_LENGTH")] 83

def k12m0 : Method := { name := "<init>", desc := "()V", sig := { parameters := [], returnType := none }, accessFlags := 2, code := none }
/-- jdk/internal/util/ArraysSupport -/
def k12 : Class := { plain "jdk/internal/util/ArraysSupport" (some 0) with
  accessFlags := 33
  interfaces := #[]
  cf := some (fileOf pool12 21 #[] #[{ accessFlags := 2, nameIndex := 9, descriptorIndex := 19, attributes := #[] }] 33 16 #[] #[{ accessFlags := 24, nameIndex := 28, descriptorIndex := 29, attributes := #[] }, { accessFlags := 26, nameIndex := 38, descriptorIndex := 39, attributes := #[] }, { accessFlags := 25, nameIndex := 121, descriptorIndex := 25, attributes := #[] }, { accessFlags := 25, nameIndex := 131, descriptorIndex := 25, attributes := #[] }, { accessFlags := 25, nameIndex := 137, descriptorIndex := 25, attributes := #[] }, { accessFlags := 25, nameIndex := 143, descriptorIndex := 25, attributes := #[] }, { accessFlags := 25, nameIndex := 53, descriptorIndex := 25, attributes := #[] }, { accessFlags := 25, nameIndex := 24, descriptorIndex := 25, attributes := #[] }, { accessFlags := 25, nameIndex := 162, descriptorIndex := 25, attributes := #[] }, { accessFlags := 25, nameIndex := 187, descriptorIndex := 25, attributes := #[] }, { accessFlags := 26, nameIndex := 48, descriptorIndex := 25, attributes := #[] }, { accessFlags := 25, nameIndex := 277, descriptorIndex := 25, attributes := #[] }, { accessFlags := 25, nameIndex := 280, descriptorIndex := 25, attributes := #[] }, { accessFlags := 25, nameIndex := 282, descriptorIndex := 25, attributes := #[] }, { accessFlags := 25, nameIndex := 284, descriptorIndex := 25, attributes := #[] }, { accessFlags := 25, nameIndex := 286, descriptorIndex := 25, attributes := #[] }, { accessFlags := 25, nameIndex := 288, descriptorIndex := 25, attributes := #[] }, { accessFlags := 25, nameIndex := 290, descriptorIndex := 25, attributes := #[] }, { accessFlags := 25, nameIndex := 292, descriptorIndex := 25, attributes := #[] }, { accessFlags := 26, nameIndex := 108, descriptorIndex := 109, attributes := #[] }, { accessFlags := 25, nameIndex := 294, descriptorIndex := 25, attributes := #[] }])
  fields := #[{ name := "U", type := (.object "jdk/internal/misc/Unsafe"), accessFlags := 24, slot := 0, constantValue := 0 }, { name := "BIG_ENDIAN", type := .boolean, accessFlags := 26, slot := 1, constantValue := 0 }, { name := "LOG2_ARRAY_BOOLEAN_INDEX_SCALE", type := .int, accessFlags := 25, slot := 2, constantValue := 0 }, { name := "LOG2_ARRAY_BYTE_INDEX_SCALE", type := .int, accessFlags := 25, slot := 3, constantValue := 0 }, { name := "LOG2_ARRAY_CHAR_INDEX_SCALE", type := .int, accessFlags := 25, slot := 4, constantValue := 0 }, { name := "LOG2_ARRAY_SHORT_INDEX_SCALE", type := .int, accessFlags := 25, slot := 5, constantValue := 0 }, { name := "LOG2_ARRAY_INT_INDEX_SCALE", type := .int, accessFlags := 25, slot := 6, constantValue := 0 }, { name := "LOG2_ARRAY_LONG_INDEX_SCALE", type := .int, accessFlags := 25, slot := 7, constantValue := 0 }, { name := "LOG2_ARRAY_FLOAT_INDEX_SCALE", type := .int, accessFlags := 25, slot := 8, constantValue := 0 }, { name := "LOG2_ARRAY_DOUBLE_INDEX_SCALE", type := .int, accessFlags := 25, slot := 9, constantValue := 0 }, { name := "LOG2_BYTE_BIT_SIZE", type := .int, accessFlags := 26, slot := 10, constantValue := 0 }, { name := "T_BOOLEAN", type := .int, accessFlags := 25, slot := 11, constantValue := 0 }, { name := "T_CHAR", type := .int, accessFlags := 25, slot := 12, constantValue := 0 }, { name := "T_FLOAT", type := .int, accessFlags := 25, slot := 13, constantValue := 0 }, { name := "T_DOUBLE", type := .int, accessFlags := 25, slot := 14, constantValue := 0 }, { name := "T_BYTE", type := .int, accessFlags := 25, slot := 15, constantValue := 0 }, { name := "T_SHORT", type := .int, accessFlags := 25, slot := 16, constantValue := 0 }, { name := "T_INT", type := .int, accessFlags := 25, slot := 17, constantValue := 0 }, { name := "T_LONG", type := .int, accessFlags := 25, slot := 18, constantValue := 0 }, { name := "JLA", type := (.object "jdk/internal/access/JavaLangAccess"), accessFlags := 26, slot := 19, constantValue := 0 }, { name := "SOFT_MAX_ARRAY_LENGTH", type := .int, accessFlags := 25, slot := 20, constantValue := 0 }]
  methods := #[k12m0]
  instanceTypes := #[]
  staticTypes := #[(.object "jdk/internal/misc/Unsafe"), .boolean, .int, .int, .int, .int, .int, .int, .int, .int, .int, .int, .int, .int, .int, .int, .int, .int, .int, (.object "jdk/internal/access/JavaLangAccess"), .int]
  resolved := Array.replicate 378 none
  statics := none }

def pool13 : Array CpInfo := pool [(1, u "java/lang/Cloneable"), (0, .class_ 1), (0, u "java/lang/Object"), (0, .class_ 3)] 3

/-- java/lang/Cloneable -/
def k13 : Class := { plain "java/lang/Cloneable" (some 0) with
  accessFlags := 1537
  interfaces := #[]
  cf := some (fileOf pool13 2 #[] #[] 1537 4 #[] #[])
  fields := #[]
  methods := #[]
  instanceTypes := #[]
  staticTypes := #[]
  resolved := Array.replicate 8 none
  statics := none }

/-- the primitive byte -/
def k14 : Class := { plain "byte" none with kind := .primitive 'B', accessFlags := 0x411 }
/-- [B -/
def k15 : Class := { plain "[B" (some 0) with kind := .array 14 .byte, interfaces := #[13, 2], accessFlags := 1041 }

/-- the primitive char -/
def k16 : Class := { plain "char" none with kind := .primitive 'C', accessFlags := 0x411 }
/-- [C -/
def k17 : Class := { plain "[C" (some 0) with kind := .array 16 .char, interfaces := #[13, 2], accessFlags := 1041 }

/-- the primitive int -/
def k18 : Class := { plain "int" none with kind := .primitive 'I', accessFlags := 0x411 }
/-- [I -/
def k19 : Class := { plain "[I" (some 0) with kind := .array 18 .int, interfaces := #[13, 2], accessFlags := 1041 }

def heap : Heap := #[{ cls := 7, slots := #[.long 0, .int 1, .null, .int 0, .null, .int 0, .int 0], vm := .statics 7 },
  { cls := 11, slots := #[.null, .null, .null], vm := .statics 11 }]
def classes : Array Class := #[k0, k1, k2, k3, k4, k5, k6, k7, k8, k9, k10, k11, k12, k13, k14, k15, k16, k17, k18, k19]
def interned : List (Array UInt16 × Addr) := []
def slotsUsed : Nat := 10
def theMethod : MethodId := ⟨1, 1⟩
def args0 : Array Value := #[.int 5, .int 1, .int 3, .int 1, .int 3]
def aboutOver (below : List Frame) : State where
  vm := { classes := classes, interned := interned.toArray }
  heap := heap
  slotsUsed := slotsUsed
  threads := #[{ frames := .invoking theMethod args0 :: below }]
def below0 : List Frame := [.native { method := ⟨0, 0⟩, args := #[] }]
def about1 : State := aboutOver below0
def p0 : Program := .bare "" "" ""
def e0 : Env := launch0.env 0 0 0
theorem w_frames : about1.frames = Frame.invoking theMethod args0 :: below0 := rfl
set_option maxRecDepth 65536 in
theorem w_args : argsFit about1.vm theMethod args0 = true := by decide +kernel
set_option maxRecDepth 65536 in
theorem w_heap : heapFits about1 = true := by decide +kernel
set_option maxRecDepth 65536 in
theorem w_runnable : about1.curStatus? = some .runnable := by decide +kernel
set_option maxRecDepth 65536 in
theorem w_alone : about1.alone = true := by decide +kernel
set_option maxRecDepth 65536 in
theorem w_named : about1.methodNamed? x = some theMethod := by decide +kernel
set_option maxRecDepth 65536 in
theorem w_hears : about1.hears theMethod below0 = true := by decide +kernel
set_option maxRecDepth 65536 in
theorem w_ripe : about1.ripe theMethod args0 below0 = true := by decide +kernel
theorem w_running : about1.status = .running := rfl
set_option maxRecDepth 65536 in
theorem w_room : about1.hasRoom e0.platform room_1 = true :=
  launch0.hasRoom_least _ room_1 (by decide +kernel) (by decide +kernel) (by decide +kernel) (by decide +kernel) (by decide +kernel) (by decide +kernel)
theorem allAtoms_all (ts : List Jvm.Cond) (a : Array Jvm.Value) (st : Jvm.State) : (allAtoms ts).before a st = ts.all (fun c => c.before a st) := by
  induction ts with
  | nil => rfl
  | cons c t ih =>
    show (Jvm.Cond.and c (allAtoms t)).before a st = _
    rw [Jvm.Cond.before_and, ih, List.all_cons]
def words1 : List Jvm.Cond := Jvm.Cond.code x code maxLocals ret :: tables_1
/-- a 'code' word, met by the world's own term for the bytes: nothing is compared byte by byte -/
theorem code_word {y : MethodName} {bytes : ByteArray} {mx : Nat} {rt : Option FieldType} {a : Array Value} {s : State} {m : MethodId} {meth : Method} {c : Code} (h1 : s.methodNamed? y = some m) (h2 : s.vm.method? m = some meth) (h3 : meth.code = some c) (h4 : c.code = bytes)
    (h5 : (c.maxLocals == mx && c.exceptionTable.isEmpty && decide (c.maxStack ≤ mostOperands) && decide (meth.sig.returnType = rt) && !meth.locks && decide (parseMethodDescriptor y.desc = some meth.sig)) = true) : (Jvm.Cond.code y bytes mx rt).before a s = true := by
  simp only [Bool.and_eq_true, beq_iff_eq, Bool.not_eq_true', decide_eq_true_eq] at h5
  obtain ⟨⟨⟨⟨⟨g1, g2⟩, g3⟩, g4⟩, g5⟩, g6⟩ := h5
  simp [Cond.before, Cond.holds, Cond.value, h1, h2, h3, h4, g1, g2, g3, g4, g5, g6]
def isCode : Jvm.Cond → Bool
  | .code _ _ _ _ => true
  | _ => false
theorem all_split {L : List Jvm.Cond} {P : Jvm.Cond → Bool} (h1 : L.all (fun c => isCode c || P c) = true) (h2 : ∀ c ∈ L.filter isCode, P c = true) : L.all P = true := by
  refine List.all_eq_true.mpr fun c hc => ?_
  have h := List.all_eq_true.mp h1 c hc
  rcases Bool.eq_false_or_eq_true (isCode c) with hi | hi
  · exact h2 c (List.mem_filter.mpr ⟨hc, hi⟩)
  · simpa [hi] using h
set_option maxRecDepth 65536 in
theorem w_c0 : (Jvm.Cond.code x code maxLocals ret).before args0 about1 = true := code_word (m := ⟨1, 1⟩) (meth := k1m1) (c := k1c1) (by decide +kernel) rfl rfl rfl (by decide +kernel)
set_option maxRecDepth 65536 in
theorem w_c1 : (Jvm.Cond.code ({ cls := "com/example/medianode/medianode/core/DecimalsIsPlainPinLaw", name := "pick", desc := "(I)C" } : Jvm.MethodName) method_3_code (3 : Nat) (Option.some Jvm.ClassFile.FieldType.char)).before args0 about1 = true := code_word (m := ⟨1, 2⟩) (meth := k1m2) (c := k1c2) (by decide +kernel) rfl rfl rfl (by decide +kernel)
set_option maxRecDepth 65536 in
theorem w_c2 : (Jvm.Cond.code ({ cls := "java/lang/String", name := "<init>", desc := "([C)V" } : Jvm.MethodName) jdk_42_method_3_code (2 : Nat) (Option.none : Option Jvm.ClassFile.FieldType)).before args0 about1 = true := code_word (m := ⟨7, 1⟩) (meth := k7m1) (c := k7c1) (by decide +kernel) rfl rfl rfl (by decide +kernel)
set_option maxRecDepth 65536 in
theorem w_c3 : (Jvm.Cond.code ({ cls := "java/lang/String", name := "<init>", desc := "([CIILjava/lang/Void;)V" } : Jvm.MethodName) jdk_42_method_149_code (6 : Nat) (Option.none : Option Jvm.ClassFile.FieldType)).before args0 about1 = true := code_word (m := ⟨7, 4⟩) (meth := k7m4) (c := k7c4) (by decide +kernel) rfl rfl rfl (by decide +kernel)
set_option maxRecDepth 65536 in
theorem w_c4 : (Jvm.Cond.code ({ cls := "java/lang/Object", name := "<init>", desc := "()V" } : Jvm.MethodName) object_method_1_code (1 : Nat) (Option.none : Option Jvm.ClassFile.FieldType)).before args0 about1 = true := code_word (m := ⟨0, 0⟩) (meth := k0m0) (c := k0c0) (by decide +kernel) rfl rfl rfl (by decide +kernel)
set_option maxRecDepth 65536 in
theorem w_c5 : (Jvm.Cond.code ({ cls := "com/example/medianode/medianode/core/Decimals", name := "isPlain", desc := "(Ljava/lang/String;)Z" } : Jvm.MethodName) prog_6_method_2_code (5 : Nat) (Option.some Jvm.ClassFile.FieldType.boolean)).before args0 about1 = true := code_word (m := ⟨8, 1⟩) (meth := k8m1) (c := k8c1) (by decide +kernel) rfl rfl rfl (by decide +kernel)
set_option maxRecDepth 65536 in
theorem w_c6 : (Jvm.Cond.code ({ cls := "java/lang/String", name := "length", desc := "()I" } : Jvm.MethodName) jdk_42_method_54_code (1 : Nat) (Option.some Jvm.ClassFile.FieldType.int)).before args0 about1 = true := code_word (m := ⟨7, 2⟩) (meth := k7m2) (c := k7c2) (by decide +kernel) rfl rfl rfl (by decide +kernel)
set_option maxRecDepth 65536 in
theorem w_c7 : (Jvm.Cond.code ({ cls := "java/lang/String", name := "coder", desc := "()B" } : Jvm.MethodName) jdk_42_method_152_code (1 : Nat) (Option.some Jvm.ClassFile.FieldType.byte)).before args0 about1 = true := code_word (m := ⟨7, 5⟩) (meth := k7m5) (c := k7c5) (by decide +kernel) rfl rfl rfl (by decide +kernel)
set_option maxRecDepth 65536 in
theorem w_c8 : (Jvm.Cond.code ({ cls := "com/example/medianode/medianode/core/DecimalsIsPlainPinLaw", name := "one", desc := "(Z)I" } : Jvm.MethodName) method_6_code (1 : Nat) (Option.some Jvm.ClassFile.FieldType.int)).before args0 about1 = true := code_word (m := ⟨1, 5⟩) (meth := k1m5) (c := k1c5) (by decide +kernel) rfl rfl rfl (by decide +kernel)
set_option maxRecDepth 65536 in
theorem w_c9 : (Jvm.Cond.code ({ cls := "java/lang/StringUTF16", name := "compress", desc := "([CII)[B" } : Jvm.MethodName) jdk_52_method_16_code (6 : Nat) (Option.some (Jvm.ClassFile.FieldType.array Jvm.ClassFile.FieldType.byte))).before args0 about1 = true := code_word (m := ⟨9, 2⟩) (meth := k9m2) (c := k9c2) (by decide +kernel) rfl rfl rfl (by decide +kernel)
set_option maxRecDepth 65536 in
theorem w_c10 : (Jvm.Cond.code ({ cls := "java/lang/StringUTF16", name := "compress", desc := "([CI[BII)I" } : Jvm.MethodName) jdk_52_method_21_code (7 : Nat) (Option.some Jvm.ClassFile.FieldType.int)).before args0 about1 = true := code_word (m := ⟨9, 3⟩) (meth := k9m3) (c := k9c3) (by decide +kernel) rfl rfl rfl (by decide +kernel)
set_option maxRecDepth 65536 in
theorem w_c11 : (Jvm.Cond.code ({ cls := "java/lang/StringUTF16", name := "coderFromArrayLen", desc := "([BI)B" } : Jvm.MethodName) jdk_52_method_15_code (2 : Nat) (Option.some Jvm.ClassFile.FieldType.byte)).before args0 about1 = true := code_word (m := ⟨9, 1⟩) (meth := k9m1) (c := k9c1) (by decide +kernel) rfl rfl rfl (by decide +kernel)
set_option maxRecDepth 65536 in
theorem w_c12 : (Jvm.Cond.code ({ cls := "java/lang/String", name := "charAt", desc := "(I)C" } : Jvm.MethodName) jdk_42_method_56_code (2 : Nat) (Option.some Jvm.ClassFile.FieldType.char)).before args0 about1 = true := code_word (m := ⟨7, 3⟩) (meth := k7m3) (c := k7c3) (by decide +kernel) rfl rfl rfl (by decide +kernel)
set_option maxRecDepth 65536 in
theorem w_c13 : (Jvm.Cond.code ({ cls := "java/lang/String", name := "isLatin1", desc := "()Z" } : Jvm.MethodName) jdk_42_method_154_code (1 : Nat) (Option.some Jvm.ClassFile.FieldType.boolean)).before args0 about1 = true := code_word (m := ⟨7, 6⟩) (meth := k7m6) (c := k7c6) (by decide +kernel) rfl rfl rfl (by decide +kernel)
set_option maxRecDepth 65536 in
theorem w_c14 : (Jvm.Cond.code ({ cls := "java/lang/StringLatin1", name := "charAt", desc := "([BI)C" } : Jvm.MethodName) jdk_43_method_2_code (2 : Nat) (Option.some Jvm.ClassFile.FieldType.char)).before args0 about1 = true := code_word (m := ⟨10, 1⟩) (meth := k10m1) (c := k10c1) (by decide +kernel) rfl rfl rfl (by decide +kernel)
set_option maxRecDepth 65536 in
theorem w_c15 : (Jvm.Cond.code ({ cls := "java/lang/String", name := "checkIndex", desc := "(II)V" } : Jvm.MethodName) jdk_42_method_155_code (2 : Nat) (Option.none : Option Jvm.ClassFile.FieldType)).before args0 about1 = true := code_word (m := ⟨7, 7⟩) (meth := k7m7) (c := k7c7) (by decide +kernel) rfl rfl rfl (by decide +kernel)
set_option maxRecDepth 65536 in
theorem w_c16 : (Jvm.Cond.code ({ cls := "jdk/internal/util/Preconditions", name := "checkIndex", desc := "(IILjava/util/function/BiFunction;)I" } : Jvm.MethodName) jdk_41_method_11_code (3 : Nat) (Option.some Jvm.ClassFile.FieldType.int)).before args0 about1 = true := code_word (m := ⟨11, 1⟩) (meth := k11m1) (c := k11c1) (by decide +kernel) rfl rfl rfl (by decide +kernel)
set_option maxRecDepth 65536 in
theorem w_c17 : (Jvm.Cond.code ({ cls := "com/example/medianode/medianode/core/DecimalsIsPlainPinLaw", name := "dig", desc := "(C)Z" } : Jvm.MethodName) method_4_code (1 : Nat) (Option.some Jvm.ClassFile.FieldType.boolean)).before args0 about1 = true := code_word (m := ⟨1, 3⟩) (meth := k1m3) (c := k1c3) (by decide +kernel) rfl rfl rfl (by decide +kernel)
set_option maxRecDepth 65536 in
theorem w_c18 : (Jvm.Cond.code ({ cls := "com/example/medianode/medianode/core/DecimalsIsPlainPinLaw", name := "body", desc := "(C)Z" } : Jvm.MethodName) method_5_code (1 : Nat) (Option.some Jvm.ClassFile.FieldType.boolean)).before args0 about1 = true := code_word (m := ⟨1, 4⟩) (meth := k1m4) (c := k1c4) (by decide +kernel) rfl rfl rfl (by decide +kernel)
def codes1 : List Jvm.Cond := [Jvm.Cond.code x code maxLocals ret, Jvm.Cond.code ({ cls := "com/example/medianode/medianode/core/DecimalsIsPlainPinLaw", name := "pick", desc := "(I)C" } : Jvm.MethodName) method_3_code (3 : Nat) (Option.some Jvm.ClassFile.FieldType.char), Jvm.Cond.code ({ cls := "java/lang/String", name := "<init>", desc := "([C)V" } : Jvm.MethodName) jdk_42_method_3_code (2 : Nat) (Option.none : Option Jvm.ClassFile.FieldType), Jvm.Cond.code ({ cls := "java/lang/String", name := "<init>", desc := "([CIILjava/lang/Void;)V" } : Jvm.MethodName) jdk_42_method_149_code (6 : Nat) (Option.none : Option Jvm.ClassFile.FieldType), Jvm.Cond.code ({ cls := "java/lang/Object", name := "<init>", desc := "()V" } : Jvm.MethodName) object_method_1_code (1 : Nat) (Option.none : Option Jvm.ClassFile.FieldType), Jvm.Cond.code ({ cls := "com/example/medianode/medianode/core/Decimals", name := "isPlain", desc := "(Ljava/lang/String;)Z" } : Jvm.MethodName) prog_6_method_2_code (5 : Nat) (Option.some Jvm.ClassFile.FieldType.boolean), Jvm.Cond.code ({ cls := "java/lang/String", name := "length", desc := "()I" } : Jvm.MethodName) jdk_42_method_54_code (1 : Nat) (Option.some Jvm.ClassFile.FieldType.int), Jvm.Cond.code ({ cls := "java/lang/String", name := "coder", desc := "()B" } : Jvm.MethodName) jdk_42_method_152_code (1 : Nat) (Option.some Jvm.ClassFile.FieldType.byte), Jvm.Cond.code ({ cls := "com/example/medianode/medianode/core/DecimalsIsPlainPinLaw", name := "one", desc := "(Z)I" } : Jvm.MethodName) method_6_code (1 : Nat) (Option.some Jvm.ClassFile.FieldType.int), Jvm.Cond.code ({ cls := "java/lang/StringUTF16", name := "compress", desc := "([CII)[B" } : Jvm.MethodName) jdk_52_method_16_code (6 : Nat) (Option.some (Jvm.ClassFile.FieldType.array Jvm.ClassFile.FieldType.byte)), Jvm.Cond.code ({ cls := "java/lang/StringUTF16", name := "compress", desc := "([CI[BII)I" } : Jvm.MethodName) jdk_52_method_21_code (7 : Nat) (Option.some Jvm.ClassFile.FieldType.int), Jvm.Cond.code ({ cls := "java/lang/StringUTF16", name := "coderFromArrayLen", desc := "([BI)B" } : Jvm.MethodName) jdk_52_method_15_code (2 : Nat) (Option.some Jvm.ClassFile.FieldType.byte), Jvm.Cond.code ({ cls := "java/lang/String", name := "charAt", desc := "(I)C" } : Jvm.MethodName) jdk_42_method_56_code (2 : Nat) (Option.some Jvm.ClassFile.FieldType.char), Jvm.Cond.code ({ cls := "java/lang/String", name := "isLatin1", desc := "()Z" } : Jvm.MethodName) jdk_42_method_154_code (1 : Nat) (Option.some Jvm.ClassFile.FieldType.boolean), Jvm.Cond.code ({ cls := "java/lang/StringLatin1", name := "charAt", desc := "([BI)C" } : Jvm.MethodName) jdk_43_method_2_code (2 : Nat) (Option.some Jvm.ClassFile.FieldType.char), Jvm.Cond.code ({ cls := "java/lang/String", name := "checkIndex", desc := "(II)V" } : Jvm.MethodName) jdk_42_method_155_code (2 : Nat) (Option.none : Option Jvm.ClassFile.FieldType), Jvm.Cond.code ({ cls := "jdk/internal/util/Preconditions", name := "checkIndex", desc := "(IILjava/util/function/BiFunction;)I" } : Jvm.MethodName) jdk_41_method_11_code (3 : Nat) (Option.some Jvm.ClassFile.FieldType.int), Jvm.Cond.code ({ cls := "com/example/medianode/medianode/core/DecimalsIsPlainPinLaw", name := "dig", desc := "(C)Z" } : Jvm.MethodName) method_4_code (1 : Nat) (Option.some Jvm.ClassFile.FieldType.boolean), Jvm.Cond.code ({ cls := "com/example/medianode/medianode/core/DecimalsIsPlainPinLaw", name := "body", desc := "(C)Z" } : Jvm.MethodName) method_5_code (1 : Nat) (Option.some Jvm.ClassFile.FieldType.boolean)]
set_option maxRecDepth 65536 in
theorem codes_eq : words1.filter isCode = codes1 := rfl
theorem w_codes : ∀ c ∈ words1.filter isCode, c.before args0 about1 = true := by
  rw [codes_eq]
  intro c hc
  simp only [codes1, List.mem_cons, List.not_mem_nil, or_false] at hc
  rcases hc with rfl | rfl | rfl | rfl | rfl | rfl | rfl | rfl | rfl | rfl | rfl | rfl | rfl | rfl | rfl | rfl | rfl | rfl | rfl
  · exact w_c0
  · exact w_c1
  · exact w_c2
  · exact w_c3
  · exact w_c4
  · exact w_c5
  · exact w_c6
  · exact w_c7
  · exact w_c8
  · exact w_c9
  · exact w_c10
  · exact w_c11
  · exact w_c12
  · exact w_c13
  · exact w_c14
  · exact w_c15
  · exact w_c16
  · exact w_c17
  · exact w_c18
set_option maxRecDepth 65536 in
theorem w_t1 : (words1.take 24).all (fun c => isCode c || c.before args0 about1) = true := by decide +kernel
set_option maxRecDepth 65536 in
theorem w_t2 : ((words1.drop 24).take 24).all (fun c => isCode c || c.before args0 about1) = true := by decide +kernel
set_option maxRecDepth 65536 in
theorem w_t3 : (((words1.drop 24).drop 24).take 24).all (fun c => isCode c || c.before args0 about1) = true := by decide +kernel
set_option maxRecDepth 65536 in
theorem w_t4 : (((words1.drop 24).drop 24).drop 24).all (fun c => isCode c || c.before args0 about1) = true := by decide +kernel
theorem w_tables : (allAtoms (Jvm.Cond.code x code maxLocals ret :: tables_1)).before args0 about1 = true := by
  rw [allAtoms_all]
  show words1.all (fun c => c.before args0 about1) = true
  refine all_split ?_ w_codes
  rw [← List.take_append_drop 24 words1, List.all_append, w_t1, ← List.take_append_drop 24 (words1.drop 24), List.all_append, w_t2, ← List.take_append_drop 24 ((words1.drop 24).drop 24), List.all_append, w_t3, w_t4]
  rfl
set_option maxRecDepth 65536 in
theorem w_rest : rest_1_c.before args0 about1 = true := by decide +kernel
set_option maxRecDepth 65536 in
theorem w_case : (Jvm.Cond.and given_1 narrow_1).before args0 about1 = true := by decide +kernel
set_option maxRecDepth 65536 in
theorem w_consts : constsHeld consts_1 about1 := Jvm.Lit.constsHeldB_iff.mp (by decide +kernel)
theorem w_applies : (headSpec (Jvm.Cond.code x code maxLocals ret :: tables_1) room_1).applies x e0.platform about1 = true :=
  (Spec.applies_iff w_frames).mpr ⟨w_running, w_runnable, w_alone, w_named, w_hears, w_ripe, w_room, w_tables⟩
theorem atStart : AtStart classFile x code maxLocals ret World_1 tables_1 room_1 Calls_1 rest_1 Pre_1 launch0 p0 e0 about1 theMethod args0 below0 :=
  ⟨lists_1, trivial, launch0.admits_env _ _ _, launch0.least_env, fairChoices_fair.cas, fairChoices_fair.clock, w_frames, w_args, w_heap, w_applies, ⟨w_consts, trivial⟩, w_rest, w_case⟩
end start1
theorem witness_1 : WitnessClaimed_1 := ⟨start1.p0, start1.e0, start1.about1, start1.theMethod, start1.args0, start1.below0, start1.atStart⟩
end Jvm.Pilot.@@N@@
