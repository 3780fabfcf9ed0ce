import JvmDerived
import JvmDerived.Pilot.@@N@@Statement
import JvmDerived.Pilot.@@N@@Code
set_option linter.unusedVariables false
set_option linter.unusedSimpArgs false
namespace Jvm.Own
open Jvm Sem ClassFile Op Lib Jvm.Stand Jvm.Free Jvm.LawKit Jvm.RoadKit
/-- from this state and frame the run comes to an end that E says -/
def Goes (p : Program) (e : Env) (below : List Frame) (E : Outcome → State → Prop) (T : State) (f : JFrame) : Prop :=
  ∃ s₂ o, Steps p.tables e below (T.setTop f) s₂ ∧ s₂.status = .running ∧ Ended s₂ below o ∧ E o s₂
/-- the end of a walk that interns nothing -/
def EndN (s : State) (Q : Option Value → Heap → List Loc → Prop) (K N : Nat) (o : Outcome) (U : State) : Prop :=
  ∃ v L, o = .returned v ∧ Q v U.heap L ∧ FrameEnd s o U L K N
/-- a body's contract -/
def Rm (l : Launch) (y : MethodName) (bytes : ByteArray) (maxL : Nat) (ret : Option FieldType) (rm : Room) (ws : List Jvm.Cond) (Z : State) (as' : Array Value) (h : Heap) (Q : Option Value → Heap → List Loc → Prop) : Prop :=
  MetFree l y (head1 (Jvm.Cond.code y bytes maxL ret :: ws) rm) (fun a U => a = as' ∧ Z.Warmed39 U.vm ∧ U.heap = h) (fun _ _ _ _ _ => True) (fun _ U o U' => ∃ v L, o = .returned v ∧ Q v U'.heap L ∧ FrameEnd U o U' L rm.cells rm.slots)
section Own1
variable {p : Program} {l : Launch} {e : Env} {R : Room} {s : State} {m : MethodId} {args : Array Value} {below : List Frame} {meth : Method} {c : Code} {T : State} {locs : List Loc} {cells slots : Nat} {Z : State} {a0 : Array Value} {h : Heap} {E : Outcome → State → Prop}
theorem Goes.of {T T' : State} {f f' : JFrame} (st : ∀ t, Steps p.tables e below (T'.setTop f') t → Steps p.tables e below (T.setTop f) t) (k : Goes p e below E T' f') : Goes p e below E T f := by
  obtain ⟨s₂, o, h1, h2⟩ := k
  exact ⟨s₂, o, st _ h1, h2⟩
theorem Goes.cast {T : State} {f f' : JFrame} (q : f = f') (k : Goes p e below E T f') : Goes p e below E T f := q ▸ k
theorem oldLe {n0 : Nat} (O : Old Z n0 h) : n0 ≤ h.size := O.1 ▸ O.2.1
theorem goRet {Q : Option Value → Heap → List Loc → Prop} {K N : Nat} {g : JFrame} {v : Option Value} (X : Stand p l e R s m args below meth c T locs cells slots) (hv : meth.sig.returnType = none → v = none) (hlocks : meth.locks = false) (eT : T.heap = h) (hQ : Q v h locs) (hK : cells ≤ K) (hN : slots ≤ N)
    (st : ∀ fs, (∀ (f : JFrame) (acts : List Action), f.method = m → f.locked = none → f.entered = [] → (doReturn e (T.setTop f) acts v).1 = T.setFrames fs) → Steps p.tables e below (T.setTop g) (T.setFrames fs)) : Goes p e below (EndN s Q K N) T g := by
  obtain ⟨fs, hr, hrun, hended, hW, hsame⟩ := X.leave (v := v) hv hlocks
  subst eT
  exact ⟨_, _, st fs hr, hrun, hended, _, _, rfl, hQ, ⟨_, rfl⟩, hW, hsame.mono hK hN⟩
theorem retZ {Q : Option Value → Heap → List Loc → Prop} {K N pc : Nat} {Ls : Array Slot} {z : Int32} {t : FieldType} {rest : List Value} (X : Stand p l e R s m args below meth c T locs cells slots) (hx : p.tables.exec = Jvm.exec) (hret : meth.sig.returnType = some t) (hlocks : meth.locks = false) (ht : t = .boolean ∨ t = .byte ∨ t = .char ∨ t = .short)
    (hd : decode c.code pc = .ok (.ireturn, 1)) (eT : T.heap = h) (hK : cells ≤ K) (hN : slots ≤ N) (hQ : Q (some (.int (nar t z))) h locs) : Goes p e below (EndN s Q K N) T (mkF m pc Ls (.int z :: rest)) :=
  goRet X (fun q => by rw [hret] at q; cases q) hlocks eT hQ hK hN fun fs hr => retN X hx hret ht hd hr
theorem retInt {Q : Option Value → Heap → List Loc → Prop} {K N pc : Nat} {Ls : Array Slot} {z : Int32} {rest : List Value} (X : Stand p l e R s m args below meth c T locs cells slots) (hx : p.tables.exec = Jvm.exec) (hret : meth.sig.returnType = some .int) (hlocks : meth.locks = false)
    (hd : decode c.code pc = .ok (.ireturn, 1)) (eT : T.heap = h) (hK : cells ≤ K) (hN : slots ≤ N) (hQ : Q (some (.int z)) h locs) : Goes p e below (EndN s Q K N) T (mkF m pc Ls (.int z :: rest)) :=
  goRet X (fun q => by rw [hret] at q; cases q) hlocks eT hQ hK hN fun fs hr => by
    have hm' : T.vm.method? m = some meth := X.method'
    have hn : narrow .int (.int z) = .int z := rfl
    show Steps p.tables e below (T.setTop { method := m, pc := pc, locals := Ls, stack := _ :: rest, locked := none }) _
    jvm_step X.here [X.here.top, hx, hd, hm', hret, hn]
    first | (intro acts; rw [hr _ acts rfl rfl rfl]) | rw [hr _ _ rfl rfl rfl]
    exact Steps.refl _
theorem retLong {Q : Option Value → Heap → List Loc → Prop} {K N pc : Nat} {Ls : Array Slot} {z : Int64} {rest : List Value} (X : Stand p l e R s m args below meth c T locs cells slots) (hx : p.tables.exec = Jvm.exec) (hret : meth.sig.returnType = some .long) (hlocks : meth.locks = false)
    (hd : decode c.code pc = .ok (.lreturn, 1)) (eT : T.heap = h) (hK : cells ≤ K) (hN : slots ≤ N) (hQ : Q (some (.long z)) h locs) : Goes p e below (EndN s Q K N) T (mkF m pc Ls (.long z :: rest)) :=
  goRet X (fun q => by rw [hret] at q; cases q) hlocks eT hQ hK hN fun fs hr => by
    have hm' : T.vm.method? m = some meth := X.method'
    show Steps p.tables e below (T.setTop { method := m, pc := pc, locals := Ls, stack := _ :: rest, locked := none }) _
    jvm_step X.here [X.here.top, hx, hd, hm', hret, narrow]
    first | (intro acts; rw [hr _ acts rfl rfl rfl]) | rw [hr _ _ rfl rfl rfl]
    exact Steps.refl _
theorem retRef {Q : Option Value → Heap → List Loc → Prop} {K N pc : Nat} {Ls : Array Slot} {z : Value} {t : FieldType} {rest : List Value} (X : Stand p l e R s m args below meth c T locs cells slots) (hx : p.tables.exec = Jvm.exec) (hret : meth.sig.returnType = some t) (hlocks : meth.locks = false) (ht : t.isReference = true) (hz : z.isRef = true)
    (hd : decode c.code pc = .ok (.areturn, 1)) (eT : T.heap = h) (hK : cells ≤ K) (hN : slots ≤ N) (hQ : Q (some z) h locs) : Goes p e below (EndN s Q K N) T (mkF m pc Ls (z :: rest)) :=
  goRet X (fun q => by rw [hret] at q; cases q) hlocks eT hQ hK hN fun fs hr => by
    have hm' : T.vm.method? m = some meth := X.method'
    show Steps p.tables e below (T.setTop { method := m, pc := pc, locals := Ls, stack := _ :: rest, locked := none }) _
    rcases ref_cases hz with rfl | ⟨_, rfl⟩
    all_goals
      jvm_step X.here [X.here.top, hx, hd, hm', hret, ht, Value.isRef]
      first | (intro acts; rw [hr _ acts rfl rfl rfl]) | rw [hr _ _ rfl rfl rfl]
      exact Steps.refl _
theorem retVoid {Q : Option Value → Heap → List Loc → Prop} {K N pc : Nat} {Ls : Array Slot} {rest : List Value} (X : Stand p l e R s m args below meth c T locs cells slots) (hx : p.tables.exec = Jvm.exec) (hret : meth.sig.returnType = none) (hlocks : meth.locks = false)
    (hd : decode c.code pc = .ok (.return_, 1)) (eT : T.heap = h) (hK : cells ≤ K) (hN : slots ≤ N) (hQ : Q none h locs) : Goes p e below (EndN s Q K N) T (mkF m pc Ls rest) :=
  goRet X (fun _ => rfl) hlocks eT hQ hK hN fun fs hr => by
    have hm' : T.vm.method? m = some meth := X.method'
    show Steps p.tables e below (T.setTop { method := m, pc := pc, locals := Ls, stack := rest, locked := none }) _
    jvm_step X.here [X.here.top, hx, hd, hm', hret]
    first | (intro acts; rw [hr _ acts rfl rfl rfl]) | rw [hr _ _ rfl rfl rfl]
    exact Steps.refl _
/-- a body's contract out of its walk -/
theorem Rm.of {ws : List Jvm.Cond} {y : MethodName} {bytes : ByteArray} {maxL : Nat} {ret : Option FieldType} {rm : Room} {as' : Array Value} {h : Heap} {Q : Option Value → Heap → List Loc → Prop} (hp : plainFor y = true)
    (body : ∀ (p : Program) (e : Env) (s : State) (m : MethodId) (below : List Frame) (meth : Method) (c : Code) (T : State), Stand p l e rm s m as' below meth c T [] 0 0 → p.tables.exec = Jvm.exec → Z.Warmed39 s.vm → c.code = bytes → c.maxLocals = maxL → s.vm.findClass y.cls = some m.cls → meth.name = y.name → meth.sig.returnType = ret → meth.locks = false → T.heap = h →
      Goes p e below (EndN s Q rm.cells rm.slots) T (entryFrame m as' maxL)) : Rm l y bytes maxL ret rm ws Z as' h Q := by
  refine MetFree.of_bodySF hp hisR ?_
  intro p e s m args below meth c s₁ Bd hml0 hP hK
  obtain ⟨rfl, hZ, hh⟩ := hP
  exact body p e s m below meth c s₁ (Stand.of_body Bd) Bd.exec hZ Bd.bytes hml0 (findClass_of_methodNamed Bd.named) (name_of_methodNamed Bd.named Bd.method).1 Bd.returns Bd.notSynchronized (by rw [← hh, Bd.state]; rfl)
theorem goStatic {own : String} {index : Nat} {y : MethodName} {bytes : ByteArray} {maxL : Nat} {ret : Option FieldType} {rm : Room} {as' : Array Value} {Q : Option Value → Heap → List Loc → Prop} (W : Nat)
    (X : Stand p l e R s m args below meth c T locs cells slots) (hx : p.tables.exec = Jvm.exec) (hZ : Z.Warmed39 s.vm) (hown : s.vm.findClass own = some m.cls) (w1 : (Jvm.Cond.methodLink own index y).before a0 Z = true) (w2 : (Jvm.Cond.static y).before a0 Z = true) (w3 : (Jvm.Cond.initialized y.cls).before a0 Z = true) (w4 : (Jvm.Cond.code y bytes maxL ret).before a0 Z = true)
    (hy : y.cls ≠ "java/lang/invoke/MethodHandle" ∧ y.cls ≠ "java/lang/invoke/VarHandle") (r : Rm l y bytes maxL ret rm [] Z as' h Q) (eT : T.heap = h) {g : JFrame} (hg : g.method = m) (hsize : g.locals.size = c.maxLocals) (argsL rest : List Value) (hlen : ∀ sig, parseMethodDescriptor y.desc = some sig → argsL.length = sig.parameters.length)
    (hstack : g.stack = argsL.reverse ++ rest) (has : argsL.toArray = as') (hW : 2 * g.monitorRoom + (rest.map fun v => v.category).sum ≤ W) (hd : decode c.code g.pc = .ok (.invokestatic index, 3)) (hf : rm.frames + 1 ≤ R.frames) (hl : W + (maxL + 11) + rm.locals ≤ R.locals) (hc : cells + rm.cells ≤ R.cells) (hs : slots + rm.slots ≤ R.slots)
    (k : ∀ v T' L, Stand p l e R s m args below meth c T' (locs ++ L) (cells + rm.cells) (slots + rm.slots) → Q v T'.heap L → Goes p e below E T' { g with pc := g.pc + 3, stack := v.toList ++ rest }) : Goes p e below E T g := by
  obtain ⟨v, vm₁, ⟨T', L', k', n'⟩, -, X', ⟨L, hQ, q1, q2, q3⟩, st⟩ := Jvm.LawKit.callS X hx (y := y) hown (mvT hZ w1) (mvT hZ w2) (mvT hZ w3) (mvT hZ w4) hy (backOf (W := W) r hZ w4 w3 hf hl) hg hsize hlen hstack hW hd (fun _ _ => ⟨has, eT, hc, hs⟩)
  dsimp only [Pt.U, Pt.locs, Pt.cells, Pt.slots] at X' q1 q2 q3 st hQ
  subst q1 q2 q3
  exact Goes.of st (k v T' L X' hQ)
theorem goSpecial {own : String} {index : Nat} {y : MethodName} {bytes : ByteArray} {maxL : Nat} {rm : Room} {as' : Array Value} {Q : Option Value → Heap → List Loc → Prop} (W : Nat)
    (X : Stand p l e R s m args below meth c T locs cells slots) (hx : p.tables.exec = Jvm.exec) (hZ : Z.Warmed39 s.vm) (hy1 : y.name = "<init>") (hown : s.vm.findClass own = some m.cls) (w1 : (Jvm.Cond.methodLink own index y).before a0 Z = true) (w2 : (Jvm.Cond.instanceMethod y).before a0 Z = true) (w3 : (Jvm.Cond.initialized y.cls).before a0 Z = true) (w4 : (Jvm.Cond.code y bytes maxL none).before a0 Z = true)
    (hy : y.cls ≠ "java/lang/invoke/MethodHandle" ∧ y.cls ≠ "java/lang/invoke/VarHandle") (r : Rm l y bytes maxL none rm [] Z as' h Q) (eT : T.heap = h) {g : JFrame} (hg : g.method = m) (hsize : g.locals.size = c.maxLocals) (a : Addr) (argsL rest : List Value) (hlen : ∀ sig, parseMethodDescriptor y.desc = some sig → argsL.length = sig.parameters.length)
    (hstack : g.stack = argsL.reverse ++ .ref a :: rest) (has : (.ref a :: argsL).toArray = as') (hW : 2 * g.monitorRoom + (rest.map fun v => v.category).sum ≤ W) (hd : decode c.code g.pc = .ok (.invokespecial index, 3)) (hf : rm.frames + 1 ≤ R.frames) (hl : W + (maxL + 11) + rm.locals ≤ R.locals) (hc : cells + rm.cells ≤ R.cells) (hs : slots + rm.slots ≤ R.slots)
    (k : ∀ v T' L, Stand p l e R s m args below meth c T' (locs ++ L) (cells + rm.cells) (slots + rm.slots) → Q v T'.heap L → Goes p e below E T' { g with pc := g.pc + 3, stack := v.toList ++ rest }) : Goes p e below E T g := by
  obtain ⟨v, vm₁, ⟨T', L', k', n'⟩, -, X', ⟨L, hQ, q1, q2, q3⟩, st⟩ := X.specialBack hx (y := y) hy1 hown (mvT hZ w1) (mvT hZ w2) (mvT hZ w4) hy (backOf (W := W) r hZ w4 w3 hf hl) hg hsize (Steps.refl _) (a := a) hlen hstack hW hd (fun _ _ => ⟨has, eT, hc, hs⟩)
  dsimp only [Pt.U, Pt.locs, Pt.cells, Pt.slots] at X' q1 q2 q3 st hQ
  subst q1 q2 q3
  exact Goes.of (fun _ => st.trans) (k v T' L X' hQ)
theorem goVirtual {own C : String} {index : Nat} {y z : MethodName} {bytes : ByteArray} {maxL : Nat} {ret : Option FieldType} {rm : Room} {as' : Array Value} {Q : Option Value → Heap → List Loc → Prop} (W : Nat)
    (X : Stand p l e R s m args below meth c T locs cells slots) (hx : p.tables.exec = Jvm.exec) (hZ : Z.Warmed39 s.vm) (hown : s.vm.findClass own = some m.cls) (w1 : (Jvm.Cond.methodLink own index y).before a0 Z = true) (w2 : (Jvm.Cond.declares y).before a0 Z = true) (hnf : NotFace s y) (w3 : (Jvm.Cond.selects C y z).before a0 Z = true) (w4 : (Jvm.Cond.instanceMethod z).before a0 Z = true) (w5 : (Jvm.Cond.initialized z.cls).before a0 Z = true) (w6 : (Jvm.Cond.code z bytes maxL ret).before a0 Z = true)
    (hy : y.cls ≠ "java/lang/invoke/MethodHandle" ∧ y.cls ≠ "java/lang/invoke/VarHandle") (r : Rm l z bytes maxL ret rm [] Z as' h Q) (eT : T.heap = h) {a : Addr} (F : Exa Z h a C) {g : JFrame} (hg : g.method = m) (hsize : g.locals.size = c.maxLocals) (argsL rest : List Value) (hlen : ∀ sig, parseMethodDescriptor y.desc = some sig → argsL.length = sig.parameters.length)
    (hstack : g.stack = argsL.reverse ++ .ref a :: rest) (has : (.ref a :: argsL).toArray = as') (hW : 2 * g.monitorRoom + (rest.map fun v => v.category).sum ≤ W) (hd : decode c.code g.pc = .ok (.invokevirtual index, 3)) (hf : rm.frames + 1 ≤ R.frames) (hl : W + (maxL + 11) + rm.locals ≤ R.locals) (hc : cells + rm.cells ≤ R.cells) (hs : slots + rm.slots ≤ R.slots)
    (k : ∀ v T' L, Stand p l e R s m args below meth c T' (locs ++ L) (cells + rm.cells) (slots + rm.slots) → Q v T'.heap L → Goes p e below E T' { g with pc := g.pc + 3, stack := v.toList ++ rest }) : Goes p e below E T g := by
  obtain ⟨cq, kq, qa, qb, qc⟩ := isOf hZ eT F
  obtain ⟨v, vm₁, ⟨T', L', k', n'⟩, -, X', ⟨L, hQ, q1, q2, q3⟩, st⟩ := X.virtualBack hx (y := y) (z := z) hown (mvT hZ w1) (mvT hZ w2) hnf (mvT hZ w3) (mvT hZ w4) hy (backOf (W := W) r hZ w6 w5 hf hl) qa qc hg hsize (Steps.refl _) hlen hstack hW hd (fun _ _ => ⟨has, eT, hc, hs⟩)
  dsimp only [Pt.U, Pt.locs, Pt.cells, Pt.slots] at X' q1 q2 q3 st hQ
  subst q1 q2 q3
  exact Goes.of (fun _ => st.trans) (k v T' L X' hQ)
theorem goNew {own C : String} {index n : Nat} (X : Stand p l e R s m args below meth c T locs cells slots) (hx : p.tables.exec = Jvm.exec) (hZ : Z.Warmed39 s.vm) (hown : s.vm.findClass own = some m.cls) (w : (Jvm.Cond.classLink own index C).before a0 Z = true) (wi : (Jvm.Cond.instantiable C n).before a0 Z = true) (wz : (Jvm.Cond.initialized C).before a0 Z = true) (eT : T.heap = h)
    {g : JFrame} (hg : g.method = m) (hd : decode c.code g.pc = .ok (.new index, 3)) (hc : cells + 1 ≤ R.cells) (hl : slots + n ≤ R.slots)
    (k : ∀ T' h' b, Stand p l e R s m args below meth c T' locs (cells + 1) (slots + n) → T'.heap = h' → Ext h h' → h.size ≤ b → Exa Z h' b C → (∀ {O nm d : String} {ty : FieldType}, Laid Z a0 C O nm d → parseFieldDescriptor d = some ty → Fld Z h' b O nm d (defaultValue ty)) → Goes p e below E T' { g with pc := g.pc + 3, stack := .ref b :: g.stack }) : Goes p e below E T g := by
  obtain ⟨T', h', X', e', E', A', D', -, st⟩ := newO X hx hZ hown w wi wz eT hg hd hc hl
  exact Goes.of st (k T' h' _ X' e' E' (Nat.le_refl _) A' D')
theorem goInitO {own : String} {idx : Nat} (W : Nat) (X : Stand p l e R s m args below meth c T locs cells slots) (hx : p.tables.exec = Jvm.exec) (hZ : Z.Warmed39 s.vm) (hown : s.vm.findClass own = some m.cls) (w1 : (Jvm.Cond.methodLink own idx Lib.objectInit).before a0 Z = true) (w2 : (Jvm.Cond.instanceMethod Lib.objectInit).before a0 Z = true)
    (w3 : (Jvm.Cond.code Lib.objectInit ⟨#[0xb1]⟩ 1 none).before a0 Z = true) (eT : T.heap = h) {g : JFrame} (hg : g.method = m) (hsize : g.locals.size = c.maxLocals) {a : Addr} {rest : List Value} (hs : g.stack = .ref a :: rest) (hd : decode c.code g.pc = .ok (.invokespecial idx, 3))
    (hf : 1 ≤ R.frames) (hW : 2 * g.monitorRoom + (rest.map fun v => v.category).sum ≤ W) (hl : W + 12 ≤ R.locals) (k : ∀ T', Stand p l e R s m args below meth c T' locs cells slots → T'.heap = h → Goes p e below E T' { g with pc := g.pc + 3, stack := rest }) : Goes p e below E T g := by
  obtain ⟨T', X', e', st⟩ := initO X hx hZ hown w1 w2 w3 eT hg hsize hs hd hf hW hl
  exact Goes.of st (k T' X' e')
theorem goGet {own R0 O n d host : String} {index : Nat} (X : Stand p l e R s m args below meth c T locs cells slots) (hx : p.tables.exec = Jvm.exec) (hZ : Z.Warmed39 s.vm) (hown : s.vm.findClass own = some m.cls) (w : (Jvm.Cond.fieldLink own index R0 n d).before a0 Z = true ∨ (Jvm.Cond.fieldLinkNest own index R0 n d host).before a0 Z = true) (via : Via Z R0 O n d)
    (eT : T.heap = h) {a : Addr} {v : Value} (F : Fld Z h a O n d v) {g : JFrame} (hg : g.method = m) {rest : List Value} (hs : g.stack = .ref a :: rest) (hd : decode c.code g.pc = .ok (.getfield index, 3))
    (k : ∀ T', Stand p l e R s m args below meth c T' locs cells slots → T'.heap = h → Goes p e below E T' { g with pc := g.pc + 3, stack := v :: rest }) : Goes p e below E T g := by
  obtain ⟨T', X', e', st⟩ := getF X hx hZ hown w via eT F hg hs hd
  exact Goes.of st (k T' X' e')
theorem goGetS {own R0 O n d host : String} {index : Nat} (X : Stand p l e R s m args below meth c T locs cells slots) (hx : p.tables.exec = Jvm.exec) (hZ : Z.Warmed39 s.vm) (hown : s.vm.findClass own = some m.cls) (w : (Jvm.Cond.fieldLink own index R0 n d).before a0 Z = true ∨ (Jvm.Cond.fieldLinkNest own index R0 n d host).before a0 Z = true) (via : Via Z R0 O n d)
    (eT : T.heap = h) {v : Value} (F : Sta Z h O n d v) {g : JFrame} (hg : g.method = m) (hd : decode c.code g.pc = .ok (.getstatic index, 3))
    (k : ∀ T', Stand p l e R s m args below meth c T' locs cells slots → T'.heap = h → Goes p e below E T' { g with pc := g.pc + 3, stack := v :: g.stack }) : Goes p e below E T g := by
  obtain ⟨T', X', e', st⟩ := getS2 X hx hZ hown w via eT F hg hd
  exact Goes.of st (k T' X' e')
theorem goPut {own R0 O n d host C : String} {index kk : Nat} {ty : FieldType} (X : Stand p l e R s m args below meth c T locs cells slots) (hx : p.tables.exec = Jvm.exec) (hZ : Z.Warmed39 s.vm) (hown : s.vm.findClass own = some m.cls) (w : (Jvm.Cond.fieldLink own index R0 n d).before a0 Z = true ∨ (Jvm.Cond.fieldLinkNest own index R0 n d host).before a0 Z = true) (via : Via Z R0 O n d)
    (eT : T.heap = h) {a : Addr} {v old : Value} (F : Fld Z h a O n d old) (Ex : Exa Z h a C) (L : (Jvm.Cond.lays C O n d).before a0 Z = true ∨ ((Jvm.Cond.laysFinal C O n d).before a0 Z = true ∧ own = O ∧ meth.name = "<init>")) (wi : (Jvm.Cond.instantiable C kk).before a0 Z = true)
    (hty : parseFieldDescriptor d = some ty) (hn : narrow ty v = v) (hf : fits ty v = true) {g : JFrame} (hg : g.method = m) {rest : List Value} (hs : g.stack = v :: .ref a :: rest) (hd : decode c.code g.pc = .ok (.putfield index, 3))
    (k : ∀ T' h', Stand p l e R s m args below meth c T' (locs ++ [⟨a, Jvm.RoadKit.slotOf Z O n d⟩]) cells slots → T'.heap = h' → Wr h h' a (Jvm.RoadKit.slotOf Z O n d) v → Goes p e below E T' { g with pc := g.pc + 3, stack := rest }) : Goes p e below E T g := by
  obtain ⟨T', h', X', e', W', st⟩ := putF X hx hZ hown w via eT F Ex L wi hty hn hf hg hs hd
  exact Goes.of st (k T' h' X' e' W')
theorem goCast {own K : String} {index : Nat} (X : Stand p l e R s m args below meth c T locs cells slots) (hx : p.tables.exec = Jvm.exec) (hZ : Z.Warmed39 s.vm) (hown : s.vm.findClass own = some m.cls) (w : (Jvm.Cond.classLink own index K).before a0 Z = true) (eT : T.heap = h) {a : Addr} (F : Ins Z h a K true)
    {g : JFrame} (hg : g.method = m) {rest : List Value} (hs : g.stack = .ref a :: rest) (hd : decode c.code g.pc = .ok (.checkcast index, 3))
    (k : ∀ T', Stand p l e R s m args below meth c T' locs cells slots → T'.heap = h → Goes p e below E T' { g with pc := g.pc + 3 }) : Goes p e below E T g := by
  obtain ⟨T', X', e', st⟩ := castY X hx hZ hown w eT F hg hs hd
  exact Goes.of st (k T' X' e')
theorem goInstY {own K : String} {index : Nat} (X : Stand p l e R s m args below meth c T locs cells slots) (hx : p.tables.exec = Jvm.exec) (hZ : Z.Warmed39 s.vm) (hown : s.vm.findClass own = some m.cls) (w : (Jvm.Cond.classLink own index K).before a0 Z = true) (eT : T.heap = h) {a : Addr} (F : Ins Z h a K true)
    {g : JFrame} (hg : g.method = m) {rest : List Value} (hs : g.stack = .ref a :: rest) (hd : decode c.code g.pc = .ok (.instanceof index, 3))
    (k : ∀ T', Stand p l e R s m args below meth c T' locs cells slots → T'.heap = h → Goes p e below E T' { g with pc := g.pc + 3, stack := .int 1 :: rest }) : Goes p e below E T g := by
  obtain ⟨T', X', e', st⟩ := instY X hx hZ hown w eT F hg hs hd
  exact Goes.of st (k T' X' e')
theorem goInstN {own K C : String} {index : Nat} (X : Stand p l e R s m args below meth c T locs cells slots) (hx : p.tables.exec = Jvm.exec) (hZ : Z.Warmed39 s.vm) (hown : s.vm.findClass own = some m.cls) (w : (Jvm.Cond.classLink own index K).before a0 Z = true) (eT : T.heap = h) {a : Addr} (Ex : Exa Z h a C) (F : ∃ c t, Z.vm.findClass C = some c ∧ Z.vm.findClass K = some t ∧ Z.vm.assignable c t = false)
    {g : JFrame} (hg : g.method = m) {rest : List Value} (hs : g.stack = .ref a :: rest) (hd : decode c.code g.pc = .ok (.instanceof index, 3))
    (k : ∀ T', Stand p l e R s m args below meth c T' locs cells slots → T'.heap = h → Goes p e below E T' { g with pc := g.pc + 3, stack := .int 0 :: rest }) : Goes p e below E T g := by
  obtain ⟨T', X', e', st⟩ := Jvm.RoadKit.instNo X hx hZ hown w eT Ex F hg hs hd
  exact Goes.of st (k T' X' e')
theorem goNewP {aty : ArrayType} (cap : Nat) (X : Stand p l e R s m args below meth c T locs cells slots) (hx : p.tables.exec = Jvm.exec) (hZ : Z.Warmed39 s.vm) (w : (Jvm.Cond.arrayClass (newarray.typeOf aty)).before a0 Z = true) (eT : T.heap = h) {g : JFrame} (hg : g.method = m) (hd : decode c.code g.pc = .ok (.newarray aty, 2)) {n : Int32} {rest : List Value} (hs : g.stack = .int n :: rest)
    (hn : ¬ n < 0) (hcap : n.toNatClampNeg ≤ cap) (hb : cap * 8 ≤ 536870912) (hc : cells + 1 ≤ R.cells) (hl : slots + cap ≤ R.slots) {ad : String} (had : "[" ++ (newarray.typeOf aty).toString = ad) 
    (k : ∀ T' h' b cA, Stand p l e R s m args below meth c T' locs (cells + 1) (slots + cap) → T'.heap = h' → Ext h h' → h.size ≤ b → Arv Z h' b cA (newarray.typeOf aty) n (List.replicate cap (defaultValue (newarray.typeOf aty))) (defaultValue (newarray.typeOf aty)) → Exa Z h' b ad → Goes p e below E T' { g with pc := g.pc + 2, stack := .ref b :: rest }) : Goes p e below E T g := by
  obtain ⟨T', h', cA, X', e', E', A', Ex', st⟩ := newPE X hx hZ w eT hg hd hs hn hcap hb hc hl had
  exact Goes.of st (k T' h' _ cA X' e' E' (Nat.le_refl _) ((Arv.new A' hn).pad (pad_rep [] _ cap)) Ex')
theorem goNewR {own C : String} {index : Nat} (cap : Nat) (X : Stand p l e R s m args below meth c T locs cells slots) (hx : p.tables.exec = Jvm.exec) (hZ : Z.Warmed39 s.vm) (hown : s.vm.findClass own = some m.cls) (w1 : (Jvm.Cond.classLink own index C).before a0 Z = true) (w2 : (Jvm.Cond.arrayOver (.object C)).before a0 Z = true) (eT : T.heap = h) {g : JFrame} (hg : g.method = m) (hd : decode c.code g.pc = .ok (.anewarray index, 3)) {n : Int32} {rest : List Value} (hs : g.stack = .int n :: rest)
    (hn : ¬ n < 0) (hcap : n.toNatClampNeg ≤ cap) (hb : cap * 8 ≤ 536870912) (hc : cells + 1 ≤ R.cells) (hl : slots + cap ≤ R.slots)
    (k : ∀ T' h' b cA, Stand p l e R s m args below meth c T' locs (cells + 1) (slots + cap) → T'.heap = h' → Ext h h' → h.size ≤ b → Arv Z h' b cA (.object C) n (List.replicate cap .null) .null → Ovr Z cA C → Goes p e below E T' { g with pc := g.pc + 3, stack := .ref b :: rest }) : Goes p e below E T g := by
  obtain ⟨T', h', cA, X', e', E', A', O', st⟩ := newR X hx hZ hown w1 w2 eT hg hd hs hn hcap hb hc hl
  exact Goes.of st (k T' h' _ cA X' e' E' (Nat.le_refl _) ((Arv.new A' hn).pad (pad_rep [] _ cap)) O')
theorem inbV {cl : Cell} {z j : Int32} (S : cl.slots.size = z.toNatClampNeg) (hj : ¬ j < 0) (hj' : j < z) : ¬ (j < 0 ∨ cl.slots.size ≤ j.toNatClampNeg) := inb_of S ⟨hj, hj'⟩
theorem goStI {a : Addr} {kc : ClassId} {z j x : Int32} {vs : List Value} {dv : Value} (i : Nat) (X : Stand p l e R s m args below meth c T locs cells slots) (hx : p.tables.exec = Jvm.exec) (hZ : Z.Warmed39 s.vm) (eT : T.heap = h) (V : Arv Z h a kc .int z vs dv) (hj : ¬ j < 0) (hj' : j < z) (hi : j.toNatClampNeg = i) (hl : i < vs.length)
    {g : JFrame} (hg : g.method = m) {rest : List Value} (hs : g.stack = .int x :: .int j :: .ref a :: rest) (hd : decode c.code g.pc = .ok (.iastore, 1))
    (k : ∀ T' h', Stand p l e R s m args below meth c T' (locs ++ [⟨a, j.toNatClampNeg⟩]) cells slots → T'.heap = h' → Wr h h' a j.toNatClampNeg (.int x) → Arv Z h' a kc .int z (vs.set i (.int x)) dv → Goes p e below E T' { g with pc := g.pc + 1, stack := rest }) : Goes p e below E T g := by
  obtain ⟨cl, A, q1, S, q3, H, G⟩ := V
  obtain ⟨T', h', X', e', W', st⟩ := stI X hx hZ eT A (inbV S hj hj') hg hs hd
  exact Goes.of st (k T' h' X' e' W' (Arv.set A q1 S q3 H G rfl W' i hi hl))
theorem goStJ {a : Addr} {kc : ClassId} {z j : Int32} {x : Int64} {vs : List Value} {dv : Value} (i : Nat) (X : Stand p l e R s m args below meth c T locs cells slots) (hx : p.tables.exec = Jvm.exec) (hZ : Z.Warmed39 s.vm) (eT : T.heap = h) (V : Arv Z h a kc .long z vs dv) (hj : ¬ j < 0) (hj' : j < z) (hi : j.toNatClampNeg = i) (hl : i < vs.length)
    {g : JFrame} (hg : g.method = m) {rest : List Value} (hs : g.stack = .long x :: .int j :: .ref a :: rest) (hd : decode c.code g.pc = .ok (.lastore, 1))
    (k : ∀ T' h', Stand p l e R s m args below meth c T' (locs ++ [⟨a, j.toNatClampNeg⟩]) cells slots → T'.heap = h' → Wr h h' a j.toNatClampNeg (.long x) → Arv Z h' a kc .long z (vs.set i (.long x)) dv → Goes p e below E T' { g with pc := g.pc + 1, stack := rest }) : Goes p e below E T g := by
  obtain ⟨cl, A, q1, S, q3, H, G⟩ := V
  obtain ⟨T', h', X', e', W', st⟩ := stJ X hx hZ eT A (inbV S hj hj') hg hs hd
  exact Goes.of st (k T' h' X' e' W' (Arv.set A q1 S q3 H G rfl W' i hi hl))
theorem goStC {a : Addr} {kc : ClassId} {z j x : Int32} {vs : List Value} {dv : Value} (i : Nat) (X : Stand p l e R s m args below meth c T locs cells slots) (hx : p.tables.exec = Jvm.exec) (hZ : Z.Warmed39 s.vm) (eT : T.heap = h) (V : Arv Z h a kc .char z vs dv) (hj : ¬ j < 0) (hj' : j < z) (hi : j.toNatClampNeg = i) (hl : i < vs.length)
    {g : JFrame} (hg : g.method = m) {rest : List Value} (hs : g.stack = .int x :: .int j :: .ref a :: rest) (hd : decode c.code g.pc = .ok (.castore, 1))
    (k : ∀ T' h', Stand p l e R s m args below meth c T' (locs ++ [⟨a, j.toNatClampNeg⟩]) cells slots → T'.heap = h' → Wr h h' a j.toNatClampNeg (.int (nar .char x)) → Arv Z h' a kc .char z (vs.set i (.int (nar .char x))) dv → Goes p e below E T' { g with pc := g.pc + 1, stack := rest }) : Goes p e below E T g := by
  obtain ⟨cl, A, q1, S, q3, H, G⟩ := V
  obtain ⟨T', h', X', e', W', st⟩ := stC X hx hZ eT A (inbV S hj hj') hg hs hd
  exact Goes.of st (k T' h' X' e' W' (Arv.set A q1 S q3 H G (fits_nar_char _) W' i hi hl))
theorem goStB {a : Addr} {kc : ClassId} {z j x : Int32} {vs : List Value} {dv : Value} (i : Nat) (X : Stand p l e R s m args below meth c T locs cells slots) (hx : p.tables.exec = Jvm.exec) (hZ : Z.Warmed39 s.vm) (eT : T.heap = h) (V : Arv Z h a kc .byte z vs dv) (hj : ¬ j < 0) (hj' : j < z) (hi : j.toNatClampNeg = i) (hl : i < vs.length)
    {g : JFrame} (hg : g.method = m) {rest : List Value} (hs : g.stack = .int x :: .int j :: .ref a :: rest) (hd : decode c.code g.pc = .ok (.bastore, 1))
    (k : ∀ T' h', Stand p l e R s m args below meth c T' (locs ++ [⟨a, j.toNatClampNeg⟩]) cells slots → T'.heap = h' → Wr h h' a j.toNatClampNeg (.int (nar .byte x)) → Arv Z h' a kc .byte z (vs.set i (.int (nar .byte x))) dv → Goes p e below E T' { g with pc := g.pc + 1, stack := rest }) : Goes p e below E T g := by
  obtain ⟨cl, A, q1, S, q3, H, G⟩ := V
  obtain ⟨T', h', X', e', W', st⟩ := stB X hx hZ eT A (inbV S hj hj') hg hs hd
  exact Goes.of st (k T' h' X' e' W' (Arv.set A q1 S q3 H G (fits_nar_byte _) W' i hi hl))
theorem goStZ {a : Addr} {kc : ClassId} {z j x : Int32} {vs : List Value} {dv : Value} (i : Nat) (X : Stand p l e R s m args below meth c T locs cells slots) (hx : p.tables.exec = Jvm.exec) (hZ : Z.Warmed39 s.vm) (eT : T.heap = h) (V : Arv Z h a kc .boolean z vs dv) (hj : ¬ j < 0) (hj' : j < z) (hi : j.toNatClampNeg = i) (hl : i < vs.length)
    {g : JFrame} (hg : g.method = m) {rest : List Value} (hs : g.stack = .int x :: .int j :: .ref a :: rest) (hd : decode c.code g.pc = .ok (.bastore, 1))
    (k : ∀ T' h', Stand p l e R s m args below meth c T' (locs ++ [⟨a, j.toNatClampNeg⟩]) cells slots → T'.heap = h' → Wr h h' a j.toNatClampNeg (.int (nar .boolean x)) → Arv Z h' a kc .boolean z (vs.set i (.int (nar .boolean x))) dv → Goes p e below E T' { g with pc := g.pc + 1, stack := rest }) : Goes p e below E T g := by
  obtain ⟨cl, A, q1, S, q3, H, G⟩ := V
  obtain ⟨T', h', X', e', W', st⟩ := stZ X hx hZ eT A (inbV S hj hj') hg hs hd
  exact Goes.of st (k T' h' X' e' W' (Arv.set A q1 S q3 H G (fits_nar_bool _) W' i hi hl))
theorem goStR {a y : Addr} {C : String} {kc : ClassId} {z j : Int32} {vs : List Value} {dv : Value} (i : Nat) (X : Stand p l e R s m args below meth c T locs cells slots) (hx : p.tables.exec = Jvm.exec) (hZ : Z.Warmed39 s.vm) (eT : T.heap = h) (V : Arv Z h a kc (.object C) z vs dv) (O : Ovr Z kc C) (I : Ins Z h y C true) (hj : ¬ j < 0) (hj' : j < z) (hi : j.toNatClampNeg = i) (hl : i < vs.length)
    {g : JFrame} (hg : g.method = m) {rest : List Value} (hs : g.stack = .ref y :: .int j :: .ref a :: rest) (hd : decode c.code g.pc = .ok (.aastore, 1))
    (k : ∀ T' h', Stand p l e R s m args below meth c T' (locs ++ [⟨a, j.toNatClampNeg⟩]) cells slots → T'.heap = h' → Wr h h' a j.toNatClampNeg (.ref y) → Arv Z h' a kc (.object C) z (vs.set i (.ref y)) dv → Goes p e below E T' { g with pc := g.pc + 1, stack := rest }) : Goes p e below E T g := by
  obtain ⟨cl, A, q1, S, q3, H, G⟩ := V
  obtain ⟨T', h', X', e', W', st⟩ := stR X hx hZ eT A (inbV S hj hj') rfl (Sto.ofV A q1 O I) hg hs hd
  exact Goes.of st (k T' h' X' e' W' (Arv.set A q1 S q3 H G rfl W' i hi hl))
theorem goLdI {a : Addr} {kc : ClassId} {z j : Int32} {vs : List Value} {dv : Value} (v : Value) (X : Stand p l e R s m args below meth c T locs cells slots) (hx : p.tables.exec = Jvm.exec) (hZ : Z.Warmed39 s.vm) (eT : T.heap = h) (V : Arv Z h a kc .int z vs dv) (hj : ¬ j < 0) (hj' : j < z) (hv : vs.getD j.toNatClampNeg dv = v)
    {g : JFrame} (hg : g.method = m) {rest : List Value} (hs : g.stack = .int j :: .ref a :: rest) (hd : decode c.code g.pc = .ok (.iaload, 1)) (k : Goes p e below E T { g with pc := g.pc + 1, stack := v :: rest }) : Goes p e below E T g := by
  obtain ⟨cl, A, q1, S, q3, H, G⟩ := V
  exact Goes.of (fun t q => X.iaload hx (by rw [eT]; exact A.1) (State.isArrayOf_alike hZ.alike A.2.1) A.2.2 (inbV S hj hj') (H.at (inbV S hj hj') hv) hg hs hd t q) k
theorem goLdJ {a : Addr} {kc : ClassId} {z j : Int32} {vs : List Value} {dv : Value} (v : Value) (X : Stand p l e R s m args below meth c T locs cells slots) (hx : p.tables.exec = Jvm.exec) (hZ : Z.Warmed39 s.vm) (eT : T.heap = h) (V : Arv Z h a kc .long z vs dv) (hj : ¬ j < 0) (hj' : j < z) (hv : vs.getD j.toNatClampNeg dv = v)
    {g : JFrame} (hg : g.method = m) {rest : List Value} (hs : g.stack = .int j :: .ref a :: rest) (hd : decode c.code g.pc = .ok (.laload, 1)) (k : Goes p e below E T { g with pc := g.pc + 1, stack := v :: rest }) : Goes p e below E T g := by
  obtain ⟨cl, A, q1, S, q3, H, G⟩ := V
  exact Goes.of (fun t q => X.laload hx (by rw [eT]; exact A.1) (State.isArrayOf_alike hZ.alike A.2.1) A.2.2 (inbV S hj hj') (H.at (inbV S hj hj') hv) hg hs hd t q) k
theorem goLdC {a : Addr} {kc : ClassId} {z j : Int32} {vs : List Value} {dv : Value} (v : Value) (X : Stand p l e R s m args below meth c T locs cells slots) (hx : p.tables.exec = Jvm.exec) (hZ : Z.Warmed39 s.vm) (eT : T.heap = h) (V : Arv Z h a kc .char z vs dv) (hj : ¬ j < 0) (hj' : j < z) (hv : vs.getD j.toNatClampNeg dv = v)
    {g : JFrame} (hg : g.method = m) {rest : List Value} (hs : g.stack = .int j :: .ref a :: rest) (hd : decode c.code g.pc = .ok (.caload, 1)) (k : Goes p e below E T { g with pc := g.pc + 1, stack := v :: rest }) : Goes p e below E T g := by
  obtain ⟨cl, A, q1, S, q3, H, G⟩ := V
  exact Goes.of (fun t q => X.caload hx (by rw [eT]; exact A.1) (State.isArrayOf_alike hZ.alike A.2.1) A.2.2 (inbV S hj hj') (H.at (inbV S hj hj') hv) hg hs hd t q) k
theorem goLdB {a : Addr} {kc : ClassId} {z j : Int32} {vs : List Value} {dv : Value} (v : Value) (X : Stand p l e R s m args below meth c T locs cells slots) (hx : p.tables.exec = Jvm.exec) (hZ : Z.Warmed39 s.vm) (eT : T.heap = h) (V : Arv Z h a kc .byte z vs dv) (hj : ¬ j < 0) (hj' : j < z) (hv : vs.getD j.toNatClampNeg dv = v)
    {g : JFrame} (hg : g.method = m) {rest : List Value} (hs : g.stack = .int j :: .ref a :: rest) (hd : decode c.code g.pc = .ok (.baload, 1)) (k : Goes p e below E T { g with pc := g.pc + 1, stack := v :: rest }) : Goes p e below E T g := by
  obtain ⟨cl, A, q1, S, q3, H, G⟩ := V
  exact Goes.of (fun t q => X.baloadBytes hx (by rw [eT]; exact A.1) (State.isArrayOf_alike hZ.alike A.2.1) A.2.2 (inbV S hj hj') (H.at (inbV S hj hj') hv) hg hs hd t q) k
theorem goLdZ {a : Addr} {kc : ClassId} {z j : Int32} {vs : List Value} {dv : Value} (v : Value) (X : Stand p l e R s m args below meth c T locs cells slots) (hx : p.tables.exec = Jvm.exec) (hZ : Z.Warmed39 s.vm) (eT : T.heap = h) (V : Arv Z h a kc .boolean z vs dv) (hj : ¬ j < 0) (hj' : j < z) (hv : vs.getD j.toNatClampNeg dv = v)
    {g : JFrame} (hg : g.method = m) {rest : List Value} (hs : g.stack = .int j :: .ref a :: rest) (hd : decode c.code g.pc = .ok (.baload, 1)) (k : Goes p e below E T { g with pc := g.pc + 1, stack := v :: rest }) : Goes p e below E T g := by
  obtain ⟨cl, A, q1, S, q3, H, G⟩ := V
  exact Goes.of (fun t q => X.baloadBooleans hx (by rw [eT]; exact A.1) (State.isArrayOf_alike hZ.alike A.2.1) A.2.2 (inbV S hj hj') (H.at (inbV S hj hj') hv) hg hs hd t q) k
theorem goLdR {a : Addr} {C : String} {kc : ClassId} {z j : Int32} {vs : List Value} {dv : Value} (v : Value) (X : Stand p l e R s m args below meth c T locs cells slots) (hx : p.tables.exec = Jvm.exec) (hZ : Z.Warmed39 s.vm) (eT : T.heap = h) (V : Arv Z h a kc (.object C) z vs dv) (hj : ¬ j < 0) (hj' : j < z) (hv : vs.getD j.toNatClampNeg dv = v)
    {g : JFrame} (hg : g.method = m) {rest : List Value} (hs : g.stack = .int j :: .ref a :: rest) (hd : decode c.code g.pc = .ok (.aaload, 1)) (k : Goes p e below E T { g with pc := g.pc + 1, stack := v :: rest }) : Goes p e below E T g := by
  obtain ⟨cl, A, q1, S, q3, H, G⟩ := V
  exact Goes.of (fun t q => X.aaload hx (by rw [eT]; exact A.1) (State.isArrayOf_alike hZ.alike A.2.1) rfl A.2.2 (inbV S hj hj') (H.at (inbV S hj hj') hv) hg hs hd t q) k
theorem goLen {a : Addr} {kc : ClassId} {ty : FieldType} {z : Int32} {vs : List Value} {dv : Value} (X : Stand p l e R s m args below meth c T locs cells slots) (hx : p.tables.exec = Jvm.exec) (hZ : Z.Warmed39 s.vm) (eT : T.heap = h) (V : Arv Z h a kc ty z vs dv)
    {g : JFrame} (hg : g.method = m) {rest : List Value} (hs : g.stack = .ref a :: rest) (hd : decode c.code g.pc = .ok (.arraylength, 1)) (k : Goes p e below E T { g with pc := g.pc + 1, stack := .int z :: rest }) : Goes p e below E T g := by
  obtain ⟨cl, A, q1, S, q3, H, G⟩ := V
  exact Goes.of (fun t q => X.arraylength hx (by rw [eT]; exact A.1) (State.isArrayOf_alike hZ.alike A.2.1) hg hs hd t (by rw [len_of S q3]; exact q)) k
/-- a start fact out of a case's word -/
theorem fld_of_eq {args : Array Value} {t u : Term} {C n d : String} {a : Addr} {v : Value} (ev : t.eval args s none [] s = some (.ref a)) (hu : u.eval args s none [] s = some v) (h : (Jvm.Cond.eq (.field t C n d) u).value args s none s [] = some true) : Fld s s.heap a C n d v := by
  refine Fld.start ?_
  simp only [Jvm.Cond.value, fld_at ev, hu] at h
  cases hf : s.fieldOf? a C n d with
  | none => simp [hf] at h
  | some x => cases x <;> cases v <;> simp [hf] at h ⊢ <;> exact h
theorem sta_at {args : Array Value} {C n d : String} {v : Value} (ev : (Term.static C n d).eval args s none [] s = some v) (w1 : (Jvm.Cond.initialized C).before args s = true) (w2 : (Jvm.Cond.laysStatic C n d).before args s = true) : Sta s s.heap C n d v := Sta.start ev (Or.inr ⟨w1, w2⟩)
/-- an enum constant: the static, the object's class, its ordinal -/
def Con (Z : State) (C f : String) (d : String) (k : Int32) (a : Addr) : Prop := Sta Z Z.heap C f d (.ref a) ∧ Exa Z Z.heap a C ∧ Fld Z Z.heap a "java/lang/Enum" "ordinal" "I" (.int k)
theorem con_of {args : Array Value} {C f d : String} {k : Int32} (h1 : (Jvm.Cond.exactly (.static C f d) C).value args s none s [] = some true) (h2 : (Jvm.Cond.eq (.field (.static C f d) "java/lang/Enum" "ordinal" "I") (.int k)).value args s none s [] = some true)
    (w1 : (Jvm.Cond.initialized C).before args s = true) (w2 : (Jvm.Cond.laysStatic C f d).before args s = true) : ∃ a, Con s C f d k a ∧ (Term.static C f d).eval args s none [] s = some (.ref a) := by
  obtain ⟨a, ev⟩ := exa_v h1
  exact ⟨a, ⟨sta_at ev w1 w2, Exa.start ev h1, fld_of_eq ev (Term.int_eval k) h2⟩, ev⟩
theorem Con.ne {C f d C' f' d' : String} {k k' : Int32} {a b : Addr} (F : Con Z C f d k a) (G : Con Z C' f' d' k' b) (q : k ≠ k') : a ≠ b := Fld.ne F.2.2 G.2.2 (fun h => q (Value.int.inj h))
theorem mask31 (x : Int32) : (x &&& (2147483647 : Int32)).toInt = x.toInt % 2147483648 := c_mask x _ 31 (by decide) (by decide)
theorem div_pos (x y : Int32) {k : Int} (hx : ¬ x < 0) (hy : y.toInt = k) (h1 : y ≠ -1) : (x / y).toInt = x.toInt / k := (c_idiv x y k hy h1).1 (by rw [Int32.lt_iff_toInt_lt] at hx; have : (0 : Int32).toInt = 0 := rfl; omega)
theorem rem_pos {x y : Int32} {k : Int} (h : 0 ≤ x.toInt) (hy : y.toInt = k) : (x - (x / y) * y).toInt = x.toInt % k := by
  rw [irem_eq_mod]; exact (c_irem x y k hy).1 h
theorem rem31 (x y : Int32) {k : Int} (hy : y.toInt = k) : ((x &&& (2147483647 : Int32)) - ((x &&& (2147483647 : Int32)) / y) * y).toInt = (x.toInt % 2147483648) % k := by
  have e := mask31 x
  rw [rem_pos (by omega) hy, e]
def Cst (Z : State) (C f : String) (d : String) (a : Addr) : Prop := Sta Z Z.heap C f d (.ref a) ∧ Exa Z Z.heap a C
theorem cst_of {args : Array Value} {C f d : String} (h1 : (Jvm.Cond.exactly (.static C f d) C).value args s none s [] = some true)
    (w1 : (Jvm.Cond.initialized C).before args s = true) (w2 : (Jvm.Cond.laysStatic C f d).before args s = true) : ∃ a, Cst s C f d a ∧ (Term.static C f d).eval args s none [] s = some (.ref a) := by
  obtain ⟨a, ev⟩ := exa_v h1
  exact ⟨a, ⟨sta_at ev w1 w2, Exa.start ev h1⟩, ev⟩
theorem goClone {own ad : String} {index : Nat} {ty : FieldType} {a : Addr} {kc : ClassId} {z : Int32} {vs : List Value} {dv : Value} (W cap : Nat) (X : Stand p l e R s m args below meth c T locs cells slots) (hx : p.tables.exec = Jvm.exec) (hZ : Z.Warmed39 s.vm) (hown : s.vm.findClass own = some m.cls)
    (w1 : (Jvm.Cond.methodLink own index ⟨ad, "clone", "()Ljava/lang/Object;"⟩).before a0 Z = true) (w2 : (Jvm.Cond.sameMethod ad "java/lang/Object" "clone" "()Ljava/lang/Object;").before a0 Z = true) (w3 : (Jvm.Cond.native ⟨"java/lang/Object", "clone", "()Ljava/lang/Object;"⟩).before a0 Z = true)
    (w4 : (Jvm.Cond.instanceMethod ⟨"java/lang/Object", "clone", "()Ljava/lang/Object;"⟩).before a0 Z = true) (w5 : (Jvm.Cond.selects ad ⟨ad, "clone", "()Ljava/lang/Object;"⟩ ⟨"java/lang/Object", "clone", "()Ljava/lang/Object;"⟩).before a0 Z = true) (w6 : (Jvm.Cond.castable ad "java/lang/Cloneable").before a0 Z = true)
    (eT : T.heap = h) (V : Arv Z h a kc ty z vs dv) (Ex : Exa Z h a ad) {g : JFrame} (hg : g.method = m) (hsize : g.locals.size = c.maxLocals) {rest : List Value} (hst : g.stack = .ref a :: rest) (hd : decode c.code g.pc = .ok (.invokevirtual index, 3))
    (hf : 1 ≤ R.frames) (hW : 2 * g.monitorRoom + (rest.map fun v => v.category).sum ≤ W) (hl : W + 14 ≤ R.locals) (hcap : z.toNatClampNeg ≤ cap) (hc : cells + 1 ≤ R.cells) (hsl : slots + cap ≤ R.slots)
    (k : ∀ T' h' b, Stand p l e R s m args below meth c T' locs (cells + 1) (slots + cap) → T'.heap = h' → Ext h h' → h.size ≤ b → Arv Z h' b kc ty z vs dv → Exa Z h' b ad → Goes p e below E T' { g with pc := g.pc + 3, stack := .ref b :: rest }) : Goes p e below E T g := by
  obtain ⟨T', h', X', e', E', A', Ex', st⟩ := cloneH X hx hZ hown w1 w2 w3 w4 w5 w6 eT V.arh Ex hg hsize hst hd hf hW hl hcap hc hsl
  exact Goes.of st (k T' h' _ X' e' E' (Nat.le_refl _) A' Ex')
theorem nsRoot {O K : String} {n : Nat} (w : (Jvm.Cond.noSuperclass O).before a0 Z = true) (wk : (Jvm.Cond.instantiable K n).before a0 Z = true) (hn : O ≠ K) : NS Z O K := by
  obtain ⟨c, k, h1, h2, h3, -, -⟩ := Cond.noSuperclass_spec w
  obtain ⟨t, kt, g1, -⟩ := Cond.instantiable_spec wk
  have ne := ids_ne h1 g1 hn
  refine ⟨c, t, h1, g1, fun fuel => ?_⟩
  cases fuel with
  | zero => rfl
  | succ f => simp [Vm.isSubclassAux, ne, h2, h3]
theorem nsNo {C S K : String} {n : Nat} (w : (Jvm.Cond.superclass C S).before a0 Z = true) (wk : (Jvm.Cond.instantiable K n).before a0 Z = true) (q : NS Z C K) (hn : C ≠ K) : ∃ c t, Z.vm.findClass C = some c ∧ Z.vm.findClass K = some t ∧ Z.vm.assignable c t = false := by
  obtain ⟨c, t, h0, g0, n3⟩ := q
  obtain ⟨p, k, kp, h1, h2, h3, h4, h5, -, h7⟩ := Cond.superclass_spec h0 w
  obtain ⟨t', kt, g1, g2, g5, g7, -⟩ := Cond.instantiable_spec wk
  cases g0.symm.trans g1
  have g8 : kt.isInterface = false := by simp only [Bool.or_eq_false_iff] at g7; exact g7.1
  have ne := ids_ne h0 g0 hn
  refine ⟨c, t, h0, g0, ?_⟩
  show Z.vm.assignableAux (255 + 1) c t = false
  simp [Vm.assignableAux, ne, h2, g2, h5, g5, g8, Vm.isSubclass, n3]
/-- what is known of Integer's cache at the start -/
def IntC (Z : State) (ca : Addr) (cl : Cell) : Prop := Sta Z Z.heap "java/lang/Integer$IntegerCache" "high" "I" (.int 127) ∧ Sta Z Z.heap "java/lang/Integer$IntegerCache" "cache" "[Ljava/lang/Integer;" (.ref ca) ∧ Arr Z Z.heap ca cl (.object "java/lang/Integer") ∧ cl.slots.size = 256 ∧ ∀ j, j < 256 → ∃ b, cl.slots[j]? = some (.ref b) ∧ Exa Z Z.heap b "java/lang/Integer"
theorem ne_of_not {args : Array Value} {t : Term} {x : Int32} (ev : t.eval args s none [] s = some (.int x)) (h : (Jvm.Cond.not (.eq t (.int 0))).before args s = true) : ¬ x = 0 := by
  intro q
  subst q
  have e := Cond.before_iff.mp h
  simp [Jvm.Cond.value, ev, Term.eval] at e
end Own1
end Jvm.Own
namespace Jvm.Pilot.@@N@@
open Jvm Jvm.ClassFile Sem Op Lib Jvm.Free Jvm.Stand Jvm.LawKit Jvm.RoadKit Jvm.Own Bundle Jvm.Pilot.@@N@@.Jvm.D
theorem ef_1 (m : MethodId) (x0 : Int32) : entryFrame m #[(.int x0)] 1 = mkF m 0 #[.val (.int x0)] [] := by first | (simp [entryFrame, mkF, argsToLocals, Value.category]; done) | rfl
theorem d1_0 : decode method_2_code 0 = .ok (.iload_n 0, 1) := by decide +kernel
theorem d1_1 : decode method_2_code 1 = .ok (.ifCond .ne 7, 3) := by decide +kernel
theorem d1_4 : decode method_2_code 4 = .ok (.getstatic 7, 3) := by decide +kernel
theorem d1_7 : decode method_2_code 7 = .ok (.areturn, 1) := by decide +kernel
theorem d1_8 : decode method_2_code 8 = .ok (.iload_n 0, 1) := by decide +kernel
theorem d1_9 : decode method_2_code 9 = .ok (.iconst 1, 1) := by decide +kernel
theorem d1_10 : decode method_2_code 10 = .ok (.if_icmp .ne 7, 3) := by decide +kernel
theorem d1_13 : decode method_2_code 13 = .ok (.getstatic 13, 3) := by decide +kernel
theorem d1_16 : decode method_2_code 16 = .ok (.areturn, 1) := by decide +kernel
theorem d1_17 : decode method_2_code 17 = .ok (.iload_n 0, 1) := by decide +kernel
theorem d1_18 : decode method_2_code 18 = .ok (.iconst 2, 1) := by decide +kernel
theorem d1_19 : decode method_2_code 19 = .ok (.if_icmp .ne 7, 3) := by decide +kernel
theorem d1_22 : decode method_2_code 22 = .ok (.getstatic 16, 3) := by decide +kernel
theorem d1_25 : decode method_2_code 25 = .ok (.areturn, 1) := by decide +kernel
theorem d1_26 : decode method_2_code 26 = .ok (.iload_n 0, 1) := by decide +kernel
theorem d1_27 : decode method_2_code 27 = .ok (.iconst 3, 1) := by decide +kernel
theorem d1_28 : decode method_2_code 28 = .ok (.if_icmp .ne 7, 3) := by decide +kernel
theorem d1_31 : decode method_2_code 31 = .ok (.getstatic 19, 3) := by decide +kernel
theorem d1_34 : decode method_2_code 34 = .ok (.areturn, 1) := by decide +kernel
theorem d1_35 : decode method_2_code 35 = .ok (.getstatic 22, 3) := by decide +kernel
theorem d1_38 : decode method_2_code 38 = .ok (.areturn, 1) := by decide +kernel
theorem pn_com_example_vestline_vestline_engine_AwardKindExercisedPinLaw : plainName "com/example/vestline/vestline/engine/AwardKindExercisedPinLaw" = true := by first | (simp [plainName, overriddenIn]; done) | decide +kernel
theorem ef_2 (m : MethodId) (x0 : Addr) : entryFrame m #[(.ref x0)] 1 = mkF m 0 #[.val (.ref x0)] [] := by first | (simp [entryFrame, mkF, argsToLocals, Value.category]; done) | rfl
theorem d2_0 : decode prog_4_method_4_code 0 = .ok (.aload_n 0, 1) := by decide +kernel
theorem d2_1 : decode prog_4_method_4_code 1 = .ok (.getstatic 3, 3) := by decide +kernel
theorem d2_4 : decode prog_4_method_4_code 4 = .ok (.if_acmp .eq 10, 3) := by decide +kernel
theorem d2_14 : decode prog_4_method_4_code 14 = .ok (.iconst 1, 1) := by decide +kernel
theorem d2_15 : decode prog_4_method_4_code 15 = .ok (.goto 4, 3) := by decide +kernel
theorem d2_19 : decode prog_4_method_4_code 19 = .ok (.ireturn, 1) := by decide +kernel
theorem d2_7 : decode prog_4_method_4_code 7 = .ok (.aload_n 0, 1) := by decide +kernel
theorem d2_8 : decode prog_4_method_4_code 8 = .ok (.getstatic 7, 3) := by decide +kernel
theorem d2_11 : decode prog_4_method_4_code 11 = .ok (.if_acmp .ne 7, 3) := by decide +kernel
theorem d2_18 : decode prog_4_method_4_code 18 = .ok (.iconst 0, 1) := by decide +kernel
theorem pn_com_example_vestline_vestline_engine_AwardKind : plainName "com/example/vestline/vestline/engine/AwardKind" = true := by first | (simp [plainName, overriddenIn]; done) | decide +kernel
theorem ef_3 (m : MethodId) (x0 : Int32) : entryFrame m #[(.int x0)] 1 = mkF m 0 #[.val (.int x0)] [] := by first | (simp [entryFrame, mkF, argsToLocals, Value.category]; done) | rfl
theorem d3_0 : decode method_3_code 0 = .ok (.iload_n 0, 1) := by decide +kernel
theorem d3_1 : decode method_3_code 1 = .ok (.ifCond .ne 5, 3) := by decide +kernel
theorem d3_4 : decode method_3_code 4 = .ok (.iconst 1, 1) := by decide +kernel
theorem d3_5 : decode method_3_code 5 = .ok (.ireturn, 1) := by decide +kernel
theorem d3_6 : decode method_3_code 6 = .ok (.iload_n 0, 1) := by decide +kernel
theorem d3_7 : decode method_3_code 7 = .ok (.iconst 1, 1) := by decide +kernel
theorem d3_8 : decode method_3_code 8 = .ok (.if_icmp .ne 5, 3) := by decide +kernel
theorem d3_11 : decode method_3_code 11 = .ok (.iconst 1, 1) := by decide +kernel
theorem d3_12 : decode method_3_code 12 = .ok (.ireturn, 1) := by decide +kernel
theorem d3_13 : decode method_3_code 13 = .ok (.iconst 0, 1) := by decide +kernel
theorem d3_14 : decode method_3_code 14 = .ok (.ireturn, 1) := by decide +kernel
theorem ef_0 (m : MethodId) (x0 : Int32) : entryFrame m #[(.int x0)] maxLocals = mkF m 0 #[.val (.int x0), .unset, .unset] [] := by first | (simp [entryFrame, mkF, argsToLocals, Value.category, maxLocals]; done) | rfl
theorem pd__I_Lcom_example_vestline_vestline_engine_AwardKind_ : parseMethodDescriptor "(I)Lcom/example/vestline/vestline/engine/AwardKind;" = some ⟨[.int], some (.object "com/example/vestline/vestline/engine/AwardKind")⟩ := by decide +kernel
theorem pd___Z : parseMethodDescriptor "()Z" = some ⟨[], some .boolean⟩ := by decide +kernel
theorem pd__I_Z : parseMethodDescriptor "(I)Z" = some ⟨[.int], some .boolean⟩ := by decide +kernel
def pickW (i : Int32) (w0 : Addr) (w1 : Addr) (w2 : Addr) (w3 : Addr) (w4 : Addr) : Addr := if i = 0 then w0 else if i = 1 then w1 else if i = 2 then w2 else if i = 3 then w3 else w4
theorem pick_exa {Z : State} (i : Int32) {w0 w1 w2 w3 w4 : Addr} (c0 : Con Z "com/example/vestline/vestline/engine/AwardKind" "OPTION" "Lcom/example/vestline/vestline/engine/AwardKind;" 0 w0) (c1 : Con Z "com/example/vestline/vestline/engine/AwardKind" "SAR" "Lcom/example/vestline/vestline/engine/AwardKind;" 1 w1) (c2 : Con Z "com/example/vestline/vestline/engine/AwardKind" "RESTRICTED_SHARE" "Lcom/example/vestline/vestline/engine/AwardKind;" 2 w2) (c3 : Con Z "com/example/vestline/vestline/engine/AwardKind" "SHARE_UNIT" "Lcom/example/vestline/vestline/engine/AwardKind;" 3 w3) (c4 : Con Z "com/example/vestline/vestline/engine/AwardKind" "OTHER" "Lcom/example/vestline/vestline/engine/AwardKind;" 4 w4) : Exa Z Z.heap (pickW i w0 w1 w2 w3 w4) "com/example/vestline/vestline/engine/AwardKind" := by
  unfold pickW
  repeat' split
  · exact c0.2.1
  · exact c1.2.1
  · exact c2.2.1
  · exact c3.2.1
  · exact c4.2.1
theorem pick_eq {Z : State} (i : Int32) {w0 w1 w2 w3 w4 : Addr} (c0 : Con Z "com/example/vestline/vestline/engine/AwardKind" "OPTION" "Lcom/example/vestline/vestline/engine/AwardKind;" 0 w0) (c1 : Con Z "com/example/vestline/vestline/engine/AwardKind" "SAR" "Lcom/example/vestline/vestline/engine/AwardKind;" 1 w1) (c2 : Con Z "com/example/vestline/vestline/engine/AwardKind" "RESTRICTED_SHARE" "Lcom/example/vestline/vestline/engine/AwardKind;" 2 w2) (c3 : Con Z "com/example/vestline/vestline/engine/AwardKind" "SHARE_UNIT" "Lcom/example/vestline/vestline/engine/AwardKind;" 3 w3) (c4 : Con Z "com/example/vestline/vestline/engine/AwardKind" "OTHER" "Lcom/example/vestline/vestline/engine/AwardKind;" 4 w4) : (if pickW i w0 w1 w2 w3 w4 = w0 then (1 : Int32) else if pickW i w0 w1 w2 w3 w4 = w1 then (1 : Int32) else (0 : Int32)) = (if i = 0 then (1 : Int32) else if i = 1 then (1 : Int32) else (0 : Int32)) := by
  have e10 : w1 ≠ w0 := c1.ne c0 (by decide)
  have e20 : w2 ≠ w0 := c2.ne c0 (by decide)
  have e30 : w3 ≠ w0 := c3.ne c0 (by decide)
  have e40 : w4 ≠ w0 := c4.ne c0 (by decide)
  have e21 : w2 ≠ w1 := c2.ne c1 (by decide)
  have e31 : w3 ≠ w1 := c3.ne c1 (by decide)
  have e41 : w4 ≠ w1 := c4.ne c1 (by decide)
  unfold pickW
  by_cases h0 : i = 0
  · simp [h0]
  · by_cases h1 : i = 1
    · simp [h1, e10]
    · by_cases h2 : i = 2
      · simp [h2, e20, e21]
      · by_cases h3 : i = 3
        · simp [h3, e30, e31]
        · simp [h0, h1, h2, h3, e40, e41]
set_option maxRecDepth 65536 in
set_option maxHeartbeats 40000000 in
theorem rm_pick (l : Launch) (Z : State) (a0 : Array Value) (hw : ∀ d ∈ tables_1, d.before a0 Z = true) (i : Int32) (w0 : Addr) (w1 : Addr) (w2 : Addr) (w3 : Addr) (w4 : Addr) (h0 : Heap) (n0 : Nat) (O0 : Old Z n0 h0) (c0 : Con Z "com/example/vestline/vestline/engine/AwardKind" "OPTION" "Lcom/example/vestline/vestline/engine/AwardKind;" 0 w0) (c1 : Con Z "com/example/vestline/vestline/engine/AwardKind" "SAR" "Lcom/example/vestline/vestline/engine/AwardKind;" 1 w1) (c2 : Con Z "com/example/vestline/vestline/engine/AwardKind" "RESTRICTED_SHARE" "Lcom/example/vestline/vestline/engine/AwardKind;" 2 w2) (c3 : Con Z "com/example/vestline/vestline/engine/AwardKind" "SHARE_UNIT" "Lcom/example/vestline/vestline/engine/AwardKind;" 3 w3) (c4 : Con Z "com/example/vestline/vestline/engine/AwardKind" "OTHER" "Lcom/example/vestline/vestline/engine/AwardKind;" 4 w4) :
    Rm l (⟨"com/example/vestline/vestline/engine/AwardKindExercisedPinLaw", "pick", "(I)Lcom/example/vestline/vestline/engine/AwardKind;"⟩ : MethodName) method_2_code 1 (some (.object "com/example/vestline/vestline/engine/AwardKind")) ({ frames := 0, cells := 0, slots := 0, locals := 0 } : Room) [] Z #[(.int i)] h0 (fun v h L => v = some (.ref (pickW i w0 w1 w2 w3 w4)) ∧ Fr n0 L ∧ h = h0) := by
  refine Rm.of (plainFor_of_name pn_com_example_vestline_vestline_engine_AwardKindExercisedPinLaw) ?_
  intro p e s m below meth c T X hx hZ hby hml hown hnm hret hlk eT0
  have hown : s.vm.findClass "com/example/vestline/vestline/engine/AwardKindExercisedPinLaw" = some m.cls := hown
  have hnm : meth.name = "pick" := hnm
  have N0 := Fr.nil n0
  refine Goes.cast (ef_1 m i) ?_
  show Goes p e below _ T (mkF m 0 #[.val (.int i)] [])
  refine Goes.of (fun _ => XS.iloadN X.here hx rfl (hb hby d1_0) rfl) ?_
  show Goes p e below _ T (mkF m 1 #[.val (.int i)] [(.int i)])
  by_cases hc1 : i = (0 : Int32)
  · refine Goes.of (fun _ => XS.ifNo X.here hx rfl (hb hby d1_1) rfl ((if0 _ _).trans (teq hc1).2)) ?_
    show Goes p e below _ T (mkF m 4 #[.val (.int i)] [])
    refine goGetS X hx hZ hown (host := "") (Or.inl (hw _ (List.mem_of_getElem? (i := 5) rfl))) Via.refl eT0 (c0.1.ext O0.2) (g := (mkF m 4 #[.val (.int i)] [])) rfl (hb hby d1_4) ?_
    intro T1 X1 eT1
    show Goes p e below _ T1 (mkF m 7 #[.val (.int i)] [(.ref w0)])
    exact retRef X1 hx hret hlk rfl rfl (hb hby d1_7) eT1 (by decide) (by decide) ⟨by unfold pickW; rw [if_pos hc1]; try rfl, N0, rfl⟩
  · refine Goes.of (fun _ => XS.ifYes X.here hx rfl (pc0 := 1) (pc' := 8) rfl (hb hby d1_1) rfl ((if0 _ _).trans (feq hc1).2) (by decide) (by decide)) ?_
    show Goes p e below _ T (mkF m 8 #[.val (.int i)] [])
    refine Goes.of (fun _ => XS.iloadN X.here hx rfl (hb hby d1_8) rfl) ?_
    show Goes p e below _ T (mkF m 9 #[.val (.int i)] [(.int i)])
    refine Goes.of (fun _ => XS.iconst X.here hx rfl (hb hby d1_9)) ?_
    show Goes p e below _ T (mkF m 10 #[.val (.int i)] [(.int (1 : Int32)), (.int i)])
    by_cases hc10 : i = (1 : Int32)
    · refine Goes.of (fun _ => XS.icmpNo X.here hx rfl (hb hby d1_10) rfl (teq hc10).2) ?_
      show Goes p e below _ T (mkF m 13 #[.val (.int i)] [])
      refine goGetS X hx hZ hown (host := "") (Or.inl (hw _ (List.mem_of_getElem? (i := 21) rfl))) Via.refl eT0 (c1.1.ext O0.2) (g := (mkF m 13 #[.val (.int i)] [])) rfl (hb hby d1_13) ?_
      intro T2 X2 eT2
      show Goes p e below _ T2 (mkF m 16 #[.val (.int i)] [(.ref w1)])
      exact retRef X2 hx hret hlk rfl rfl (hb hby d1_16) eT2 (by decide) (by decide) ⟨by unfold pickW; rw [if_neg hc1, if_pos hc10]; try rfl, N0, rfl⟩
    · refine Goes.of (fun _ => XS.icmpYes X.here hx rfl (pc0 := 10) (pc' := 17) rfl (hb hby d1_10) rfl (feq hc10).2 (by decide) (by decide)) ?_
      show Goes p e below _ T (mkF m 17 #[.val (.int i)] [])
      refine Goes.of (fun _ => XS.iloadN X.here hx rfl (hb hby d1_17) rfl) ?_
      show Goes p e below _ T (mkF m 18 #[.val (.int i)] [(.int i)])
      refine Goes.of (fun _ => XS.iconst X.here hx rfl (hb hby d1_18)) ?_
      show Goes p e below _ T (mkF m 19 #[.val (.int i)] [(.int (2 : Int32)), (.int i)])
      by_cases hc19 : i = (2 : Int32)
      · refine Goes.of (fun _ => XS.icmpNo X.here hx rfl (hb hby d1_19) rfl (teq hc19).2) ?_
        show Goes p e below _ T (mkF m 22 #[.val (.int i)] [])
        refine goGetS X hx hZ hown (host := "") (Or.inl (hw _ (List.mem_of_getElem? (i := 24) rfl))) Via.refl eT0 (c2.1.ext O0.2) (g := (mkF m 22 #[.val (.int i)] [])) rfl (hb hby d1_22) ?_
        intro T3 X3 eT3
        show Goes p e below _ T3 (mkF m 25 #[.val (.int i)] [(.ref w2)])
        exact retRef X3 hx hret hlk rfl rfl (hb hby d1_25) eT3 (by decide) (by decide) ⟨by unfold pickW; rw [if_neg hc1, if_neg hc10, if_pos hc19]; try rfl, N0, rfl⟩
      · refine Goes.of (fun _ => XS.icmpYes X.here hx rfl (pc0 := 19) (pc' := 26) rfl (hb hby d1_19) rfl (feq hc19).2 (by decide) (by decide)) ?_
        show Goes p e below _ T (mkF m 26 #[.val (.int i)] [])
        refine Goes.of (fun _ => XS.iloadN X.here hx rfl (hb hby d1_26) rfl) ?_
        show Goes p e below _ T (mkF m 27 #[.val (.int i)] [(.int i)])
        refine Goes.of (fun _ => XS.iconst X.here hx rfl (hb hby d1_27)) ?_
        show Goes p e below _ T (mkF m 28 #[.val (.int i)] [(.int (3 : Int32)), (.int i)])
        by_cases hc28 : i = (3 : Int32)
        · refine Goes.of (fun _ => XS.icmpNo X.here hx rfl (hb hby d1_28) rfl (teq hc28).2) ?_
          show Goes p e below _ T (mkF m 31 #[.val (.int i)] [])
          refine goGetS X hx hZ hown (host := "") (Or.inl (hw _ (List.mem_of_getElem? (i := 17) rfl))) Via.refl eT0 (c3.1.ext O0.2) (g := (mkF m 31 #[.val (.int i)] [])) rfl (hb hby d1_31) ?_
          intro T4 X4 eT4
          show Goes p e below _ T4 (mkF m 34 #[.val (.int i)] [(.ref w3)])
          exact retRef X4 hx hret hlk rfl rfl (hb hby d1_34) eT4 (by decide) (by decide) ⟨by unfold pickW; rw [if_neg hc1, if_neg hc10, if_neg hc19, if_pos hc28]; try rfl, N0, rfl⟩
        · refine Goes.of (fun _ => XS.icmpYes X.here hx rfl (pc0 := 28) (pc' := 35) rfl (hb hby d1_28) rfl (feq hc28).2 (by decide) (by decide)) ?_
          show Goes p e below _ T (mkF m 35 #[.val (.int i)] [])
          refine goGetS X hx hZ hown (host := "") (Or.inl (hw _ (List.mem_of_getElem? (i := 22) rfl))) Via.refl eT0 (c4.1.ext O0.2) (g := (mkF m 35 #[.val (.int i)] [])) rfl (hb hby d1_35) ?_
          intro T5 X5 eT5
          show Goes p e below _ T5 (mkF m 38 #[.val (.int i)] [(.ref w4)])
          exact retRef X5 hx hret hlk rfl rfl (hb hby d1_38) eT5 (by decide) (by decide) ⟨by unfold pickW; rw [if_neg hc1, if_neg hc10, if_neg hc19, if_neg hc28]; try rfl, N0, rfl⟩
set_option maxRecDepth 65536 in
set_option maxHeartbeats 40000000 in
theorem rm_exer (l : Launch) (Z : State) (a0 : Array Value) (hw : ∀ d ∈ tables_1, d.before a0 Z = true) (a : Addr) (w0 w1 : Addr) (h0 : Heap) (n0 : Nat) (O0 : Old Z n0 h0) (c0 : Con Z "com/example/vestline/vestline/engine/AwardKind" "OPTION" "Lcom/example/vestline/vestline/engine/AwardKind;" 0 w0) (c1 : Con Z "com/example/vestline/vestline/engine/AwardKind" "SAR" "Lcom/example/vestline/vestline/engine/AwardKind;" 1 w1) :
    Rm l (⟨"com/example/vestline/vestline/engine/AwardKind", "exercised", "()Z"⟩ : MethodName) prog_4_method_4_code 1 (some .boolean) ({ frames := 0, cells := 0, slots := 0, locals := 0 } : Room) [] Z #[(.ref a)] h0 (fun v h L => v = some (.int (if a = w0 then (1 : Int32) else if a = w1 then (1 : Int32) else (0 : Int32))) ∧ Fr n0 L ∧ h = h0) := by
  refine Rm.of (plainFor_of_name pn_com_example_vestline_vestline_engine_AwardKind) ?_
  intro p e s m below meth c T X hx hZ hby hml hown hnm hret hlk eT0
  have hown : s.vm.findClass "com/example/vestline/vestline/engine/AwardKind" = some m.cls := hown
  have hnm : meth.name = "exercised" := hnm
  have N0 := Fr.nil n0
  refine Goes.cast (ef_2 m a) ?_
  show Goes p e below _ T (mkF m 0 #[.val (.ref a)] [])
  refine Goes.of (fun _ => XS.aloadN X.here hx rfl (hb hby d2_0) rfl rfl) ?_
  show Goes p e below _ T (mkF m 1 #[.val (.ref a)] [(.ref a)])
  refine goGetS X hx hZ hown (host := "") (Or.inl (hw _ (List.mem_of_getElem? (i := 13) rfl))) Via.refl eT0 (c0.1.ext O0.2) (g := (mkF m 1 #[.val (.ref a)] [(.ref a)])) rfl (hb hby d2_1) ?_
  intro T1 X1 eT1
  show Goes p e below _ T1 (mkF m 4 #[.val (.ref a)] [(.ref w0), (.ref a)])
  by_cases ha4 : a = w0
  · refine Goes.of (fun _ => Jvm.RoadKit.acmp (g := (mkF m 4 #[.val (.ref a)] [(.ref w0), (.ref a)])) X1 hx rfl rfl rfl (pc0 := 4) (pc' := 14) (same := true) rfl (hb hby d2_4) rfl (decide_eq_true (congrArg Value.ref ha4)) (by decide) (by decide)) ?_
    show Goes p e below _ T1 (mkF m 14 #[.val (.ref a)] [])
    refine Goes.of (fun _ => XS.iconst X1.here hx rfl (hb hby d2_14)) ?_
    show Goes p e below _ T1 (mkF m 15 #[.val (.ref a)] [(.int (1 : Int32))])
    refine Goes.of (fun _ => XS.goto X1.here hx rfl (pc0 := 15) (pc' := 19) rfl (hb hby d2_15) (by decide) (by decide)) ?_
    show Goes p e below _ T1 (mkF m 19 #[.val (.ref a)] [(.int (1 : Int32))])
    exact retZ (t := .boolean) X1 hx hret hlk (by simp) (hb hby d2_19) eT1 (by decide) (by decide) ⟨by rw [if_pos ha4]; try rfl, N0, rfl⟩
  · refine Goes.of (fun _ => Jvm.RoadKit.acmp (g := (mkF m 4 #[.val (.ref a)] [(.ref w0), (.ref a)])) X1 hx rfl rfl rfl (pc0 := 4) (pc' := 7) (same := false) rfl (hb hby d2_4) rfl (decide_eq_false fun q => ha4 (Value.ref.inj q)) (by decide) (by decide)) ?_
    show Goes p e below _ T1 (mkF m 7 #[.val (.ref a)] [])
    refine Goes.of (fun _ => XS.aloadN X1.here hx rfl (hb hby d2_7) rfl rfl) ?_
    show Goes p e below _ T1 (mkF m 8 #[.val (.ref a)] [(.ref a)])
    refine goGetS X1 hx hZ hown (host := "") (Or.inl (hw _ (List.mem_of_getElem? (i := 19) rfl))) Via.refl eT1 (c1.1.ext O0.2) (g := (mkF m 8 #[.val (.ref a)] [(.ref a)])) rfl (hb hby d2_8) ?_
    intro T2 X2 eT2
    show Goes p e below _ T2 (mkF m 11 #[.val (.ref a)] [(.ref w1), (.ref a)])
    by_cases ha11 : a = w1
    · refine Goes.of (fun _ => Jvm.RoadKit.acmp (g := (mkF m 11 #[.val (.ref a)] [(.ref w1), (.ref a)])) X2 hx rfl rfl rfl (pc0 := 11) (pc' := 14) (same := true) rfl (hb hby d2_11) rfl (decide_eq_true (congrArg Value.ref ha11)) (by decide) (by decide)) ?_
      show Goes p e below _ T2 (mkF m 14 #[.val (.ref a)] [])
      refine Goes.of (fun _ => XS.iconst X2.here hx rfl (hb hby d2_14)) ?_
      show Goes p e below _ T2 (mkF m 15 #[.val (.ref a)] [(.int (1 : Int32))])
      refine Goes.of (fun _ => XS.goto X2.here hx rfl (pc0 := 15) (pc' := 19) rfl (hb hby d2_15) (by decide) (by decide)) ?_
      show Goes p e below _ T2 (mkF m 19 #[.val (.ref a)] [(.int (1 : Int32))])
      exact retZ (t := .boolean) X2 hx hret hlk (by simp) (hb hby d2_19) eT2 (by decide) (by decide) ⟨by rw [if_neg ha4, if_pos ha11]; try rfl, N0, rfl⟩
    · refine Goes.of (fun _ => Jvm.RoadKit.acmp (g := (mkF m 11 #[.val (.ref a)] [(.ref w1), (.ref a)])) X2 hx rfl rfl rfl (pc0 := 11) (pc' := 18) (same := false) rfl (hb hby d2_11) rfl (decide_eq_false fun q => ha11 (Value.ref.inj q)) (by decide) (by decide)) ?_
      show Goes p e below _ T2 (mkF m 18 #[.val (.ref a)] [])
      refine Goes.of (fun _ => XS.iconst X2.here hx rfl (hb hby d2_18)) ?_
      show Goes p e below _ T2 (mkF m 19 #[.val (.ref a)] [(.int (0 : Int32))])
      exact retZ (t := .boolean) X2 hx hret hlk (by simp) (hb hby d2_19) eT2 (by decide) (by decide) ⟨by rw [if_neg ha4, if_neg ha11]; try rfl, N0, rfl⟩
set_option maxRecDepth 65536 in
set_option maxHeartbeats 40000000 in
theorem rm_expe (l : Launch) (Z : State) (a0 : Array Value) (hw : ∀ d ∈ tables_1, d.before a0 Z = true) (i : Int32) (h0 : Heap) (n0 : Nat) (O0 : Old Z n0 h0)  :
    Rm l (⟨"com/example/vestline/vestline/engine/AwardKindExercisedPinLaw", "expected", "(I)Z"⟩ : MethodName) method_3_code 1 (some .boolean) ({ frames := 0, cells := 0, slots := 0, locals := 0 } : Room) [] Z #[(.int i)] h0 (fun v h L => v = some (.int (if i = 0 then (1 : Int32) else if i = 1 then (1 : Int32) else (0 : Int32))) ∧ Fr n0 L ∧ h = h0) := by
  refine Rm.of (plainFor_of_name pn_com_example_vestline_vestline_engine_AwardKindExercisedPinLaw) ?_
  intro p e s m below meth c T X hx hZ hby hml hown hnm hret hlk eT0
  have hown : s.vm.findClass "com/example/vestline/vestline/engine/AwardKindExercisedPinLaw" = some m.cls := hown
  have hnm : meth.name = "expected" := hnm
  have N0 := Fr.nil n0
  refine Goes.cast (ef_3 m i) ?_
  show Goes p e below _ T (mkF m 0 #[.val (.int i)] [])
  refine Goes.of (fun _ => XS.iloadN X.here hx rfl (hb hby d3_0) rfl) ?_
  show Goes p e below _ T (mkF m 1 #[.val (.int i)] [(.int i)])
  by_cases hc1 : i = (0 : Int32)
  · refine Goes.of (fun _ => XS.ifNo X.here hx rfl (hb hby d3_1) rfl ((if0 _ _).trans (teq hc1).2)) ?_
    show Goes p e below _ T (mkF m 4 #[.val (.int i)] [])
    refine Goes.of (fun _ => XS.iconst X.here hx rfl (hb hby d3_4)) ?_
    show Goes p e below _ T (mkF m 5 #[.val (.int i)] [(.int (1 : Int32))])
    exact retZ (t := .boolean) X hx hret hlk (by simp) (hb hby d3_5) eT0 (by decide) (by decide) ⟨by rw [if_pos hc1]; try rfl, N0, rfl⟩
  · refine Goes.of (fun _ => XS.ifYes X.here hx rfl (pc0 := 1) (pc' := 6) rfl (hb hby d3_1) rfl ((if0 _ _).trans (feq hc1).2) (by decide) (by decide)) ?_
    show Goes p e below _ T (mkF m 6 #[.val (.int i)] [])
    refine Goes.of (fun _ => XS.iloadN X.here hx rfl (hb hby d3_6) rfl) ?_
    show Goes p e below _ T (mkF m 7 #[.val (.int i)] [(.int i)])
    refine Goes.of (fun _ => XS.iconst X.here hx rfl (hb hby d3_7)) ?_
    show Goes p e below _ T (mkF m 8 #[.val (.int i)] [(.int (1 : Int32)), (.int i)])
    by_cases hc8 : i = (1 : Int32)
    · refine Goes.of (fun _ => XS.icmpNo X.here hx rfl (hb hby d3_8) rfl (teq hc8).2) ?_
      show Goes p e below _ T (mkF m 11 #[.val (.int i)] [])
      refine Goes.of (fun _ => XS.iconst X.here hx rfl (hb hby d3_11)) ?_
      show Goes p e below _ T (mkF m 12 #[.val (.int i)] [(.int (1 : Int32))])
      exact retZ (t := .boolean) X hx hret hlk (by simp) (hb hby d3_12) eT0 (by decide) (by decide) ⟨by rw [if_neg hc1, if_pos hc8]; try rfl, N0, rfl⟩
    · refine Goes.of (fun _ => XS.icmpYes X.here hx rfl (pc0 := 8) (pc' := 13) rfl (hb hby d3_8) rfl (feq hc8).2 (by decide) (by decide)) ?_
      show Goes p e below _ T (mkF m 13 #[.val (.int i)] [])
      refine Goes.of (fun _ => XS.iconst X.here hx rfl (hb hby d3_13)) ?_
      show Goes p e below _ T (mkF m 14 #[.val (.int i)] [(.int (0 : Int32))])
      exact retZ (t := .boolean) X hx hret hlk (by simp) (hb hby d3_14) eT0 (by decide) (by decide) ⟨by rw [if_neg hc1, if_neg hc8]; try rfl, N0, rfl⟩
set_option maxRecDepth 65536 in
set_option maxHeartbeats 40000000 in
theorem rm_law (l : Launch) (Z : State) (a0 : Array Value) (hw : ∀ d ∈ tables_1, d.before a0 Z = true) (ws : List Jvm.Cond) (k : Int32) (w0 : Addr) (w1 : Addr) (w2 : Addr) (w3 : Addr) (w4 : Addr) (h0 : Heap) (n0 : Nat) (O0 : Old Z n0 h0) (c0 : Con Z "com/example/vestline/vestline/engine/AwardKind" "OPTION" "Lcom/example/vestline/vestline/engine/AwardKind;" 0 w0) (c1 : Con Z "com/example/vestline/vestline/engine/AwardKind" "SAR" "Lcom/example/vestline/vestline/engine/AwardKind;" 1 w1) (c2 : Con Z "com/example/vestline/vestline/engine/AwardKind" "RESTRICTED_SHARE" "Lcom/example/vestline/vestline/engine/AwardKind;" 2 w2) (c3 : Con Z "com/example/vestline/vestline/engine/AwardKind" "SHARE_UNIT" "Lcom/example/vestline/vestline/engine/AwardKind;" 3 w3) (c4 : Con Z "com/example/vestline/vestline/engine/AwardKind" "OTHER" "Lcom/example/vestline/vestline/engine/AwardKind;" 4 w4) :
    Rm l x code maxLocals ret room_1 ws Z #[(.int k)] h0 (fun v h L => v = some (.int 1) ∧ Fr n0 L) := by
  refine Rm.of (plainFor_of_name pn_com_example_vestline_vestline_engine_AwardKindExercisedPinLaw) ?_
  intro p e s m below meth c T X hx hZ hby hml hown hnm hret hlk eT0
  have hown : s.vm.findClass "com/example/vestline/vestline/engine/AwardKindExercisedPinLaw" = some m.cls := hown
  have hnm : meth.name = "law" := hnm
  have N0 := Fr.nil n0
  refine Goes.cast (ef_0 m k) ?_
  show Goes p e below _ T (mkF m 0 #[.val (.int k), .unset, .unset] [])
  refine Goes.of (fun _ => XS.iloadN X.here hx rfl (hb hby at_0) rfl) ?_
  show Goes p e below _ T (mkF m 1 #[.val (.int k), .unset, .unset] [(.int k)])
  refine Goes.of (fun _ => X.ldcInt hx hown (mvT hZ (hw _ (List.mem_of_getElem? (i := 0) rfl))) (g := (mkF m 1 #[.val (.int k), .unset, .unset] [(.int k)])) rfl (hb hby at_1) _) ?_
  show Goes p e below _ T (mkF m 3 #[.val (.int k), .unset, .unset] [(.int (2147483647 : Int32)), (.int k)])
  refine Goes.of (fun _ => XS.iand X.here hx rfl (hb hby at_3) rfl) ?_
  show Goes p e below _ T (mkF m 4 #[.val (.int k), .unset, .unset] [(.int (k &&& (2147483647 : Int32)))])
  refine Goes.of (fun _ => XS.iconst X.here hx rfl (hb hby at_4)) ?_
  show Goes p e below _ T (mkF m 5 #[.val (.int k), .unset, .unset] [(.int (5 : Int32)), (.int (k &&& (2147483647 : Int32)))])
  refine Goes.of (fun _ => XS.irem X.here hx rfl (hb hby at_5) rfl (by decide)) ?_
  show Goes p e below _ T (mkF m 6 #[.val (.int k), .unset, .unset] [(.int ((k &&& (2147483647 : Int32)) - ((k &&& (2147483647 : Int32)) / (5 : Int32)) * (5 : Int32)))])
  refine Goes.of (fun _ => XS.istoreN X.here hx rfl (hb hby at_6) rfl (l' := #[.val (.int k), .val (.int ((k &&& (2147483647 : Int32)) - ((k &&& (2147483647 : Int32)) / (5 : Int32)) * (5 : Int32))), .unset]) rfl) ?_
  show Goes p e below _ T (mkF m 7 #[.val (.int k), .val (.int ((k &&& (2147483647 : Int32)) - ((k &&& (2147483647 : Int32)) / (5 : Int32)) * (5 : Int32))), .unset] [])
  generalize hi : ((k &&& (2147483647 : Int32)) - ((k &&& (2147483647 : Int32)) / (5 : Int32)) * (5 : Int32)) = i
  show Goes p e below _ T (mkF m 7 #[.val (.int k), .val (.int i), .unset] [])
  refine Goes.of (fun _ => XS.iloadN X.here hx rfl (hb hby at_7) rfl) ?_
  show Goes p e below _ T (mkF m 8 #[.val (.int k), .val (.int i), .unset] [(.int i)])
  refine goStatic 0 X hx hZ hown (hw _ (List.mem_of_getElem? (i := 1) rfl)) (hw _ (List.mem_of_getElem? (i := 2) rfl)) (hw _ (List.mem_of_getElem? (i := 3) rfl)) (hw _ (List.mem_of_getElem? (i := 4) rfl)) (by decide) (rm_pick l Z a0 hw i w0 w1 w2 w3 w4 h0 n0 O0 c0 c1 c2 c3 c4) eT0 (g := (mkF m 8 #[.val (.int k), .val (.int i), .unset] [(.int i)])) rfl (by rw [hml]; rfl) [(.int i)] [] (lenOf pd__I_Lcom_example_vestline_vestline_engine_AwardKind_ rfl) rfl rfl (by show 2 * 0 + _ ≤ _; exact Nat.le_of_eq rfl) (hb hby at_8) (by decide) (by decide) (by decide) (by decide) ?_
  intro v1 T1 L1 X1 q1
  obtain ⟨rfl, Nq1, eT1⟩ := q1
  have N1 := Fr.app N0 Nq1
  show Goes p e below _ T1 (mkF m 11 #[.val (.int k), .val (.int i), .unset] [(.ref (pickW i w0 w1 w2 w3 w4))])
  refine Goes.of (fun _ => XS.astoreN X1.here hx rfl (hb hby at_11) rfl rfl (l' := #[.val (.int k), .val (.int i), .val (.ref (pickW i w0 w1 w2 w3 w4))]) rfl) ?_
  show Goes p e below _ T1 (mkF m 12 #[.val (.int k), .val (.int i), .val (.ref (pickW i w0 w1 w2 w3 w4))] [])
  refine Goes.of (fun _ => XS.aloadN X1.here hx rfl (hb hby at_12) rfl rfl) ?_
  show Goes p e below _ T1 (mkF m 13 #[.val (.int k), .val (.int i), .val (.ref (pickW i w0 w1 w2 w3 w4))] [(.ref (pickW i w0 w1 w2 w3 w4))])
  refine goVirtual 0 X1 hx hZ hown (hw _ (List.mem_of_getElem? (i := 8) rfl)) (hw _ (List.mem_of_getElem? (i := 9) rfl)) (notFace_of_selects (args := #[]) (mvT hZ (hw _ (List.mem_of_getElem? (i := 11) rfl)))) (hw _ (List.mem_of_getElem? (i := 11) rfl)) (hw _ (List.mem_of_getElem? (i := 10) rfl)) (hw _ (List.mem_of_getElem? (i := 6) rfl)) (hw _ (List.mem_of_getElem? (i := 12) rfl)) (by decide) (rm_exer l Z a0 hw (pickW i w0 w1 w2 w3 w4) w0 w1 h0 n0 O0 c0 c1) eT1 ((pick_exa i c0 c1 c2 c3 c4).ext O0.2) (g := (mkF m 13 #[.val (.int k), .val (.int i), .val (.ref (pickW i w0 w1 w2 w3 w4))] [(.ref (pickW i w0 w1 w2 w3 w4))])) rfl (by rw [hml]; rfl) [] [] (lenOf pd___Z rfl) rfl rfl (by show 2 * 0 + _ ≤ _; exact Nat.le_of_eq rfl) (hb hby at_13) (by decide) (by decide) (by decide) (by decide) ?_
  intro v2 T2 L2 X2 q2
  obtain ⟨rfl, Nq2, eT2⟩ := q2
  have N2 := Fr.app N1 Nq2
  show Goes p e below _ T2 (mkF m 16 #[.val (.int k), .val (.int i), .val (.ref (pickW i w0 w1 w2 w3 w4))] [(.int (if (pickW i w0 w1 w2 w3 w4) = w0 then (1 : Int32) else if (pickW i w0 w1 w2 w3 w4) = w1 then (1 : Int32) else (0 : Int32)))])
  refine Goes.of (fun _ => XS.iloadN X2.here hx rfl (hb hby at_16) rfl) ?_
  show Goes p e below _ T2 (mkF m 17 #[.val (.int k), .val (.int i), .val (.ref (pickW i w0 w1 w2 w3 w4))] [(.int i), (.int (if (pickW i w0 w1 w2 w3 w4) = w0 then (1 : Int32) else if (pickW i w0 w1 w2 w3 w4) = w1 then (1 : Int32) else (0 : Int32)))])
  refine goStatic 1 X2 hx hZ hown (hw _ (List.mem_of_getElem? (i := 14) rfl)) (hw _ (List.mem_of_getElem? (i := 15) rfl)) (hw _ (List.mem_of_getElem? (i := 3) rfl)) (hw _ (List.mem_of_getElem? (i := 16) rfl)) (by decide) (rm_expe l Z a0 hw i h0 n0 O0) eT2 (g := (mkF m 17 #[.val (.int k), .val (.int i), .val (.ref (pickW i w0 w1 w2 w3 w4))] [(.int i), (.int (if (pickW i w0 w1 w2 w3 w4) = w0 then (1 : Int32) else if (pickW i w0 w1 w2 w3 w4) = w1 then (1 : Int32) else (0 : Int32)))])) rfl (by rw [hml]; rfl) [(.int i)] [(.int (if (pickW i w0 w1 w2 w3 w4) = w0 then (1 : Int32) else if (pickW i w0 w1 w2 w3 w4) = w1 then (1 : Int32) else (0 : Int32)))] (lenOf pd__I_Z rfl) rfl rfl (by show 2 * 0 + _ ≤ _; exact Nat.le_of_eq rfl) (hb hby at_17) (by decide) (by decide) (by decide) (by decide) ?_
  intro v3 T3 L3 X3 q3
  obtain ⟨rfl, Nq3, eT3⟩ := q3
  have N3 := Fr.app N2 Nq3
  show Goes p e below _ T3 (mkF m 20 #[.val (.int k), .val (.int i), .val (.ref (pickW i w0 w1 w2 w3 w4))] [(.int (if i = 0 then (1 : Int32) else if i = 1 then (1 : Int32) else (0 : Int32))), (.int (if (pickW i w0 w1 w2 w3 w4) = w0 then (1 : Int32) else if (pickW i w0 w1 w2 w3 w4) = w1 then (1 : Int32) else (0 : Int32)))])
  refine Goes.of (fun _ => XS.icmpNo X3.here hx rfl (hb hby at_20) rfl (teq (pick_eq i c0 c1 c2 c3 c4)).2) ?_
  show Goes p e below _ T3 (mkF m 23 #[.val (.int k), .val (.int i), .val (.ref (pickW i w0 w1 w2 w3 w4))] [])
  refine Goes.of (fun _ => XS.iconst X3.here hx rfl (hb hby at_23)) ?_
  show Goes p e below _ T3 (mkF m 24 #[.val (.int k), .val (.int i), .val (.ref (pickW i w0 w1 w2 w3 w4))] [(.int (1 : Int32))])
  refine Goes.of (fun _ => XS.goto X3.here hx rfl (pc0 := 24) (pc' := 28) rfl (hb hby at_24) (by decide) (by decide)) ?_
  show Goes p e below _ T3 (mkF m 28 #[.val (.int k), .val (.int i), .val (.ref (pickW i w0 w1 w2 w3 w4))] [(.int (1 : Int32))])
  exact retZ (t := .boolean) X3 hx hret hlk (by simp) (hb hby at_28) eT3 (by decide) (by decide) ⟨rfl, N3⟩
set_option maxRecDepth 65536 in
set_option maxHeartbeats 40000000 in
theorem comes_1 {Post : Tables → Env → Array Value → State → Outcome → State → Prop} (hpost : ∀ tb e args s v u, (limb_1_1.after args s (.returned v) u = true ∧ limb_1_2.after args s (.returned v) u = true ∧ True) → FrameEnd s (.returned v) u (Jvm.fieldLocs frame_1_writes args s ++ Jvm.arrayLocs frame_1_arrays args s ++ Jvm.staticLocs frame_1_statics s) 0 0 → Post tb e args s (.returned v) u) :
    ArmFor flags0 classFile x code maxLocals ret World_1 tables_1 room_1 Calls_1 rest_1 Pre_1 Post := by
  intro l hfl _ _ p e ha hc hk s m args below hf hA hF happ hP
  obtain ⟨hcalls, hrest, hpre⟩ := hP
  obtain ⟨-, -, -, hnamed, -, -, -, hat⟩ := (Spec.applies_iff hf).mp happ
  obtain ⟨hg, hn⟩ := and_e (Cond.before_iff.mp (show (Jvm.Cond.and given_1 narrow_1).before args s = true from hpre))
  obtain ⟨hcount, hg0⟩ := and_e hg
  have hv0 := hg0
  obtain ⟨w0, rfl⟩ : ∃ w0 : Value, args = #[w0] := by
    have hs : args.size = 1 := by simpa [Cond.value, given_1] using hcount
    obtain ⟨L⟩ := args
    match L, hs with
    | [w0], _ => exact ⟨w0, rfl⟩
  have hw := fun d (hd : d ∈ tables_1) => atoms_spec (ws := Jvm.Cond.code x code maxLocals ret :: tables_1) hat d (List.mem_cons_of_mem _ hd)
  have hfit : Fit s := fun {y c} hc i hi => by
    obtain ⟨ha, rfl⟩ := Array.getElem?_eq_some_iff.mp hc
    have q := List.all_eq_true.mp ((Array.all_eq_true_iff_forall_mem.mp hF) _ (Array.getElem_mem ha)) i (List.mem_range.mpr hi)
    simpa [Array.getElem?_eq_getElem hi] using q
  obtain ⟨i0, ei0⟩ := is_v hv0
  obtain rfl : w0 = (.int i0) := Option.some.inj ei0
  obtain ⟨nw0, nr0⟩ := and_e hn
  obtain ⟨nw1, nr1⟩ := and_e nr0
  obtain ⟨nw2, nr2⟩ := and_e nr1
  obtain ⟨nw3, nr3⟩ := and_e nr2
  obtain ⟨nw4, nr4⟩ := and_e nr3
  obtain ⟨nw5, nr5⟩ := and_e nr4
  obtain ⟨nw6, nr6⟩ := and_e nr5
  obtain ⟨nw7, nr7⟩ := and_e nr6
  obtain ⟨nw8, nr8⟩ := and_e nr7
  have nw9 := nr8
  obtain ⟨w0', c0, -⟩ := con_of nw0 nw3 (hw _ (List.mem_of_getElem? (i := 6) rfl)) (hw _ (List.mem_of_getElem? (i := 7) rfl))
  obtain ⟨w1', c1, -⟩ := con_of nw4 nw5 (hw _ (List.mem_of_getElem? (i := 6) rfl)) (hw _ (List.mem_of_getElem? (i := 20) rfl))
  obtain ⟨w2', c2, -⟩ := con_of nw8 nw9 (hw _ (List.mem_of_getElem? (i := 6) rfl)) (hw _ (List.mem_of_getElem? (i := 25) rfl))
  obtain ⟨w3', c3, -⟩ := con_of nw1 nw2 (hw _ (List.mem_of_getElem? (i := 6) rfl)) (hw _ (List.mem_of_getElem? (i := 18) rfl))
  obtain ⟨w4', c4, -⟩ := con_of nw6 nw7 (hw _ (List.mem_of_getElem? (i := 6) rfl)) (hw _ (List.mem_of_getElem? (i := 23) rfl))
  obtain ⟨n, o, h1, h2, h3, _, L, rfl, ⟨rfl, N⟩, hq⟩ := rm_law l s _ hw tables_1 i0 w0' w1' w2' w3' w4' s.heap s.heap.size (Old.start s) c0 c1 c2 c3 c4 p e ha hc hk s m _ below hf ((Spec.applies_iff_loose hf).mp happ).1 ⟨rfl, State.Warmed39.refl s, rfl⟩ trivial
  refine ⟨n, _, h1, h2, h3, hpost _ _ _ _ _ _ ⟨Cond.after_iff.mpr rfl, Cond.after_iff.mpr (eq_i res_at (Term.int_eval (1)) rfl), trivial⟩ ⟨hq.1, hq.2.1, (hq.2.2.sift fun y hy => Or.inr (N y hy)).mono (by decide) (by decide)⟩⟩
theorem main_1_1 : Claimed_1_1 := comes_1 fun _ _ _ _ _ _ h hF => ⟨h.1, hF⟩
theorem main_1_2 : Claimed_1_2 := comes_1 fun _ _ _ _ _ _ h hF => ⟨h.2.1, hF⟩
end Jvm.Pilot.@@N@@
namespace Jvm.Pilot.@@N@@
open Jvm Jvm.ClassFile Sem Op Lib Jvm.Free Jvm.Stand Jvm.Pilot.@@N@@.Jvm.D
/-! MADE BY PROGRAM (witnessworld.py) out of the Statement's table words and the real class files: 12 classes; the members and pool entries that the words name. The judged class is class 1, her method 3. -/
namespace start1
open Jvm.ClassFile
def u (s : String) : CpInfo := .utf8 (stringToUtf16 s)
/-- a pool by its gaps: so many unusable entries, then the entry; so many at the end -/
def gap : Nat → List CpInfo → List CpInfo
  | 0, r => r
  | n + 1, r => .unusable :: gap n r
def poolList (es : List (Nat × CpInfo)) (last : Nat) : List CpInfo := es.foldr (fun e r => gap e.1 (e.2 :: r)) (gap last [])
def pool (es : List (Nat × CpInfo)) (last : Nat) : Array CpInfo := ⟨poolList es last⟩
def fileOf (pool : Array CpInfo) (this : Nat) (attrs : Array Attribute := #[]) (ms : Array MethodInfo := #[]) (fl : Nat := 33) (sup : Nat := 0) (ifs : Array Nat := #[]) (fds : Array FieldInfo := #[]) : ClassFile where
  minorVersion := 0
  majorVersion := 65
  constantPool := pool
  accessFlags := fl
  thisClass := this
  superClass := sup
  interfaces := ifs
  fields := fds
  methods := ms
  attributes := attrs
def plain (name : String) (sup : Option ClassId) : Class where
  name := name
  kind := .ordinary
  loader := none
  accessFlags := 33
  super := sup
  interfaces := #[]
  cf := none
  fields := #[]
  methods := #[]
  instanceTypes := #[]
  staticTypes := #[]
  resolved := #[]
  callSites := []
  init := .initialized
  statics := none
  mirror := none

def pool0 : Array CpInfo := pool [(5, u "<init>"), (0, u "()V"), (1, .class_ 10), (1, u "java/lang/Object")] 113

def k0m0 : Method := { name := "<init>", desc := "()V", sig := { parameters := [], returnType := none }, accessFlags := 1, code := none }
/-- java/lang/Object -/
def k0 : Class := { plain "java/lang/Object" none with
  accessFlags := 33
  interfaces := #[]
  cf := some (fileOf pool0 8 #[] #[{ accessFlags := 1, nameIndex := 5, descriptorIndex := 6, attributes := #[] }] 33 0 #[] #[])
  fields := #[]
  methods := #[k0m0]
  instanceTypes := #[]
  staticTypes := #[]
  resolved := Array.replicate 124 none
  statics := none }

def pool1 : Array CpInfo := pool [(2, .class_ 4), (1, u "java/lang/Object"), (0, u "<init>"), (0, u "()V"), (0, .fieldref 8 9), (0, .class_ 10), (0, .nameAndType 11 12), (0, u "com/example/vestline/vestline/engine/AwardKind"), (0, u "OPTION"), (0, u "Lcom/example/vestline/vestline/engine/AwardKind;"), (0, .fieldref 8 14), (0, .nameAndType 15 12), (0, u "SAR"), (0, .fieldref 8 17), (0, .nameAndType 18 12), (0, u "RESTRICTED_SHARE"), (0, .fieldref 8 20), (0, .nameAndType 21 12), (0, u "SHARE_UNIT"), (0, .fieldref 8 23), (0, .nameAndType 24 12), (0, u "OTHER"), (0, .integer 2147483647), (0, .methodref 27 28), (0, .class_ 29), (0, .nameAndType 30 31), (0, u "com/example/vestline/vestline/engine/AwardKindExercisedPinLaw"), (0, u "pick"), (0, u "(I)Lcom/example/vestline/vestline/engine/AwardKind;"), (0, .methodref 8 33), (0, .nameAndType 34 35), (0, u "exercised"), (0, u "()Z"), (0, .methodref 27 37), (0, .nameAndType 38 39), (0, u "expected"), (0, u "(I)Z"), (3, u "law")] 2

def k1m0 : Method := { name := "<init>", desc := "()V", sig := { parameters := [], returnType := none }, accessFlags := 1, code := none }
def k1c1 : Code := { maxStack := 2, maxLocals := 1, code := method_2_code, exceptionTable := #[], attributes := #[] }
def k1m1 : Method := { name := "pick", desc := "(I)Lcom/example/vestline/vestline/engine/AwardKind;", sig := { parameters := [.int], returnType := some (.object "com/example/vestline/vestline/engine/AwardKind") }, accessFlags := 10, code := some k1c1 }
def k1c2 : Code := { maxStack := 2, maxLocals := 1, code := method_3_code, exceptionTable := #[], attributes := #[] }
def k1m2 : Method := { name := "expected", desc := "(I)Z", sig := { parameters := [.int], returnType := some .boolean }, accessFlags := 10, code := some k1c2 }
def k1c3 : Code := { maxStack := 2, maxLocals := 3, code := code, exceptionTable := #[], attributes := #[] }
def k1m3 : Method := { name := "law", desc := "(I)Z", sig := { parameters := [.int], returnType := some .boolean }, accessFlags := 9, code := some k1c3 }
/-- com/example/vestline/vestline/engine/AwardKindExercisedPinLaw -/
def k1 : Class := { plain "com/example/vestline/vestline/engine/AwardKindExercisedPinLaw" (some 0) with
  accessFlags := 49
  interfaces := #[]
  cf := some (fileOf pool1 27 #[] #[{ accessFlags := 1, nameIndex := 5, descriptorIndex := 6, attributes := #[] }, { accessFlags := 10, nameIndex := 30, descriptorIndex := 31, attributes := #[] }, { accessFlags := 10, nameIndex := 38, descriptorIndex := 39, attributes := #[] }, { accessFlags := 9, nameIndex := 43, descriptorIndex := 39, attributes := #[] }] 49 2 #[] #[])
  fields := #[]
  methods := #[k1m0, k1m1, k1m2, k1m3]
  instanceTypes := #[]
  staticTypes := #[]
  resolved := Array.replicate 46 none
  statics := none }

def pool2 : Array CpInfo := pool [(1, .class_ 2), (0, u "java/lang/constant/Constable"), (0, .class_ 4), (0, u "java/lang/Object")] 6

/-- java/lang/constant/Constable -/
def k2 : Class := { plain "java/lang/constant/Constable" (some 0) with
  accessFlags := 1537
  interfaces := #[]
  cf := some (fileOf pool2 1 #[] #[] 1537 3 #[] #[])
  fields := #[]
  methods := #[]
  instanceTypes := #[]
  staticTypes := #[]
  resolved := Array.replicate 11 none
  statics := none }

def pool3 : Array CpInfo := pool [(1, .class_ 2), (0, u "java/lang/Comparable"), (0, .class_ 4), (0, u "java/lang/Object")] 7

/-- java/lang/Comparable -/
def k3 : Class := { plain "java/lang/Comparable" (some 0) with
  accessFlags := 1537
  interfaces := #[]
  cf := some (fileOf pool3 1 #[] #[] 1537 3 #[] #[])
  fields := #[]
  methods := #[]
  instanceTypes := #[]
  staticTypes := #[]
  resolved := Array.replicate 12 none
  statics := none }

def pool4 : Array CpInfo := pool [(1, .class_ 2), (0, u "java/io/Serializable"), (0, .class_ 4), (0, u "java/lang/Object")] 2

/-- java/io/Serializable -/
def k4 : Class := { plain "java/io/Serializable" (some 0) with
  accessFlags := 1537
  interfaces := #[]
  cf := some (fileOf pool4 1 #[] #[] 1537 3 #[] #[])
  fields := #[]
  methods := #[]
  instanceTypes := #[]
  staticTypes := #[]
  resolved := Array.replicate 7 none
  statics := none }

def pool5 : Array CpInfo := pool [(2, .class_ 4), (1, u "java/lang/Enum"), (0, u "name"), (0, u "Ljava/lang/String;"), (2, u "ordinal"), (0, u "I"), (1, .class_ 14), (1, u "java/lang/Object"), (4, u "hash"), (86, .class_ 108), (1, u "java/lang/Enum$EnumDesc"), (2, .class_ 112), (0, u "java/lang/constant/Constable"), (0, .class_ 114), (0, u "java/lang/Comparable"), (0, .class_ 116), (0, u "java/io/Serializable")] 87

/-- java/lang/Enum -/
def k5 : Class := { plain "java/lang/Enum" (some 0) with
  accessFlags := 1057
  interfaces := #[2, 3, 4]
  cf := some (fileOf pool5 2 #[.nestMembers #[106]] #[] 1057 12 #[111, 113, 115] #[{ accessFlags := 18, nameIndex := 5, descriptorIndex := 6, attributes := #[] }, { accessFlags := 18, nameIndex := 9, descriptorIndex := 10, attributes := #[] }, { accessFlags := 2, nameIndex := 19, descriptorIndex := 10, attributes := #[] }])
  fields := #[{ name := "name", type := (.object "java/lang/String"), accessFlags := 18, slot := 0, constantValue := 0 }, { name := "ordinal", type := .int, accessFlags := 18, slot := 1, constantValue := 0 }, { name := "hash", type := .int, accessFlags := 2, slot := 2, constantValue := 0 }]
  methods := #[]
  instanceTypes := #[(.object "java/lang/String"), .int, .int]
  staticTypes := #[]
  resolved := Array.replicate 204 none
  statics := none }

def pool6 : Array CpInfo := pool [(1, .class_ 2), (0, u "com/example/vestline/vestline/engine/AwardKind"), (0, .fieldref 1 4), (0, .nameAndType 5 6), (0, u "OPTION"), (0, u "Lcom/example/vestline/vestline/engine/AwardKind;"), (0, .fieldref 1 8), (0, .nameAndType 9 6), (0, u "SAR"), (2, u "RESTRICTED_SHARE"), (2, u "SHARE_UNIT"), (2, u "OTHER"), (2, u "$VALUES"), (0, u "[Lcom/example/vestline/vestline/engine/AwardKind;"), (6, .class_ 31), (1, u "java/lang/Enum"), (23, u "exercised"), (0, u "()Z")] 5

def k6c0 : Code := { maxStack := 2, maxLocals := 1, code := prog_4_method_4_code, exceptionTable := #[], attributes := #[] }
def k6m0 : Method := { name := "exercised", desc := "()Z", sig := { parameters := [], returnType := some .boolean }, accessFlags := 1, code := some k6c0 }
/-- com/example/vestline/vestline/engine/AwardKind -/
def k6 : Class := { plain "com/example/vestline/vestline/engine/AwardKind" (some 5) with
  accessFlags := 16433
  interfaces := #[]
  cf := some (fileOf pool6 1 #[] #[{ accessFlags := 1, nameIndex := 55, descriptorIndex := 56, attributes := #[] }] 16433 29 #[] #[{ accessFlags := 16409, nameIndex := 5, descriptorIndex := 6, attributes := #[] }, { accessFlags := 16409, nameIndex := 9, descriptorIndex := 6, attributes := #[] }, { accessFlags := 16409, nameIndex := 12, descriptorIndex := 6, attributes := #[] }, { accessFlags := 16409, nameIndex := 15, descriptorIndex := 6, attributes := #[] }, { accessFlags := 16409, nameIndex := 18, descriptorIndex := 6, attributes := #[] }, { accessFlags := 4122, nameIndex := 21, descriptorIndex := 22, attributes := #[] }])
  fields := #[{ name := "OPTION", type := (.object "com/example/vestline/vestline/engine/AwardKind"), accessFlags := 16409, slot := 0, constantValue := 0 }, { name := "SAR", type := (.object "com/example/vestline/vestline/engine/AwardKind"), accessFlags := 16409, slot := 1, constantValue := 0 }, { name := "RESTRICTED_SHARE", type := (.object "com/example/vestline/vestline/engine/AwardKind"), accessFlags := 16409, slot := 2, constantValue := 0 }, { name := "SHARE_UNIT", type := (.object "com/example/vestline/vestline/engine/AwardKind"), accessFlags := 16409, slot := 3, constantValue := 0 }, { name := "OTHER", type := (.object "com/example/vestline/vestline/engine/AwardKind"), accessFlags := 16409, slot := 4, constantValue := 0 }, { name := "$VALUES", type := (.array (.object "com/example/vestline/vestline/engine/AwardKind")), accessFlags := 4122, slot := 5, constantValue := 0 }]
  methods := #[k6m0]
  instanceTypes := #[(.object "java/lang/String"), .int, .int]
  staticTypes := #[(.object "com/example/vestline/vestline/engine/AwardKind"), (.object "com/example/vestline/vestline/engine/AwardKind"), (.object "com/example/vestline/vestline/engine/AwardKind"), (.object "com/example/vestline/vestline/engine/AwardKind"), (.object "com/example/vestline/vestline/engine/AwardKind"), (.array (.object "com/example/vestline/vestline/engine/AwardKind"))]
  resolved := Array.replicate 62 none
  statics := some 0 }

def pool7 : Array CpInfo := pool [(1, u "java/lang/Cloneable"), (0, .class_ 1), (0, u "java/lang/Object"), (0, .class_ 3)] 3

/-- java/lang/Cloneable -/
def k7 : Class := { plain "java/lang/Cloneable" (some 0) with
  accessFlags := 1537
  interfaces := #[]
  cf := some (fileOf pool7 2 #[] #[] 1537 4 #[] #[])
  fields := #[]
  methods := #[]
  instanceTypes := #[]
  staticTypes := #[]
  resolved := Array.replicate 8 none
  statics := none }

/-- the primitive byte -/
def k8 : Class := { plain "byte" none with kind := .primitive 'B', accessFlags := 0x411 }
/-- [B -/
def k9 : Class := { plain "[B" (some 0) with kind := .array 8 .byte, interfaces := #[7, 4], accessFlags := 1041 }

/-- the primitive int -/
def k10 : Class := { plain "int" none with kind := .primitive 'I', accessFlags := 0x411 }
/-- [I -/
def k11 : Class := { plain "[I" (some 0) with kind := .array 10 .int, interfaces := #[7, 4], accessFlags := 1041 }

def heap : Heap := #[{ cls := 6, slots := #[.ref 1, .ref 3, .ref 5, .ref 2, .ref 4, .null], vm := .statics 6 },
  { cls := 6, slots := #[.null, .int 0, .int 0], vm := .none },
  { cls := 6, slots := #[.null, .int 3, .int 0], vm := .none },
  { cls := 6, slots := #[.null, .int 1, .int 0], vm := .none },
  { cls := 6, slots := #[.null, .int 4, .int 0], vm := .none },
  { cls := 6, slots := #[.null, .int 2, .int 0], vm := .none }]
def classes : Array Class := #[k0, k1, k2, k3, k4, k5, k6, k7, k8, k9, k10, k11]
def interned : List (Array UInt16 × Addr) := []
def slotsUsed : Nat := 21
def theMethod : MethodId := ⟨1, 3⟩
def args0 : Array Value := #[.int 5]
def aboutOver (below : List Frame) : State where
  vm := { classes := classes, interned := interned.toArray }
  heap := heap
  slotsUsed := slotsUsed
  threads := #[{ frames := .invoking theMethod args0 :: below }]
def below0 : List Frame := [.native { method := ⟨0, 0⟩, args := #[] }]
def about1 : State := aboutOver below0
def p0 : Program := .bare "" "" ""
def e0 : Env := launch0.env 0 0 0
theorem w_frames : about1.frames = Frame.invoking theMethod args0 :: below0 := rfl
set_option maxRecDepth 65536 in
theorem w_args : argsFit about1.vm theMethod args0 = true := by decide +kernel
set_option maxRecDepth 65536 in
theorem w_heap : heapFits about1 = true := by decide +kernel
set_option maxRecDepth 65536 in
theorem w_runnable : about1.curStatus? = some .runnable := by decide +kernel
set_option maxRecDepth 65536 in
theorem w_alone : about1.alone = true := by decide +kernel
set_option maxRecDepth 65536 in
theorem w_named : about1.methodNamed? x = some theMethod := by decide +kernel
set_option maxRecDepth 65536 in
theorem w_hears : about1.hears theMethod below0 = true := by decide +kernel
set_option maxRecDepth 65536 in
theorem w_ripe : about1.ripe theMethod args0 below0 = true := by decide +kernel
theorem w_running : about1.status = .running := rfl
set_option maxRecDepth 65536 in
theorem w_room : about1.hasRoom e0.platform room_1 = true :=
  launch0.hasRoom_least _ room_1 (by decide +kernel) (by decide +kernel) (by decide +kernel) (by decide +kernel) (by decide +kernel) (by decide +kernel)
theorem allAtoms_all (ts : List Jvm.Cond) (a : Array Jvm.Value) (st : Jvm.State) : (allAtoms ts).before a st = ts.all (fun c => c.before a st) := by
  induction ts with
  | nil => rfl
  | cons c t ih =>
    show (Jvm.Cond.and c (allAtoms t)).before a st = _
    rw [Jvm.Cond.before_and, ih, List.all_cons]
def words1 : List Jvm.Cond := Jvm.Cond.code x code maxLocals ret :: tables_1
/-- a 'code' word, met by the world's own term for the bytes: nothing is compared byte by byte -/
theorem code_word {y : MethodName} {bytes : ByteArray} {mx : Nat} {rt : Option FieldType} {a : Array Value} {s : State} {m : MethodId} {meth : Method} {c : Code} (h1 : s.methodNamed? y = some m) (h2 : s.vm.method? m = some meth) (h3 : meth.code = some c) (h4 : c.code = bytes)
    (h5 : (c.maxLocals == mx && c.exceptionTable.isEmpty && decide (c.maxStack ≤ mostOperands) && decide (meth.sig.returnType = rt) && !meth.locks && decide (parseMethodDescriptor y.desc = some meth.sig)) = true) : (Jvm.Cond.code y bytes mx rt).before a s = true := by
  simp only [Bool.and_eq_true, beq_iff_eq, Bool.not_eq_true', decide_eq_true_eq] at h5
  obtain ⟨⟨⟨⟨⟨g1, g2⟩, g3⟩, g4⟩, g5⟩, g6⟩ := h5
  simp [Cond.before, Cond.holds, Cond.value, h1, h2, h3, h4, g1, g2, g3, g4, g5, g6]
def isCode : Jvm.Cond → Bool
  | .code _ _ _ _ => true
  | _ => false
theorem all_split {L : List Jvm.Cond} {P : Jvm.Cond → Bool} (h1 : L.all (fun c => isCode c || P c) = true) (h2 : ∀ c ∈ L.filter isCode, P c = true) : L.all P = true := by
  refine List.all_eq_true.mpr fun c hc => ?_
  have h := List.all_eq_true.mp h1 c hc
  rcases Bool.eq_false_or_eq_true (isCode c) with hi | hi
  · exact h2 c (List.mem_filter.mpr ⟨hc, hi⟩)
  · simpa [hi] using h
set_option maxRecDepth 65536 in
theorem w_c0 : (Jvm.Cond.code x code maxLocals ret).before args0 about1 = true := code_word (m := ⟨1, 3⟩) (meth := k1m3) (c := k1c3) (by decide +kernel) rfl rfl rfl (by decide +kernel)
set_option maxRecDepth 65536 in
theorem w_c1 : (Jvm.Cond.code ({ cls := "com/example/vestline/vestline/engine/AwardKindExercisedPinLaw", name := "pick", desc := "(I)Lcom/example/vestline/vestline/engine/AwardKind;" } : Jvm.MethodName) method_2_code (1 : Nat) (Option.some (Jvm.ClassFile.FieldType.object "com/example/vestline/vestline/engine/AwardKind"))).before args0 about1 = true := code_word (m := ⟨1, 1⟩) (meth := k1m1) (c := k1c1) (by decide +kernel) rfl rfl rfl (by decide +kernel)
set_option maxRecDepth 65536 in
theorem w_c2 : (Jvm.Cond.code ({ cls := "com/example/vestline/vestline/engine/AwardKind", name := "exercised", desc := "()Z" } : Jvm.MethodName) prog_4_method_4_code (1 : Nat) (Option.some Jvm.ClassFile.FieldType.boolean)).before args0 about1 = true := code_word (m := ⟨6, 0⟩) (meth := k6m0) (c := k6c0) (by decide +kernel) rfl rfl rfl (by decide +kernel)
set_option maxRecDepth 65536 in
theorem w_c3 : (Jvm.Cond.code ({ cls := "com/example/vestline/vestline/engine/AwardKindExercisedPinLaw", name := "expected", desc := "(I)Z" } : Jvm.MethodName) method_3_code (1 : Nat) (Option.some Jvm.ClassFile.FieldType.boolean)).before args0 about1 = true := code_word (m := ⟨1, 2⟩) (meth := k1m2) (c := k1c2) (by decide +kernel) rfl rfl rfl (by decide +kernel)
def codes1 : List Jvm.Cond := [Jvm.Cond.code x code maxLocals ret, Jvm.Cond.code ({ cls := "com/example/vestline/vestline/engine/AwardKindExercisedPinLaw", name := "pick", desc := "(I)Lcom/example/vestline/vestline/engine/AwardKind;" } : Jvm.MethodName) method_2_code (1 : Nat) (Option.some (Jvm.ClassFile.FieldType.object "com/example/vestline/vestline/engine/AwardKind")), Jvm.Cond.code ({ cls := "com/example/vestline/vestline/engine/AwardKind", name := "exercised", desc := "()Z" } : Jvm.MethodName) prog_4_method_4_code (1 : Nat) (Option.some Jvm.ClassFile.FieldType.boolean), Jvm.Cond.code ({ cls := "com/example/vestline/vestline/engine/AwardKindExercisedPinLaw", name := "expected", desc := "(I)Z" } : Jvm.MethodName) method_3_code (1 : Nat) (Option.some Jvm.ClassFile.FieldType.boolean)]
set_option maxRecDepth 65536 in
theorem codes_eq : words1.filter isCode = codes1 := rfl
theorem w_codes : ∀ c ∈ words1.filter isCode, c.before args0 about1 = true := by
  rw [codes_eq]
  intro c hc
  simp only [codes1, List.mem_cons, List.not_mem_nil, or_false] at hc
  rcases hc with rfl | rfl | rfl | rfl
  · exact w_c0
  · exact w_c1
  · exact w_c2
  · exact w_c3
set_option maxRecDepth 65536 in
theorem w_t1 : (words1.take 24).all (fun c => isCode c || c.before args0 about1) = true := by decide +kernel
set_option maxRecDepth 65536 in
theorem w_t2 : (words1.drop 24).all (fun c => isCode c || c.before args0 about1) = true := by decide +kernel
theorem w_tables : (allAtoms (Jvm.Cond.code x code maxLocals ret :: tables_1)).before args0 about1 = true := by
  rw [allAtoms_all]
  show words1.all (fun c => c.before args0 about1) = true
  refine all_split ?_ w_codes
  rw [← List.take_append_drop 24 words1, List.all_append, w_t1, w_t2]
  rfl
set_option maxRecDepth 65536 in
theorem w_case : (Jvm.Cond.and given_1 narrow_1).before args0 about1 = true := by decide +kernel
theorem w_applies : (headSpec (Jvm.Cond.code x code maxLocals ret :: tables_1) room_1).applies x e0.platform about1 = true :=
  (Spec.applies_iff w_frames).mpr ⟨w_running, w_runnable, w_alone, w_named, w_hears, w_ripe, w_room, w_tables⟩
theorem atStart : AtStart classFile x code maxLocals ret World_1 tables_1 room_1 Calls_1 rest_1 Pre_1 launch0 p0 e0 about1 theMethod args0 below0 :=
  ⟨lists_1, trivial, launch0.admits_env _ _ _, launch0.least_env, fairChoices_fair.cas, fairChoices_fair.clock, w_frames, w_args, w_heap, w_applies, trivial, trivial, w_case⟩
end start1
theorem witness_1 : WitnessClaimed_1 := ⟨start1.p0, start1.e0, start1.about1, start1.theMethod, start1.args0, start1.below0, start1.atStart⟩
end Jvm.Pilot.@@N@@
