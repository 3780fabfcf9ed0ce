import JvmDerived
import JvmDerived.Pilot.@@N@@Statement
import JvmDerived.Pilot.@@N@@Code
set_option linter.unusedVariables false
set_option linter.unusedSimpArgs false
namespace Jvm.Own
open Jvm Sem ClassFile Op Lib Jvm.Stand Jvm.Free Jvm.LawKit Jvm.RoadKit
/-- from this state and frame the run comes to an end that E says -/
def Goes (p : Program) (e : Env) (below : List Frame) (E : Outcome → State → Prop) (T : State) (f : JFrame) : Prop :=
  ∃ s₂ o, Steps p.tables e below (T.setTop f) s₂ ∧ s₂.status = .running ∧ Ended s₂ below o ∧ E o s₂
/-- the end of a walk that interns nothing -/
def EndN (s : State) (Q : Option Value → Heap → List Loc → Prop) (K N : Nat) (o : Outcome) (U : State) : Prop :=
  ∃ v L, o = .returned v ∧ Q v U.heap L ∧ FrameEnd s o U L K N
/-- a body's contract -/
def Rm (l : Launch) (y : MethodName) (bytes : ByteArray) (maxL : Nat) (ret : Option FieldType) (rm : Room) (ws : List Jvm.Cond) (Z : State) (as' : Array Value) (h : Heap) (Q : Option Value → Heap → List Loc → Prop) : Prop :=
  MetFree l y (head1 (Jvm.Cond.code y bytes maxL ret :: ws) rm) (fun a U => a = as' ∧ Z.Warmed39 U.vm ∧ U.heap = h) (fun _ _ _ _ _ => True) (fun _ U o U' => ∃ v L, o = .returned v ∧ Q v U'.heap L ∧ FrameEnd U o U' L rm.cells rm.slots)
section Own1
variable {p : Program} {l : Launch} {e : Env} {R : Room} {s : State} {m : MethodId} {args : Array Value} {below : List Frame} {meth : Method} {c : Code} {T : State} {locs : List Loc} {cells slots : Nat} {Z : State} {a0 : Array Value} {h : Heap} {E : Outcome → State → Prop}
theorem Goes.of {T T' : State} {f f' : JFrame} (st : ∀ t, Steps p.tables e below (T'.setTop f') t → Steps p.tables e below (T.setTop f) t) (k : Goes p e below E T' f') : Goes p e below E T f := by
  obtain ⟨s₂, o, h1, h2⟩ := k
  exact ⟨s₂, o, st _ h1, h2⟩
theorem Goes.cast {T : State} {f f' : JFrame} (q : f = f') (k : Goes p e below E T f') : Goes p e below E T f := q ▸ k
theorem oldLe {n0 : Nat} (O : Old Z n0 h) : n0 ≤ h.size := O.1 ▸ O.2.1
theorem goRet {Q : Option Value → Heap → List Loc → Prop} {K N : Nat} {g : JFrame} {v : Option Value} (X : Stand p l e R s m args below meth c T locs cells slots) (hv : meth.sig.returnType = none → v = none) (hlocks : meth.locks = false) (eT : T.heap = h) (hQ : Q v h locs) (hK : cells ≤ K) (hN : slots ≤ N)
    (st : ∀ fs, (∀ (f : JFrame) (acts : List Action), f.method = m → f.locked = none → f.entered = [] → (doReturn e (T.setTop f) acts v).1 = T.setFrames fs) → Steps p.tables e below (T.setTop g) (T.setFrames fs)) : Goes p e below (EndN s Q K N) T g := by
  obtain ⟨fs, hr, hrun, hended, hW, hsame⟩ := X.leave (v := v) hv hlocks
  subst eT
  exact ⟨_, _, st fs hr, hrun, hended, _, _, rfl, hQ, ⟨_, rfl⟩, hW, hsame.mono hK hN⟩
theorem retZ {Q : Option Value → Heap → List Loc → Prop} {K N pc : Nat} {Ls : Array Slot} {z : Int32} {t : FieldType} {rest : List Value} (X : Stand p l e R s m args below meth c T locs cells slots) (hx : p.tables.exec = Jvm.exec) (hret : meth.sig.returnType = some t) (hlocks : meth.locks = false) (ht : t = .boolean ∨ t = .byte ∨ t = .char ∨ t = .short)
    (hd : decode c.code pc = .ok (.ireturn, 1)) (eT : T.heap = h) (hK : cells ≤ K) (hN : slots ≤ N) (hQ : Q (some (.int (nar t z))) h locs) : Goes p e below (EndN s Q K N) T (mkF m pc Ls (.int z :: rest)) :=
  goRet X (fun q => by rw [hret] at q; cases q) hlocks eT hQ hK hN fun fs hr => retN X hx hret ht hd hr
theorem retInt {Q : Option Value → Heap → List Loc → Prop} {K N pc : Nat} {Ls : Array Slot} {z : Int32} {rest : List Value} (X : Stand p l e R s m args below meth c T locs cells slots) (hx : p.tables.exec = Jvm.exec) (hret : meth.sig.returnType = some .int) (hlocks : meth.locks = false)
    (hd : decode c.code pc = .ok (.ireturn, 1)) (eT : T.heap = h) (hK : cells ≤ K) (hN : slots ≤ N) (hQ : Q (some (.int z)) h locs) : Goes p e below (EndN s Q K N) T (mkF m pc Ls (.int z :: rest)) :=
  goRet X (fun q => by rw [hret] at q; cases q) hlocks eT hQ hK hN fun fs hr => by
    have hm' : T.vm.method? m = some meth := X.method'
    have hn : narrow .int (.int z) = .int z := rfl
    show Steps p.tables e below (T.setTop { method := m, pc := pc, locals := Ls, stack := _ :: rest, locked := none }) _
    jvm_step X.here [X.here.top, hx, hd, hm', hret, hn]
    first | (intro acts; rw [hr _ acts rfl rfl rfl]) | rw [hr _ _ rfl rfl rfl]
    exact Steps.refl _
theorem retLong {Q : Option Value → Heap → List Loc → Prop} {K N pc : Nat} {Ls : Array Slot} {z : Int64} {rest : List Value} (X : Stand p l e R s m args below meth c T locs cells slots) (hx : p.tables.exec = Jvm.exec) (hret : meth.sig.returnType = some .long) (hlocks : meth.locks = false)
    (hd : decode c.code pc = .ok (.lreturn, 1)) (eT : T.heap = h) (hK : cells ≤ K) (hN : slots ≤ N) (hQ : Q (some (.long z)) h locs) : Goes p e below (EndN s Q K N) T (mkF m pc Ls (.long z :: rest)) :=
  goRet X (fun q => by rw [hret] at q; cases q) hlocks eT hQ hK hN fun fs hr => by
    have hm' : T.vm.method? m = some meth := X.method'
    show Steps p.tables e below (T.setTop { method := m, pc := pc, locals := Ls, stack := _ :: rest, locked := none }) _
    jvm_step X.here [X.here.top, hx, hd, hm', hret, narrow]
    first | (intro acts; rw [hr _ acts rfl rfl rfl]) | rw [hr _ _ rfl rfl rfl]
    exact Steps.refl _
theorem retRef {Q : Option Value → Heap → List Loc → Prop} {K N pc : Nat} {Ls : Array Slot} {z : Value} {t : FieldType} {rest : List Value} (X : Stand p l e R s m args below meth c T locs cells slots) (hx : p.tables.exec = Jvm.exec) (hret : meth.sig.returnType = some t) (hlocks : meth.locks = false) (ht : t.isReference = true) (hz : z.isRef = true)
    (hd : decode c.code pc = .ok (.areturn, 1)) (eT : T.heap = h) (hK : cells ≤ K) (hN : slots ≤ N) (hQ : Q (some z) h locs) : Goes p e below (EndN s Q K N) T (mkF m pc Ls (z :: rest)) :=
  goRet X (fun q => by rw [hret] at q; cases q) hlocks eT hQ hK hN fun fs hr => by
    have hm' : T.vm.method? m = some meth := X.method'
    show Steps p.tables e below (T.setTop { method := m, pc := pc, locals := Ls, stack := _ :: rest, locked := none }) _
    rcases ref_cases hz with rfl | ⟨_, rfl⟩
    all_goals
      jvm_step X.here [X.here.top, hx, hd, hm', hret, ht, Value.isRef]
      first | (intro acts; rw [hr _ acts rfl rfl rfl]) | rw [hr _ _ rfl rfl rfl]
      exact Steps.refl _
theorem retVoid {Q : Option Value → Heap → List Loc → Prop} {K N pc : Nat} {Ls : Array Slot} {rest : List Value} (X : Stand p l e R s m args below meth c T locs cells slots) (hx : p.tables.exec = Jvm.exec) (hret : meth.sig.returnType = none) (hlocks : meth.locks = false)
    (hd : decode c.code pc = .ok (.return_, 1)) (eT : T.heap = h) (hK : cells ≤ K) (hN : slots ≤ N) (hQ : Q none h locs) : Goes p e below (EndN s Q K N) T (mkF m pc Ls rest) :=
  goRet X (fun _ => rfl) hlocks eT hQ hK hN fun fs hr => by
    have hm' : T.vm.method? m = some meth := X.method'
    show Steps p.tables e below (T.setTop { method := m, pc := pc, locals := Ls, stack := rest, locked := none }) _
    jvm_step X.here [X.here.top, hx, hd, hm', hret]
    first | (intro acts; rw [hr _ acts rfl rfl rfl]) | rw [hr _ _ rfl rfl rfl]
    exact Steps.refl _
/-- a body's contract out of its walk -/
theorem Rm.of {ws : List Jvm.Cond} {y : MethodName} {bytes : ByteArray} {maxL : Nat} {ret : Option FieldType} {rm : Room} {as' : Array Value} {h : Heap} {Q : Option Value → Heap → List Loc → Prop} (hp : plainFor y = true)
    (body : ∀ (p : Program) (e : Env) (s : State) (m : MethodId) (below : List Frame) (meth : Method) (c : Code) (T : State), Stand p l e rm s m as' below meth c T [] 0 0 → p.tables.exec = Jvm.exec → Z.Warmed39 s.vm → c.code = bytes → c.maxLocals = maxL → s.vm.findClass y.cls = some m.cls → meth.name = y.name → meth.sig.returnType = ret → meth.locks = false → T.heap = h →
      Goes p e below (EndN s Q rm.cells rm.slots) T (entryFrame m as' maxL)) : Rm l y bytes maxL ret rm ws Z as' h Q := by
  refine MetFree.of_bodySF hp hisR ?_
  intro p e s m args below meth c s₁ Bd hml0 hP hK
  obtain ⟨rfl, hZ, hh⟩ := hP
  exact body p e s m below meth c s₁ (Stand.of_body Bd) Bd.exec hZ Bd.bytes hml0 (findClass_of_methodNamed Bd.named) (name_of_methodNamed Bd.named Bd.method).1 Bd.returns Bd.notSynchronized (by rw [← hh, Bd.state]; rfl)
theorem goStatic {own : String} {index : Nat} {y : MethodName} {bytes : ByteArray} {maxL : Nat} {ret : Option FieldType} {rm : Room} {as' : Array Value} {Q : Option Value → Heap → List Loc → Prop} (W : Nat)
    (X : Stand p l e R s m args below meth c T locs cells slots) (hx : p.tables.exec = Jvm.exec) (hZ : Z.Warmed39 s.vm) (hown : s.vm.findClass own = some m.cls) (w1 : (Jvm.Cond.methodLink own index y).before a0 Z = true) (w2 : (Jvm.Cond.static y).before a0 Z = true) (w3 : (Jvm.Cond.initialized y.cls).before a0 Z = true) (w4 : (Jvm.Cond.code y bytes maxL ret).before a0 Z = true)
    (hy : y.cls ≠ "java/lang/invoke/MethodHandle" ∧ y.cls ≠ "java/lang/invoke/VarHandle") (r : Rm l y bytes maxL ret rm [] Z as' h Q) (eT : T.heap = h) {g : JFrame} (hg : g.method = m) (hsize : g.locals.size = c.maxLocals) (argsL rest : List Value) (hlen : ∀ sig, parseMethodDescriptor y.desc = some sig → argsL.length = sig.parameters.length)
    (hstack : g.stack = argsL.reverse ++ rest) (has : argsL.toArray = as') (hW : 2 * g.monitorRoom + (rest.map fun v => v.category).sum ≤ W) (hd : decode c.code g.pc = .ok (.invokestatic index, 3)) (hf : rm.frames + 1 ≤ R.frames) (hl : W + (maxL + 11) + rm.locals ≤ R.locals) (hc : cells + rm.cells ≤ R.cells) (hs : slots + rm.slots ≤ R.slots)
    (k : ∀ v T' L, Stand p l e R s m args below meth c T' (locs ++ L) (cells + rm.cells) (slots + rm.slots) → Q v T'.heap L → Goes p e below E T' { g with pc := g.pc + 3, stack := v.toList ++ rest }) : Goes p e below E T g := by
  obtain ⟨v, vm₁, ⟨T', L', k', n'⟩, -, X', ⟨L, hQ, q1, q2, q3⟩, st⟩ := Jvm.LawKit.callS X hx (y := y) hown (mvT hZ w1) (mvT hZ w2) (mvT hZ w3) (mvT hZ w4) hy (backOf (W := W) r hZ w4 w3 hf hl) hg hsize hlen hstack hW hd (fun _ _ => ⟨has, eT, hc, hs⟩)
  dsimp only [Pt.U, Pt.locs, Pt.cells, Pt.slots] at X' q1 q2 q3 st hQ
  subst q1 q2 q3
  exact Goes.of st (k v T' L X' hQ)
theorem goSpecial {own : String} {index : Nat} {y : MethodName} {bytes : ByteArray} {maxL : Nat} {rm : Room} {as' : Array Value} {Q : Option Value → Heap → List Loc → Prop} (W : Nat)
    (X : Stand p l e R s m args below meth c T locs cells slots) (hx : p.tables.exec = Jvm.exec) (hZ : Z.Warmed39 s.vm) (hy1 : y.name = "<init>") (hown : s.vm.findClass own = some m.cls) (w1 : (Jvm.Cond.methodLink own index y).before a0 Z = true) (w2 : (Jvm.Cond.instanceMethod y).before a0 Z = true) (w3 : (Jvm.Cond.initialized y.cls).before a0 Z = true) (w4 : (Jvm.Cond.code y bytes maxL none).before a0 Z = true)
    (hy : y.cls ≠ "java/lang/invoke/MethodHandle" ∧ y.cls ≠ "java/lang/invoke/VarHandle") (r : Rm l y bytes maxL none rm [] Z as' h Q) (eT : T.heap = h) {g : JFrame} (hg : g.method = m) (hsize : g.locals.size = c.maxLocals) (a : Addr) (argsL rest : List Value) (hlen : ∀ sig, parseMethodDescriptor y.desc = some sig → argsL.length = sig.parameters.length)
    (hstack : g.stack = argsL.reverse ++ .ref a :: rest) (has : (.ref a :: argsL).toArray = as') (hW : 2 * g.monitorRoom + (rest.map fun v => v.category).sum ≤ W) (hd : decode c.code g.pc = .ok (.invokespecial index, 3)) (hf : rm.frames + 1 ≤ R.frames) (hl : W + (maxL + 11) + rm.locals ≤ R.locals) (hc : cells + rm.cells ≤ R.cells) (hs : slots + rm.slots ≤ R.slots)
    (k : ∀ v T' L, Stand p l e R s m args below meth c T' (locs ++ L) (cells + rm.cells) (slots + rm.slots) → Q v T'.heap L → Goes p e below E T' { g with pc := g.pc + 3, stack := v.toList ++ rest }) : Goes p e below E T g := by
  obtain ⟨v, vm₁, ⟨T', L', k', n'⟩, -, X', ⟨L, hQ, q1, q2, q3⟩, st⟩ := X.specialBack hx (y := y) hy1 hown (mvT hZ w1) (mvT hZ w2) (mvT hZ w4) hy (backOf (W := W) r hZ w4 w3 hf hl) hg hsize (Steps.refl _) (a := a) hlen hstack hW hd (fun _ _ => ⟨has, eT, hc, hs⟩)
  dsimp only [Pt.U, Pt.locs, Pt.cells, Pt.slots] at X' q1 q2 q3 st hQ
  subst q1 q2 q3
  exact Goes.of (fun _ => st.trans) (k v T' L X' hQ)
theorem goVirtual {own C : String} {index : Nat} {y z : MethodName} {bytes : ByteArray} {maxL : Nat} {ret : Option FieldType} {rm : Room} {as' : Array Value} {Q : Option Value → Heap → List Loc → Prop} (W : Nat)
    (X : Stand p l e R s m args below meth c T locs cells slots) (hx : p.tables.exec = Jvm.exec) (hZ : Z.Warmed39 s.vm) (hown : s.vm.findClass own = some m.cls) (w1 : (Jvm.Cond.methodLink own index y).before a0 Z = true) (w2 : (Jvm.Cond.declares y).before a0 Z = true) (hnf : NotFace s y) (w3 : (Jvm.Cond.selects C y z).before a0 Z = true) (w4 : (Jvm.Cond.instanceMethod z).before a0 Z = true) (w5 : (Jvm.Cond.initialized z.cls).before a0 Z = true) (w6 : (Jvm.Cond.code z bytes maxL ret).before a0 Z = true)
    (hy : y.cls ≠ "java/lang/invoke/MethodHandle" ∧ y.cls ≠ "java/lang/invoke/VarHandle") (r : Rm l z bytes maxL ret rm [] Z as' h Q) (eT : T.heap = h) {a : Addr} (F : Exa Z h a C) {g : JFrame} (hg : g.method = m) (hsize : g.locals.size = c.maxLocals) (argsL rest : List Value) (hlen : ∀ sig, parseMethodDescriptor y.desc = some sig → argsL.length = sig.parameters.length)
    (hstack : g.stack = argsL.reverse ++ .ref a :: rest) (has : (.ref a :: argsL).toArray = as') (hW : 2 * g.monitorRoom + (rest.map fun v => v.category).sum ≤ W) (hd : decode c.code g.pc = .ok (.invokevirtual index, 3)) (hf : rm.frames + 1 ≤ R.frames) (hl : W + (maxL + 11) + rm.locals ≤ R.locals) (hc : cells + rm.cells ≤ R.cells) (hs : slots + rm.slots ≤ R.slots)
    (k : ∀ v T' L, Stand p l e R s m args below meth c T' (locs ++ L) (cells + rm.cells) (slots + rm.slots) → Q v T'.heap L → Goes p e below E T' { g with pc := g.pc + 3, stack := v.toList ++ rest }) : Goes p e below E T g := by
  obtain ⟨cq, kq, qa, qb, qc⟩ := isOf hZ eT F
  obtain ⟨v, vm₁, ⟨T', L', k', n'⟩, -, X', ⟨L, hQ, q1, q2, q3⟩, st⟩ := X.virtualBack hx (y := y) (z := z) hown (mvT hZ w1) (mvT hZ w2) hnf (mvT hZ w3) (mvT hZ w4) hy (backOf (W := W) r hZ w6 w5 hf hl) qa qc hg hsize (Steps.refl _) hlen hstack hW hd (fun _ _ => ⟨has, eT, hc, hs⟩)
  dsimp only [Pt.U, Pt.locs, Pt.cells, Pt.slots] at X' q1 q2 q3 st hQ
  subst q1 q2 q3
  exact Goes.of (fun _ => st.trans) (k v T' L X' hQ)
theorem goNew {own C : String} {index n : Nat} (X : Stand p l e R s m args below meth c T locs cells slots) (hx : p.tables.exec = Jvm.exec) (hZ : Z.Warmed39 s.vm) (hown : s.vm.findClass own = some m.cls) (w : (Jvm.Cond.classLink own index C).before a0 Z = true) (wi : (Jvm.Cond.instantiable C n).before a0 Z = true) (wz : (Jvm.Cond.initialized C).before a0 Z = true) (eT : T.heap = h)
    {g : JFrame} (hg : g.method = m) (hd : decode c.code g.pc = .ok (.new index, 3)) (hc : cells + 1 ≤ R.cells) (hl : slots + n ≤ R.slots)
    (k : ∀ T' h' b, Stand p l e R s m args below meth c T' locs (cells + 1) (slots + n) → T'.heap = h' → Ext h h' → h.size ≤ b → Exa Z h' b C → (∀ {O nm d : String} {ty : FieldType}, Laid Z a0 C O nm d → parseFieldDescriptor d = some ty → Fld Z h' b O nm d (defaultValue ty)) → Goes p e below E T' { g with pc := g.pc + 3, stack := .ref b :: g.stack }) : Goes p e below E T g := by
  obtain ⟨T', h', X', e', E', A', D', -, st⟩ := newO X hx hZ hown w wi wz eT hg hd hc hl
  exact Goes.of st (k T' h' _ X' e' E' (Nat.le_refl _) A' D')
theorem goInitO {own : String} {idx : Nat} (W : Nat) (X : Stand p l e R s m args below meth c T locs cells slots) (hx : p.tables.exec = Jvm.exec) (hZ : Z.Warmed39 s.vm) (hown : s.vm.findClass own = some m.cls) (w1 : (Jvm.Cond.methodLink own idx Lib.objectInit).before a0 Z = true) (w2 : (Jvm.Cond.instanceMethod Lib.objectInit).before a0 Z = true)
    (w3 : (Jvm.Cond.code Lib.objectInit ⟨#[0xb1]⟩ 1 none).before a0 Z = true) (eT : T.heap = h) {g : JFrame} (hg : g.method = m) (hsize : g.locals.size = c.maxLocals) {a : Addr} {rest : List Value} (hs : g.stack = .ref a :: rest) (hd : decode c.code g.pc = .ok (.invokespecial idx, 3))
    (hf : 1 ≤ R.frames) (hW : 2 * g.monitorRoom + (rest.map fun v => v.category).sum ≤ W) (hl : W + 12 ≤ R.locals) (k : ∀ T', Stand p l e R s m args below meth c T' locs cells slots → T'.heap = h → Goes p e below E T' { g with pc := g.pc + 3, stack := rest }) : Goes p e below E T g := by
  obtain ⟨T', X', e', st⟩ := initO X hx hZ hown w1 w2 w3 eT hg hsize hs hd hf hW hl
  exact Goes.of st (k T' X' e')
theorem goGet {own R0 O n d host : String} {index : Nat} (X : Stand p l e R s m args below meth c T locs cells slots) (hx : p.tables.exec = Jvm.exec) (hZ : Z.Warmed39 s.vm) (hown : s.vm.findClass own = some m.cls) (w : (Jvm.Cond.fieldLink own index R0 n d).before a0 Z = true ∨ (Jvm.Cond.fieldLinkNest own index R0 n d host).before a0 Z = true) (via : Via Z R0 O n d)
    (eT : T.heap = h) {a : Addr} {v : Value} (F : Fld Z h a O n d v) {g : JFrame} (hg : g.method = m) {rest : List Value} (hs : g.stack = .ref a :: rest) (hd : decode c.code g.pc = .ok (.getfield index, 3))
    (k : ∀ T', Stand p l e R s m args below meth c T' locs cells slots → T'.heap = h → Goes p e below E T' { g with pc := g.pc + 3, stack := v :: rest }) : Goes p e below E T g := by
  obtain ⟨T', X', e', st⟩ := getF X hx hZ hown w via eT F hg hs hd
  exact Goes.of st (k T' X' e')
theorem goGetS {own R0 O n d host : String} {index : Nat} (X : Stand p l e R s m args below meth c T locs cells slots) (hx : p.tables.exec = Jvm.exec) (hZ : Z.Warmed39 s.vm) (hown : s.vm.findClass own = some m.cls) (w : (Jvm.Cond.fieldLink own index R0 n d).before a0 Z = true ∨ (Jvm.Cond.fieldLinkNest own index R0 n d host).before a0 Z = true) (via : Via Z R0 O n d)
    (eT : T.heap = h) {v : Value} (F : Sta Z h O n d v) {g : JFrame} (hg : g.method = m) (hd : decode c.code g.pc = .ok (.getstatic index, 3))
    (k : ∀ T', Stand p l e R s m args below meth c T' locs cells slots → T'.heap = h → Goes p e below E T' { g with pc := g.pc + 3, stack := v :: g.stack }) : Goes p e below E T g := by
  obtain ⟨T', X', e', st⟩ := getS2 X hx hZ hown w via eT F hg hd
  exact Goes.of st (k T' X' e')
theorem goPut {own R0 O n d host C : String} {index kk : Nat} {ty : FieldType} (X : Stand p l e R s m args below meth c T locs cells slots) (hx : p.tables.exec = Jvm.exec) (hZ : Z.Warmed39 s.vm) (hown : s.vm.findClass own = some m.cls) (w : (Jvm.Cond.fieldLink own index R0 n d).before a0 Z = true ∨ (Jvm.Cond.fieldLinkNest own index R0 n d host).before a0 Z = true) (via : Via Z R0 O n d)
    (eT : T.heap = h) {a : Addr} {v old : Value} (F : Fld Z h a O n d old) (Ex : Exa Z h a C) (L : (Jvm.Cond.lays C O n d).before a0 Z = true ∨ ((Jvm.Cond.laysFinal C O n d).before a0 Z = true ∧ own = O ∧ meth.name = "<init>")) (wi : (Jvm.Cond.instantiable C kk).before a0 Z = true)
    (hty : parseFieldDescriptor d = some ty) (hn : narrow ty v = v) (hf : fits ty v = true) {g : JFrame} (hg : g.method = m) {rest : List Value} (hs : g.stack = v :: .ref a :: rest) (hd : decode c.code g.pc = .ok (.putfield index, 3))
    (k : ∀ T' h', Stand p l e R s m args below meth c T' (locs ++ [⟨a, Jvm.RoadKit.slotOf Z O n d⟩]) cells slots → T'.heap = h' → Wr h h' a (Jvm.RoadKit.slotOf Z O n d) v → Goes p e below E T' { g with pc := g.pc + 3, stack := rest }) : Goes p e below E T g := by
  obtain ⟨T', h', X', e', W', st⟩ := putF X hx hZ hown w via eT F Ex L wi hty hn hf hg hs hd
  exact Goes.of st (k T' h' X' e' W')
theorem goCast {own K : String} {index : Nat} (X : Stand p l e R s m args below meth c T locs cells slots) (hx : p.tables.exec = Jvm.exec) (hZ : Z.Warmed39 s.vm) (hown : s.vm.findClass own = some m.cls) (w : (Jvm.Cond.classLink own index K).before a0 Z = true) (eT : T.heap = h) {a : Addr} (F : Ins Z h a K true)
    {g : JFrame} (hg : g.method = m) {rest : List Value} (hs : g.stack = .ref a :: rest) (hd : decode c.code g.pc = .ok (.checkcast index, 3))
    (k : ∀ T', Stand p l e R s m args below meth c T' locs cells slots → T'.heap = h → Goes p e below E T' { g with pc := g.pc + 3 }) : Goes p e below E T g := by
  obtain ⟨T', X', e', st⟩ := castY X hx hZ hown w eT F hg hs hd
  exact Goes.of st (k T' X' e')
theorem goInstY {own K : String} {index : Nat} (X : Stand p l e R s m args below meth c T locs cells slots) (hx : p.tables.exec = Jvm.exec) (hZ : Z.Warmed39 s.vm) (hown : s.vm.findClass own = some m.cls) (w : (Jvm.Cond.classLink own index K).before a0 Z = true) (eT : T.heap = h) {a : Addr} (F : Ins Z h a K true)
    {g : JFrame} (hg : g.method = m) {rest : List Value} (hs : g.stack = .ref a :: rest) (hd : decode c.code g.pc = .ok (.instanceof index, 3))
    (k : ∀ T', Stand p l e R s m args below meth c T' locs cells slots → T'.heap = h → Goes p e below E T' { g with pc := g.pc + 3, stack := .int 1 :: rest }) : Goes p e below E T g := by
  obtain ⟨T', X', e', st⟩ := instY X hx hZ hown w eT F hg hs hd
  exact Goes.of st (k T' X' e')
theorem goInstN {own K C : String} {index : Nat} (X : Stand p l e R s m args below meth c T locs cells slots) (hx : p.tables.exec = Jvm.exec) (hZ : Z.Warmed39 s.vm) (hown : s.vm.findClass own = some m.cls) (w : (Jvm.Cond.classLink own index K).before a0 Z = true) (eT : T.heap = h) {a : Addr} (Ex : Exa Z h a C) (F : ∃ c t, Z.vm.findClass C = some c ∧ Z.vm.findClass K = some t ∧ Z.vm.assignable c t = false)
    {g : JFrame} (hg : g.method = m) {rest : List Value} (hs : g.stack = .ref a :: rest) (hd : decode c.code g.pc = .ok (.instanceof index, 3))
    (k : ∀ T', Stand p l e R s m args below meth c T' locs cells slots → T'.heap = h → Goes p e below E T' { g with pc := g.pc + 3, stack := .int 0 :: rest }) : Goes p e below E T g := by
  obtain ⟨T', X', e', st⟩ := Jvm.RoadKit.instNo X hx hZ hown w eT Ex F hg hs hd
  exact Goes.of st (k T' X' e')
theorem goNewP {aty : ArrayType} (cap : Nat) (X : Stand p l e R s m args below meth c T locs cells slots) (hx : p.tables.exec = Jvm.exec) (hZ : Z.Warmed39 s.vm) (w : (Jvm.Cond.arrayClass (newarray.typeOf aty)).before a0 Z = true) (eT : T.heap = h) {g : JFrame} (hg : g.method = m) (hd : decode c.code g.pc = .ok (.newarray aty, 2)) {n : Int32} {rest : List Value} (hs : g.stack = .int n :: rest)
    (hn : ¬ n < 0) (hcap : n.toNatClampNeg ≤ cap) (hb : cap * 8 ≤ 536870912) (hc : cells + 1 ≤ R.cells) (hl : slots + cap ≤ R.slots) {ad : String} (had : "[" ++ (newarray.typeOf aty).toString = ad) 
    (k : ∀ T' h' b cA, Stand p l e R s m args below meth c T' locs (cells + 1) (slots + cap) → T'.heap = h' → Ext h h' → h.size ≤ b → Arv Z h' b cA (newarray.typeOf aty) n (List.replicate cap (defaultValue (newarray.typeOf aty))) (defaultValue (newarray.typeOf aty)) → Exa Z h' b ad → Goes p e below E T' { g with pc := g.pc + 2, stack := .ref b :: rest }) : Goes p e below E T g := by
  obtain ⟨T', h', cA, X', e', E', A', Ex', st⟩ := newPE X hx hZ w eT hg hd hs hn hcap hb hc hl had
  exact Goes.of st (k T' h' _ cA X' e' E' (Nat.le_refl _) ((Arv.new A' hn).pad (pad_rep [] _ cap)) Ex')
theorem goNewR {own C : String} {index : Nat} (cap : Nat) (X : Stand p l e R s m args below meth c T locs cells slots) (hx : p.tables.exec = Jvm.exec) (hZ : Z.Warmed39 s.vm) (hown : s.vm.findClass own = some m.cls) (w1 : (Jvm.Cond.classLink own index C).before a0 Z = true) (w2 : (Jvm.Cond.arrayOver (.object C)).before a0 Z = true) (eT : T.heap = h) {g : JFrame} (hg : g.method = m) (hd : decode c.code g.pc = .ok (.anewarray index, 3)) {n : Int32} {rest : List Value} (hs : g.stack = .int n :: rest)
    (hn : ¬ n < 0) (hcap : n.toNatClampNeg ≤ cap) (hb : cap * 8 ≤ 536870912) (hc : cells + 1 ≤ R.cells) (hl : slots + cap ≤ R.slots)
    (k : ∀ T' h' b cA, Stand p l e R s m args below meth c T' locs (cells + 1) (slots + cap) → T'.heap = h' → Ext h h' → h.size ≤ b → Arv Z h' b cA (.object C) n (List.replicate cap .null) .null → Ovr Z cA C → Goes p e below E T' { g with pc := g.pc + 3, stack := .ref b :: rest }) : Goes p e below E T g := by
  obtain ⟨T', h', cA, X', e', E', A', O', st⟩ := newR X hx hZ hown w1 w2 eT hg hd hs hn hcap hb hc hl
  exact Goes.of st (k T' h' _ cA X' e' E' (Nat.le_refl _) ((Arv.new A' hn).pad (pad_rep [] _ cap)) O')
theorem inbV {cl : Cell} {z j : Int32} (S : cl.slots.size = z.toNatClampNeg) (hj : ¬ j < 0) (hj' : j < z) : ¬ (j < 0 ∨ cl.slots.size ≤ j.toNatClampNeg) := inb_of S ⟨hj, hj'⟩
theorem goStI {a : Addr} {kc : ClassId} {z j x : Int32} {vs : List Value} {dv : Value} (i : Nat) (X : Stand p l e R s m args below meth c T locs cells slots) (hx : p.tables.exec = Jvm.exec) (hZ : Z.Warmed39 s.vm) (eT : T.heap = h) (V : Arv Z h a kc .int z vs dv) (hj : ¬ j < 0) (hj' : j < z) (hi : j.toNatClampNeg = i) (hl : i < vs.length)
    {g : JFrame} (hg : g.method = m) {rest : List Value} (hs : g.stack = .int x :: .int j :: .ref a :: rest) (hd : decode c.code g.pc = .ok (.iastore, 1))
    (k : ∀ T' h', Stand p l e R s m args below meth c T' (locs ++ [⟨a, j.toNatClampNeg⟩]) cells slots → T'.heap = h' → Wr h h' a j.toNatClampNeg (.int x) → Arv Z h' a kc .int z (vs.set i (.int x)) dv → Goes p e below E T' { g with pc := g.pc + 1, stack := rest }) : Goes p e below E T g := by
  obtain ⟨cl, A, q1, S, q3, H, G⟩ := V
  obtain ⟨T', h', X', e', W', st⟩ := stI X hx hZ eT A (inbV S hj hj') hg hs hd
  exact Goes.of st (k T' h' X' e' W' (Arv.set A q1 S q3 H G rfl W' i hi hl))
theorem goStJ {a : Addr} {kc : ClassId} {z j : Int32} {x : Int64} {vs : List Value} {dv : Value} (i : Nat) (X : Stand p l e R s m args below meth c T locs cells slots) (hx : p.tables.exec = Jvm.exec) (hZ : Z.Warmed39 s.vm) (eT : T.heap = h) (V : Arv Z h a kc .long z vs dv) (hj : ¬ j < 0) (hj' : j < z) (hi : j.toNatClampNeg = i) (hl : i < vs.length)
    {g : JFrame} (hg : g.method = m) {rest : List Value} (hs : g.stack = .long x :: .int j :: .ref a :: rest) (hd : decode c.code g.pc = .ok (.lastore, 1))
    (k : ∀ T' h', Stand p l e R s m args below meth c T' (locs ++ [⟨a, j.toNatClampNeg⟩]) cells slots → T'.heap = h' → Wr h h' a j.toNatClampNeg (.long x) → Arv Z h' a kc .long z (vs.set i (.long x)) dv → Goes p e below E T' { g with pc := g.pc + 1, stack := rest }) : Goes p e below E T g := by
  obtain ⟨cl, A, q1, S, q3, H, G⟩ := V
  obtain ⟨T', h', X', e', W', st⟩ := stJ X hx hZ eT A (inbV S hj hj') hg hs hd
  exact Goes.of st (k T' h' X' e' W' (Arv.set A q1 S q3 H G rfl W' i hi hl))
theorem goStC {a : Addr} {kc : ClassId} {z j x : Int32} {vs : List Value} {dv : Value} (i : Nat) (X : Stand p l e R s m args below meth c T locs cells slots) (hx : p.tables.exec = Jvm.exec) (hZ : Z.Warmed39 s.vm) (eT : T.heap = h) (V : Arv Z h a kc .char z vs dv) (hj : ¬ j < 0) (hj' : j < z) (hi : j.toNatClampNeg = i) (hl : i < vs.length)
    {g : JFrame} (hg : g.method = m) {rest : List Value} (hs : g.stack = .int x :: .int j :: .ref a :: rest) (hd : decode c.code g.pc = .ok (.castore, 1))
    (k : ∀ T' h', Stand p l e R s m args below meth c T' (locs ++ [⟨a, j.toNatClampNeg⟩]) cells slots → T'.heap = h' → Wr h h' a j.toNatClampNeg (.int (nar .char x)) → Arv Z h' a kc .char z (vs.set i (.int (nar .char x))) dv → Goes p e below E T' { g with pc := g.pc + 1, stack := rest }) : Goes p e below E T g := by
  obtain ⟨cl, A, q1, S, q3, H, G⟩ := V
  obtain ⟨T', h', X', e', W', st⟩ := stC X hx hZ eT A (inbV S hj hj') hg hs hd
  exact Goes.of st (k T' h' X' e' W' (Arv.set A q1 S q3 H G (fits_nar_char _) W' i hi hl))
theorem goStB {a : Addr} {kc : ClassId} {z j x : Int32} {vs : List Value} {dv : Value} (i : Nat) (X : Stand p l e R s m args below meth c T locs cells slots) (hx : p.tables.exec = Jvm.exec) (hZ : Z.Warmed39 s.vm) (eT : T.heap = h) (V : Arv Z h a kc .byte z vs dv) (hj : ¬ j < 0) (hj' : j < z) (hi : j.toNatClampNeg = i) (hl : i < vs.length)
    {g : JFrame} (hg : g.method = m) {rest : List Value} (hs : g.stack = .int x :: .int j :: .ref a :: rest) (hd : decode c.code g.pc = .ok (.bastore, 1))
    (k : ∀ T' h', Stand p l e R s m args below meth c T' (locs ++ [⟨a, j.toNatClampNeg⟩]) cells slots → T'.heap = h' → Wr h h' a j.toNatClampNeg (.int (nar .byte x)) → Arv Z h' a kc .byte z (vs.set i (.int (nar .byte x))) dv → Goes p e below E T' { g with pc := g.pc + 1, stack := rest }) : Goes p e below E T g := by
  obtain ⟨cl, A, q1, S, q3, H, G⟩ := V
  obtain ⟨T', h', X', e', W', st⟩ := stB X hx hZ eT A (inbV S hj hj') hg hs hd
  exact Goes.of st (k T' h' X' e' W' (Arv.set A q1 S q3 H G (fits_nar_byte _) W' i hi hl))
theorem goStZ {a : Addr} {kc : ClassId} {z j x : Int32} {vs : List Value} {dv : Value} (i : Nat) (X : Stand p l e R s m args below meth c T locs cells slots) (hx : p.tables.exec = Jvm.exec) (hZ : Z.Warmed39 s.vm) (eT : T.heap = h) (V : Arv Z h a kc .boolean z vs dv) (hj : ¬ j < 0) (hj' : j < z) (hi : j.toNatClampNeg = i) (hl : i < vs.length)
    {g : JFrame} (hg : g.method = m) {rest : List Value} (hs : g.stack = .int x :: .int j :: .ref a :: rest) (hd : decode c.code g.pc = .ok (.bastore, 1))
    (k : ∀ T' h', Stand p l e R s m args below meth c T' (locs ++ [⟨a, j.toNatClampNeg⟩]) cells slots → T'.heap = h' → Wr h h' a j.toNatClampNeg (.int (nar .boolean x)) → Arv Z h' a kc .boolean z (vs.set i (.int (nar .boolean x))) dv → Goes p e below E T' { g with pc := g.pc + 1, stack := rest }) : Goes p e below E T g := by
  obtain ⟨cl, A, q1, S, q3, H, G⟩ := V
  obtain ⟨T', h', X', e', W', st⟩ := stZ X hx hZ eT A (inbV S hj hj') hg hs hd
  exact Goes.of st (k T' h' X' e' W' (Arv.set A q1 S q3 H G (fits_nar_bool _) W' i hi hl))
theorem goStR {a y : Addr} {C : String} {kc : ClassId} {z j : Int32} {vs : List Value} {dv : Value} (i : Nat) (X : Stand p l e R s m args below meth c T locs cells slots) (hx : p.tables.exec = Jvm.exec) (hZ : Z.Warmed39 s.vm) (eT : T.heap = h) (V : Arv Z h a kc (.object C) z vs dv) (O : Ovr Z kc C) (I : Ins Z h y C true) (hj : ¬ j < 0) (hj' : j < z) (hi : j.toNatClampNeg = i) (hl : i < vs.length)
    {g : JFrame} (hg : g.method = m) {rest : List Value} (hs : g.stack = .ref y :: .int j :: .ref a :: rest) (hd : decode c.code g.pc = .ok (.aastore, 1))
    (k : ∀ T' h', Stand p l e R s m args below meth c T' (locs ++ [⟨a, j.toNatClampNeg⟩]) cells slots → T'.heap = h' → Wr h h' a j.toNatClampNeg (.ref y) → Arv Z h' a kc (.object C) z (vs.set i (.ref y)) dv → Goes p e below E T' { g with pc := g.pc + 1, stack := rest }) : Goes p e below E T g := by
  obtain ⟨cl, A, q1, S, q3, H, G⟩ := V
  obtain ⟨T', h', X', e', W', st⟩ := stR X hx hZ eT A (inbV S hj hj') rfl (Sto.ofV A q1 O I) hg hs hd
  exact Goes.of st (k T' h' X' e' W' (Arv.set A q1 S q3 H G rfl W' i hi hl))
theorem goLdI {a : Addr} {kc : ClassId} {z j : Int32} {vs : List Value} {dv : Value} (v : Value) (X : Stand p l e R s m args below meth c T locs cells slots) (hx : p.tables.exec = Jvm.exec) (hZ : Z.Warmed39 s.vm) (eT : T.heap = h) (V : Arv Z h a kc .int z vs dv) (hj : ¬ j < 0) (hj' : j < z) (hv : vs.getD j.toNatClampNeg dv = v)
    {g : JFrame} (hg : g.method = m) {rest : List Value} (hs : g.stack = .int j :: .ref a :: rest) (hd : decode c.code g.pc = .ok (.iaload, 1)) (k : Goes p e below E T { g with pc := g.pc + 1, stack := v :: rest }) : Goes p e below E T g := by
  obtain ⟨cl, A, q1, S, q3, H, G⟩ := V
  exact Goes.of (fun t q => X.iaload hx (by rw [eT]; exact A.1) (State.isArrayOf_alike hZ.alike A.2.1) A.2.2 (inbV S hj hj') (H.at (inbV S hj hj') hv) hg hs hd t q) k
theorem goLdJ {a : Addr} {kc : ClassId} {z j : Int32} {vs : List Value} {dv : Value} (v : Value) (X : Stand p l e R s m args below meth c T locs cells slots) (hx : p.tables.exec = Jvm.exec) (hZ : Z.Warmed39 s.vm) (eT : T.heap = h) (V : Arv Z h a kc .long z vs dv) (hj : ¬ j < 0) (hj' : j < z) (hv : vs.getD j.toNatClampNeg dv = v)
    {g : JFrame} (hg : g.method = m) {rest : List Value} (hs : g.stack = .int j :: .ref a :: rest) (hd : decode c.code g.pc = .ok (.laload, 1)) (k : Goes p e below E T { g with pc := g.pc + 1, stack := v :: rest }) : Goes p e below E T g := by
  obtain ⟨cl, A, q1, S, q3, H, G⟩ := V
  exact Goes.of (fun t q => X.laload hx (by rw [eT]; exact A.1) (State.isArrayOf_alike hZ.alike A.2.1) A.2.2 (inbV S hj hj') (H.at (inbV S hj hj') hv) hg hs hd t q) k
theorem goLdC {a : Addr} {kc : ClassId} {z j : Int32} {vs : List Value} {dv : Value} (v : Value) (X : Stand p l e R s m args below meth c T locs cells slots) (hx : p.tables.exec = Jvm.exec) (hZ : Z.Warmed39 s.vm) (eT : T.heap = h) (V : Arv Z h a kc .char z vs dv) (hj : ¬ j < 0) (hj' : j < z) (hv : vs.getD j.toNatClampNeg dv = v)
    {g : JFrame} (hg : g.method = m) {rest : List Value} (hs : g.stack = .int j :: .ref a :: rest) (hd : decode c.code g.pc = .ok (.caload, 1)) (k : Goes p e below E T { g with pc := g.pc + 1, stack := v :: rest }) : Goes p e below E T g := by
  obtain ⟨cl, A, q1, S, q3, H, G⟩ := V
  exact Goes.of (fun t q => X.caload hx (by rw [eT]; exact A.1) (State.isArrayOf_alike hZ.alike A.2.1) A.2.2 (inbV S hj hj') (H.at (inbV S hj hj') hv) hg hs hd t q) k
theorem goLdB {a : Addr} {kc : ClassId} {z j : Int32} {vs : List Value} {dv : Value} (v : Value) (X : Stand p l e R s m args below meth c T locs cells slots) (hx : p.tables.exec = Jvm.exec) (hZ : Z.Warmed39 s.vm) (eT : T.heap = h) (V : Arv Z h a kc .byte z vs dv) (hj : ¬ j < 0) (hj' : j < z) (hv : vs.getD j.toNatClampNeg dv = v)
    {g : JFrame} (hg : g.method = m) {rest : List Value} (hs : g.stack = .int j :: .ref a :: rest) (hd : decode c.code g.pc = .ok (.baload, 1)) (k : Goes p e below E T { g with pc := g.pc + 1, stack := v :: rest }) : Goes p e below E T g := by
  obtain ⟨cl, A, q1, S, q3, H, G⟩ := V
  exact Goes.of (fun t q => X.baloadBytes hx (by rw [eT]; exact A.1) (State.isArrayOf_alike hZ.alike A.2.1) A.2.2 (inbV S hj hj') (H.at (inbV S hj hj') hv) hg hs hd t q) k
theorem goLdZ {a : Addr} {kc : ClassId} {z j : Int32} {vs : List Value} {dv : Value} (v : Value) (X : Stand p l e R s m args below meth c T locs cells slots) (hx : p.tables.exec = Jvm.exec) (hZ : Z.Warmed39 s.vm) (eT : T.heap = h) (V : Arv Z h a kc .boolean z vs dv) (hj : ¬ j < 0) (hj' : j < z) (hv : vs.getD j.toNatClampNeg dv = v)
    {g : JFrame} (hg : g.method = m) {rest : List Value} (hs : g.stack = .int j :: .ref a :: rest) (hd : decode c.code g.pc = .ok (.baload, 1)) (k : Goes p e below E T { g with pc := g.pc + 1, stack := v :: rest }) : Goes p e below E T g := by
  obtain ⟨cl, A, q1, S, q3, H, G⟩ := V
  exact Goes.of (fun t q => X.baloadBooleans hx (by rw [eT]; exact A.1) (State.isArrayOf_alike hZ.alike A.2.1) A.2.2 (inbV S hj hj') (H.at (inbV S hj hj') hv) hg hs hd t q) k
theorem goLdR {a : Addr} {C : String} {kc : ClassId} {z j : Int32} {vs : List Value} {dv : Value} (v : Value) (X : Stand p l e R s m args below meth c T locs cells slots) (hx : p.tables.exec = Jvm.exec) (hZ : Z.Warmed39 s.vm) (eT : T.heap = h) (V : Arv Z h a kc (.object C) z vs dv) (hj : ¬ j < 0) (hj' : j < z) (hv : vs.getD j.toNatClampNeg dv = v)
    {g : JFrame} (hg : g.method = m) {rest : List Value} (hs : g.stack = .int j :: .ref a :: rest) (hd : decode c.code g.pc = .ok (.aaload, 1)) (k : Goes p e below E T { g with pc := g.pc + 1, stack := v :: rest }) : Goes p e below E T g := by
  obtain ⟨cl, A, q1, S, q3, H, G⟩ := V
  exact Goes.of (fun t q => X.aaload hx (by rw [eT]; exact A.1) (State.isArrayOf_alike hZ.alike A.2.1) rfl A.2.2 (inbV S hj hj') (H.at (inbV S hj hj') hv) hg hs hd t q) k
theorem goLen {a : Addr} {kc : ClassId} {ty : FieldType} {z : Int32} {vs : List Value} {dv : Value} (X : Stand p l e R s m args below meth c T locs cells slots) (hx : p.tables.exec = Jvm.exec) (hZ : Z.Warmed39 s.vm) (eT : T.heap = h) (V : Arv Z h a kc ty z vs dv)
    {g : JFrame} (hg : g.method = m) {rest : List Value} (hs : g.stack = .ref a :: rest) (hd : decode c.code g.pc = .ok (.arraylength, 1)) (k : Goes p e below E T { g with pc := g.pc + 1, stack := .int z :: rest }) : Goes p e below E T g := by
  obtain ⟨cl, A, q1, S, q3, H, G⟩ := V
  exact Goes.of (fun t q => X.arraylength hx (by rw [eT]; exact A.1) (State.isArrayOf_alike hZ.alike A.2.1) hg hs hd t (by rw [len_of S q3]; exact q)) k
/-- a start fact out of a case's word -/
theorem fld_of_eq {args : Array Value} {t u : Term} {C n d : String} {a : Addr} {v : Value} (ev : t.eval args s none [] s = some (.ref a)) (hu : u.eval args s none [] s = some v) (h : (Jvm.Cond.eq (.field t C n d) u).value args s none s [] = some true) : Fld s s.heap a C n d v := by
  refine Fld.start ?_
  simp only [Jvm.Cond.value, fld_at ev, hu] at h
  cases hf : s.fieldOf? a C n d with
  | none => simp [hf] at h
  | some x => cases x <;> cases v <;> simp [hf] at h ⊢ <;> exact h
theorem sta_at {args : Array Value} {C n d : String} {v : Value} (ev : (Term.static C n d).eval args s none [] s = some v) (w1 : (Jvm.Cond.initialized C).before args s = true) (w2 : (Jvm.Cond.laysStatic C n d).before args s = true) : Sta s s.heap C n d v := Sta.start ev (Or.inr ⟨w1, w2⟩)
/-- an enum constant: the static, the object's class, its ordinal -/
def Con (Z : State) (C f : String) (d : String) (k : Int32) (a : Addr) : Prop := Sta Z Z.heap C f d (.ref a) ∧ Exa Z Z.heap a C ∧ Fld Z Z.heap a "java/lang/Enum" "ordinal" "I" (.int k)
theorem con_of {args : Array Value} {C f d : String} {k : Int32} (h1 : (Jvm.Cond.exactly (.static C f d) C).value args s none s [] = some true) (h2 : (Jvm.Cond.eq (.field (.static C f d) "java/lang/Enum" "ordinal" "I") (.int k)).value args s none s [] = some true)
    (w1 : (Jvm.Cond.initialized C).before args s = true) (w2 : (Jvm.Cond.laysStatic C f d).before args s = true) : ∃ a, Con s C f d k a ∧ (Term.static C f d).eval args s none [] s = some (.ref a) := by
  obtain ⟨a, ev⟩ := exa_v h1
  exact ⟨a, ⟨sta_at ev w1 w2, Exa.start ev h1, fld_of_eq ev (Term.int_eval k) h2⟩, ev⟩
theorem Con.ne {C f d C' f' d' : String} {k k' : Int32} {a b : Addr} (F : Con Z C f d k a) (G : Con Z C' f' d' k' b) (q : k ≠ k') : a ≠ b := Fld.ne F.2.2 G.2.2 (fun h => q (Value.int.inj h))
theorem mask31 (x : Int32) : (x &&& (2147483647 : Int32)).toInt = x.toInt % 2147483648 := c_mask x _ 31 (by decide) (by decide)
theorem div_pos (x y : Int32) {k : Int} (hx : ¬ x < 0) (hy : y.toInt = k) (h1 : y ≠ -1) : (x / y).toInt = x.toInt / k := (c_idiv x y k hy h1).1 (by rw [Int32.lt_iff_toInt_lt] at hx; have : (0 : Int32).toInt = 0 := rfl; omega)
theorem rem_pos {x y : Int32} {k : Int} (h : 0 ≤ x.toInt) (hy : y.toInt = k) : (x - (x / y) * y).toInt = x.toInt % k := by
  rw [irem_eq_mod]; exact (c_irem x y k hy).1 h
theorem rem31 (x y : Int32) {k : Int} (hy : y.toInt = k) : ((x &&& (2147483647 : Int32)) - ((x &&& (2147483647 : Int32)) / y) * y).toInt = (x.toInt % 2147483648) % k := by
  have e := mask31 x
  rw [rem_pos (by omega) hy, e]
def Cst (Z : State) (C f : String) (d : String) (a : Addr) : Prop := Sta Z Z.heap C f d (.ref a) ∧ Exa Z Z.heap a C
theorem cst_of {args : Array Value} {C f d : String} (h1 : (Jvm.Cond.exactly (.static C f d) C).value args s none s [] = some true)
    (w1 : (Jvm.Cond.initialized C).before args s = true) (w2 : (Jvm.Cond.laysStatic C f d).before args s = true) : ∃ a, Cst s C f d a ∧ (Term.static C f d).eval args s none [] s = some (.ref a) := by
  obtain ⟨a, ev⟩ := exa_v h1
  exact ⟨a, ⟨sta_at ev w1 w2, Exa.start ev h1⟩, ev⟩
theorem goClone {own ad : String} {index : Nat} {ty : FieldType} {a : Addr} {kc : ClassId} {z : Int32} {vs : List Value} {dv : Value} (W cap : Nat) (X : Stand p l e R s m args below meth c T locs cells slots) (hx : p.tables.exec = Jvm.exec) (hZ : Z.Warmed39 s.vm) (hown : s.vm.findClass own = some m.cls)
    (w1 : (Jvm.Cond.methodLink own index ⟨ad, "clone", "()Ljava/lang/Object;"⟩).before a0 Z = true) (w2 : (Jvm.Cond.sameMethod ad "java/lang/Object" "clone" "()Ljava/lang/Object;").before a0 Z = true) (w3 : (Jvm.Cond.native ⟨"java/lang/Object", "clone", "()Ljava/lang/Object;"⟩).before a0 Z = true)
    (w4 : (Jvm.Cond.instanceMethod ⟨"java/lang/Object", "clone", "()Ljava/lang/Object;"⟩).before a0 Z = true) (w5 : (Jvm.Cond.selects ad ⟨ad, "clone", "()Ljava/lang/Object;"⟩ ⟨"java/lang/Object", "clone", "()Ljava/lang/Object;"⟩).before a0 Z = true) (w6 : (Jvm.Cond.castable ad "java/lang/Cloneable").before a0 Z = true)
    (eT : T.heap = h) (V : Arv Z h a kc ty z vs dv) (Ex : Exa Z h a ad) {g : JFrame} (hg : g.method = m) (hsize : g.locals.size = c.maxLocals) {rest : List Value} (hst : g.stack = .ref a :: rest) (hd : decode c.code g.pc = .ok (.invokevirtual index, 3))
    (hf : 1 ≤ R.frames) (hW : 2 * g.monitorRoom + (rest.map fun v => v.category).sum ≤ W) (hl : W + 14 ≤ R.locals) (hcap : z.toNatClampNeg ≤ cap) (hc : cells + 1 ≤ R.cells) (hsl : slots + cap ≤ R.slots)
    (k : ∀ T' h' b, Stand p l e R s m args below meth c T' locs (cells + 1) (slots + cap) → T'.heap = h' → Ext h h' → h.size ≤ b → Arv Z h' b kc ty z vs dv → Exa Z h' b ad → Goes p e below E T' { g with pc := g.pc + 3, stack := .ref b :: rest }) : Goes p e below E T g := by
  obtain ⟨T', h', X', e', E', A', Ex', st⟩ := cloneH X hx hZ hown w1 w2 w3 w4 w5 w6 eT V.arh Ex hg hsize hst hd hf hW hl hcap hc hsl
  exact Goes.of st (k T' h' _ X' e' E' (Nat.le_refl _) A' Ex')
theorem nsRoot {O K : String} {n : Nat} (w : (Jvm.Cond.noSuperclass O).before a0 Z = true) (wk : (Jvm.Cond.instantiable K n).before a0 Z = true) (hn : O ≠ K) : NS Z O K := by
  obtain ⟨c, k, h1, h2, h3, -, -⟩ := Cond.noSuperclass_spec w
  obtain ⟨t, kt, g1, -⟩ := Cond.instantiable_spec wk
  have ne := ids_ne h1 g1 hn
  refine ⟨c, t, h1, g1, fun fuel => ?_⟩
  cases fuel with
  | zero => rfl
  | succ f => simp [Vm.isSubclassAux, ne, h2, h3]
theorem nsNo {C S K : String} {n : Nat} (w : (Jvm.Cond.superclass C S).before a0 Z = true) (wk : (Jvm.Cond.instantiable K n).before a0 Z = true) (q : NS Z C K) (hn : C ≠ K) : ∃ c t, Z.vm.findClass C = some c ∧ Z.vm.findClass K = some t ∧ Z.vm.assignable c t = false := by
  obtain ⟨c, t, h0, g0, n3⟩ := q
  obtain ⟨p, k, kp, h1, h2, h3, h4, h5, -, h7⟩ := Cond.superclass_spec h0 w
  obtain ⟨t', kt, g1, g2, g5, g7, -⟩ := Cond.instantiable_spec wk
  cases g0.symm.trans g1
  have g8 : kt.isInterface = false := by simp only [Bool.or_eq_false_iff] at g7; exact g7.1
  have ne := ids_ne h0 g0 hn
  refine ⟨c, t, h0, g0, ?_⟩
  show Z.vm.assignableAux (255 + 1) c t = false
  simp [Vm.assignableAux, ne, h2, g2, h5, g5, g8, Vm.isSubclass, n3]
/-- what is known of Integer's cache at the start -/
def IntC (Z : State) (ca : Addr) (cl : Cell) : Prop := Sta Z Z.heap "java/lang/Integer$IntegerCache" "high" "I" (.int 127) ∧ Sta Z Z.heap "java/lang/Integer$IntegerCache" "cache" "[Ljava/lang/Integer;" (.ref ca) ∧ Arr Z Z.heap ca cl (.object "java/lang/Integer") ∧ cl.slots.size = 256 ∧ ∀ j, j < 256 → ∃ b, cl.slots[j]? = some (.ref b) ∧ Exa Z Z.heap b "java/lang/Integer"
theorem ne_of_not {args : Array Value} {t : Term} {x : Int32} (ev : t.eval args s none [] s = some (.int x)) (h : (Jvm.Cond.not (.eq t (.int 0))).before args s = true) : ¬ x = 0 := by
  intro q
  subst q
  have e := Cond.before_iff.mp h
  simp [Jvm.Cond.value, ev, Term.eval] at e
end Own1
end Jvm.Own
namespace Jvm.Pilot.@@N@@
open Jvm Jvm.ClassFile Sem Op Lib Jvm.Free Jvm.Stand Jvm.LawKit Jvm.RoadKit Jvm.Own Bundle Jvm.Pilot.@@N@@.Jvm.D
theorem ef_1 (m : MethodId) (x0 : Addr) : entryFrame m #[(.ref x0)] 1 = mkF m 0 #[.val (.ref x0)] [] := by first | (simp [entryFrame, mkF, argsToLocals, Value.category]; done) | rfl
theorem d1_0 : decode prog_5_method_5_code 0 = .ok (.aload_n 0, 1) := by decide +kernel
theorem d1_1 : decode prog_5_method_5_code 1 = .ok (.getstatic 3, 3) := by decide +kernel
theorem d1_4 : decode prog_5_method_5_code 4 = .ok (.if_acmp .eq 17, 3) := by decide +kernel
theorem d1_21 : decode prog_5_method_5_code 21 = .ok (.iconst 1, 1) := by decide +kernel
theorem d1_22 : decode prog_5_method_5_code 22 = .ok (.goto 4, 3) := by decide +kernel
theorem d1_26 : decode prog_5_method_5_code 26 = .ok (.ireturn, 1) := by decide +kernel
theorem d1_7 : decode prog_5_method_5_code 7 = .ok (.aload_n 0, 1) := by decide +kernel
theorem d1_8 : decode prog_5_method_5_code 8 = .ok (.getstatic 7, 3) := by decide +kernel
theorem d1_11 : decode prog_5_method_5_code 11 = .ok (.if_acmp .eq 10, 3) := by decide +kernel
theorem d1_14 : decode prog_5_method_5_code 14 = .ok (.aload_n 0, 1) := by decide +kernel
theorem d1_15 : decode prog_5_method_5_code 15 = .ok (.getstatic 19, 3) := by decide +kernel
theorem d1_18 : decode prog_5_method_5_code 18 = .ok (.if_acmp .ne 7, 3) := by decide +kernel
theorem d1_25 : decode prog_5_method_5_code 25 = .ok (.iconst 0, 1) := by decide +kernel
theorem pn_com_example_postpone_postpone_TaskStatus : plainName "com/example/postpone/postpone/TaskStatus" = true := by first | (simp [plainName, overriddenIn]; done) | decide +kernel
theorem ef_0 (m : MethodId) (x0 : Int32) : entryFrame m #[(.int x0)] maxLocals = mkF m 0 #[.val (.int x0), .unset, .unset, .unset] [] := by first | (simp [entryFrame, mkF, argsToLocals, Value.category, maxLocals]; done) | rfl
theorem pd___Z : parseMethodDescriptor "()Z" = some ⟨[], some .boolean⟩ := by decide +kernel
theorem pn_com_example_postpone_postpone_TaskStatusIsWaitingPinLaw : plainName "com/example/postpone/postpone/TaskStatusIsWaitingPinLaw" = true := by first | (simp [plainName, overriddenIn]; done) | decide +kernel
theorem c9 (i : Int32) (h0 : 0 ≤ i.toInt) (h1 : i.toInt < 9) : i = (0 : Int32) ∨ i = (1 : Int32) ∨ i = (2 : Int32) ∨ i = (3 : Int32) ∨ i = (4 : Int32) ∨ i = (5 : Int32) ∨ i = (6 : Int32) ∨ i = (7 : Int32) ∨ i = (8 : Int32) := by
  have e0 : (0 : Int32).toInt = 0 := rfl
  have e1 : (1 : Int32).toInt = 1 := rfl
  have e2 : (2 : Int32).toInt = 2 := rfl
  have e3 : (3 : Int32).toInt = 3 := rfl
  have e4 : (4 : Int32).toInt = 4 := rfl
  have e5 : (5 : Int32).toInt = 5 := rfl
  have e6 : (6 : Int32).toInt = 6 := rfl
  have e7 : (7 : Int32).toInt = 7 := rfl
  have e8 : (8 : Int32).toInt = 8 := rfl
  simp only [← Int32.toInt_inj]
  omega
set_option maxRecDepth 65536 in
set_option maxHeartbeats 40000000 in
theorem rm_wait (l : Launch) (Z : State) (a0 : Array Value) (hw : ∀ d ∈ tables_1, d.before a0 Z = true) (a w0 w1 w5 : Addr) (h0 : Heap) (n0 : Nat) (O0 : Old Z n0 h0) (c0 : Con Z "com/example/postpone/postpone/TaskStatus" "NEW" "Lcom/example/postpone/postpone/TaskStatus;" 0 w0) (c1 : Con Z "com/example/postpone/postpone/TaskStatus" "ENQUEUED" "Lcom/example/postpone/postpone/TaskStatus;" 1 w1) (c5 : Con Z "com/example/postpone/postpone/TaskStatus" "RETRIABLE_FAILURE" "Lcom/example/postpone/postpone/TaskStatus;" 5 w5) :
    Rm l (⟨"com/example/postpone/postpone/TaskStatus", "isWaiting", "()Z"⟩ : MethodName) prog_5_method_5_code 1 (some .boolean) ({ frames := 0, cells := 0, slots := 0, locals := 0 } : Room) [] Z #[(.ref a)] h0 (fun v h L => v = some (.int (if a = w0 then (1 : Int32) else if a = w1 then (1 : Int32) else if a = w5 then (1 : Int32) else (0 : Int32))) ∧ Fr n0 L ∧ h = h0) := by
  refine Rm.of (plainFor_of_name pn_com_example_postpone_postpone_TaskStatus) ?_
  intro p e s m below meth c T X hx hZ hby hml hown hnm hret hlk eT0
  have hown : s.vm.findClass "com/example/postpone/postpone/TaskStatus" = some m.cls := hown
  have hnm : meth.name = "isWaiting" := hnm
  have N0 := Fr.nil n0
  refine Goes.cast (ef_1 m a) ?_
  show Goes p e below _ T (mkF m 0 #[.val (.ref a)] [])
  refine Goes.of (fun _ => XS.aloadN X.here hx rfl (hb hby d1_0) rfl rfl) ?_
  show Goes p e below _ T (mkF m 1 #[.val (.ref a)] [(.ref a)])
  refine goGetS X hx hZ hown (host := "") (Or.inl (hw _ (List.mem_of_getElem? (i := 29) rfl))) Via.refl eT0 (c0.1.ext O0.2) (g := (mkF m 1 #[.val (.ref a)] [(.ref a)])) rfl (hb hby d1_1) ?_
  intro T1 X1 eT1
  show Goes p e below _ T1 (mkF m 4 #[.val (.ref a)] [(.ref w0), (.ref a)])
  by_cases ha4 : a = w0
  · refine Goes.of (fun _ => Jvm.RoadKit.acmp (g := (mkF m 4 #[.val (.ref a)] [(.ref w0), (.ref a)])) X1 hx rfl rfl rfl (pc0 := 4) (pc' := 21) (same := true) rfl (hb hby d1_4) rfl (decide_eq_true (congrArg Value.ref ha4)) (by decide) (by decide)) ?_
    show Goes p e below _ T1 (mkF m 21 #[.val (.ref a)] [])
    refine Goes.of (fun _ => XS.iconst X1.here hx rfl (hb hby d1_21)) ?_
    show Goes p e below _ T1 (mkF m 22 #[.val (.ref a)] [(.int (1 : Int32))])
    refine Goes.of (fun _ => XS.goto X1.here hx rfl (pc0 := 22) (pc' := 26) rfl (hb hby d1_22) (by decide) (by decide)) ?_
    show Goes p e below _ T1 (mkF m 26 #[.val (.ref a)] [(.int (1 : Int32))])
    exact retZ (t := .boolean) X1 hx hret hlk (by simp) (hb hby d1_26) eT1 (by decide) (by decide) ⟨by rw [if_pos ha4]; try rfl, N0, rfl⟩
  · refine Goes.of (fun _ => Jvm.RoadKit.acmp (g := (mkF m 4 #[.val (.ref a)] [(.ref w0), (.ref a)])) X1 hx rfl rfl rfl (pc0 := 4) (pc' := 7) (same := false) rfl (hb hby d1_4) rfl (decide_eq_false fun q => ha4 (Value.ref.inj q)) (by decide) (by decide)) ?_
    show Goes p e below _ T1 (mkF m 7 #[.val (.ref a)] [])
    refine Goes.of (fun _ => XS.aloadN X1.here hx rfl (hb hby d1_7) rfl rfl) ?_
    show Goes p e below _ T1 (mkF m 8 #[.val (.ref a)] [(.ref a)])
    refine goGetS X1 hx hZ hown (host := "") (Or.inl (hw _ (List.mem_of_getElem? (i := 30) rfl))) Via.refl eT1 (c1.1.ext O0.2) (g := (mkF m 8 #[.val (.ref a)] [(.ref a)])) rfl (hb hby d1_8) ?_
    intro T2 X2 eT2
    show Goes p e below _ T2 (mkF m 11 #[.val (.ref a)] [(.ref w1), (.ref a)])
    by_cases ha11 : a = w1
    · refine Goes.of (fun _ => Jvm.RoadKit.acmp (g := (mkF m 11 #[.val (.ref a)] [(.ref w1), (.ref a)])) X2 hx rfl rfl rfl (pc0 := 11) (pc' := 21) (same := true) rfl (hb hby d1_11) rfl (decide_eq_true (congrArg Value.ref ha11)) (by decide) (by decide)) ?_
      show Goes p e below _ T2 (mkF m 21 #[.val (.ref a)] [])
      refine Goes.of (fun _ => XS.iconst X2.here hx rfl (hb hby d1_21)) ?_
      show Goes p e below _ T2 (mkF m 22 #[.val (.ref a)] [(.int (1 : Int32))])
      refine Goes.of (fun _ => XS.goto X2.here hx rfl (pc0 := 22) (pc' := 26) rfl (hb hby d1_22) (by decide) (by decide)) ?_
      show Goes p e below _ T2 (mkF m 26 #[.val (.ref a)] [(.int (1 : Int32))])
      exact retZ (t := .boolean) X2 hx hret hlk (by simp) (hb hby d1_26) eT2 (by decide) (by decide) ⟨by rw [if_neg ha4, if_pos ha11]; try rfl, N0, rfl⟩
    · refine Goes.of (fun _ => Jvm.RoadKit.acmp (g := (mkF m 11 #[.val (.ref a)] [(.ref w1), (.ref a)])) X2 hx rfl rfl rfl (pc0 := 11) (pc' := 14) (same := false) rfl (hb hby d1_11) rfl (decide_eq_false fun q => ha11 (Value.ref.inj q)) (by decide) (by decide)) ?_
      show Goes p e below _ T2 (mkF m 14 #[.val (.ref a)] [])
      refine Goes.of (fun _ => XS.aloadN X2.here hx rfl (hb hby d1_14) rfl rfl) ?_
      show Goes p e below _ T2 (mkF m 15 #[.val (.ref a)] [(.ref a)])
      refine goGetS X2 hx hZ hown (host := "") (Or.inl (hw _ (List.mem_of_getElem? (i := 31) rfl))) Via.refl eT2 (c5.1.ext O0.2) (g := (mkF m 15 #[.val (.ref a)] [(.ref a)])) rfl (hb hby d1_15) ?_
      intro T3 X3 eT3
      show Goes p e below _ T3 (mkF m 18 #[.val (.ref a)] [(.ref w5), (.ref a)])
      by_cases ha18 : a = w5
      · refine Goes.of (fun _ => Jvm.RoadKit.acmp (g := (mkF m 18 #[.val (.ref a)] [(.ref w5), (.ref a)])) X3 hx rfl rfl rfl (pc0 := 18) (pc' := 21) (same := true) rfl (hb hby d1_18) rfl (decide_eq_true (congrArg Value.ref ha18)) (by decide) (by decide)) ?_
        show Goes p e below _ T3 (mkF m 21 #[.val (.ref a)] [])
        refine Goes.of (fun _ => XS.iconst X3.here hx rfl (hb hby d1_21)) ?_
        show Goes p e below _ T3 (mkF m 22 #[.val (.ref a)] [(.int (1 : Int32))])
        refine Goes.of (fun _ => XS.goto X3.here hx rfl (pc0 := 22) (pc' := 26) rfl (hb hby d1_22) (by decide) (by decide)) ?_
        show Goes p e below _ T3 (mkF m 26 #[.val (.ref a)] [(.int (1 : Int32))])
        exact retZ (t := .boolean) X3 hx hret hlk (by simp) (hb hby d1_26) eT3 (by decide) (by decide) ⟨by rw [if_neg ha4, if_neg ha11, if_pos ha18]; try rfl, N0, rfl⟩
      · refine Goes.of (fun _ => Jvm.RoadKit.acmp (g := (mkF m 18 #[.val (.ref a)] [(.ref w5), (.ref a)])) X3 hx rfl rfl rfl (pc0 := 18) (pc' := 25) (same := false) rfl (hb hby d1_18) rfl (decide_eq_false fun q => ha18 (Value.ref.inj q)) (by decide) (by decide)) ?_
        show Goes p e below _ T3 (mkF m 25 #[.val (.ref a)] [])
        refine Goes.of (fun _ => XS.iconst X3.here hx rfl (hb hby d1_25)) ?_
        show Goes p e below _ T3 (mkF m 26 #[.val (.ref a)] [(.int (0 : Int32))])
        exact retZ (t := .boolean) X3 hx hret hlk (by simp) (hb hby d1_26) eT3 (by decide) (by decide) ⟨by rw [if_neg ha4, if_neg ha11, if_neg ha18]; try rfl, N0, rfl⟩
set_option maxRecDepth 65536 in
set_option maxHeartbeats 40000000 in
theorem rm_law (l : Launch) (Z : State) (a0 : Array Value) (hw : ∀ d ∈ tables_1, d.before a0 Z = true) (ws : List Jvm.Cond) (p1 : Int32) (w0 : Addr) (w1 : Addr) (w2 : Addr) (w3 : Addr) (w4 : Addr) (w5 : Addr) (w6 : Addr) (w7 : Addr) (w8 : Addr) (h0 : Heap) (n0 : Nat) (O0 : Old Z n0 h0) (c0 : Con Z "com/example/postpone/postpone/TaskStatus" "NEW" "Lcom/example/postpone/postpone/TaskStatus;" 0 w0) (c1 : Con Z "com/example/postpone/postpone/TaskStatus" "ENQUEUED" "Lcom/example/postpone/postpone/TaskStatus;" 1 w1) (c2 : Con Z "com/example/postpone/postpone/TaskStatus" "CLAIMED" "Lcom/example/postpone/postpone/TaskStatus;" 2 w2) (c3 : Con Z "com/example/postpone/postpone/TaskStatus" "PROCESSING" "Lcom/example/postpone/postpone/TaskStatus;" 3 w3) (c4 : Con Z "com/example/postpone/postpone/TaskStatus" "SUCCESS" "Lcom/example/postpone/postpone/TaskStatus;" 4 w4) (c5 : Con Z "com/example/postpone/postpone/TaskStatus" "RETRIABLE_FAILURE" "Lcom/example/postpone/postpone/TaskStatus;" 5 w5) (c6 : Con Z "com/example/postpone/postpone/TaskStatus" "FATAL_FAILURE" "Lcom/example/postpone/postpone/TaskStatus;" 6 w6) (c7 : Con Z "com/example/postpone/postpone/TaskStatus" "DEAD_LETTERED" "Lcom/example/postpone/postpone/TaskStatus;" 7 w7) (c8 : Con Z "com/example/postpone/postpone/TaskStatus" "DROPPED" "Lcom/example/postpone/postpone/TaskStatus;" 8 w8) :
    Rm l x code maxLocals ret room_1 ws Z #[(.int p1)] h0 (fun v h L => v = some (.int 1) ∧ Fr n0 L) := by
  refine Rm.of (plainFor_of_name pn_com_example_postpone_postpone_TaskStatusIsWaitingPinLaw) ?_
  intro p e s m below meth c T X hx hZ hby hml hown hnm hret hlk eT0
  have hown : s.vm.findClass "com/example/postpone/postpone/TaskStatusIsWaitingPinLaw" = some m.cls := hown
  have hnm : meth.name = "law" := hnm
  have N0 := Fr.nil n0
  refine Goes.cast (ef_0 m p1) ?_
  show Goes p e below _ T (mkF m 0 #[.val (.int p1), .unset, .unset, .unset] [])
  refine Goes.of (fun _ => XS.bipush X.here hx rfl (hb hby at_0)) ?_
  show Goes p e below _ T (mkF m 2 #[.val (.int p1), .unset, .unset, .unset] [(.int (9 : Int32))])
  refine goNewR 9 X hx hZ hown (hw _ (List.mem_of_getElem? (i := 0) rfl)) (hw _ (List.mem_of_getElem? (i := 1) rfl)) eT0 (g := (mkF m 2 #[.val (.int p1), .unset, .unset, .unset] [(.int (9 : Int32))])) rfl (hb hby at_2) rfl (by decide) (by decide) (by decide) (by decide) (by decide) ?_
  intro T1 h1 b1 kA1 X1 eT1 E1 hb1 V1 Ov1
  have g_b1 : n0 ≤ b1 := Nat.le_trans (oldLe O0) hb1
  have O0 := O0.ext E1
  have V1 : Arv Z h1 b1 kA1 (.object "com/example/postpone/postpone/TaskStatus") (9 : Int32) [.null, .null, .null, .null, .null, .null, .null, .null, .null] .null := V1
  show Goes p e below _ T1 (mkF m 5 #[.val (.int p1), .unset, .unset, .unset] [(.ref b1)])
  refine Goes.of (fun _ => XS.dup X1.here hx rfl (hb hby at_5) rfl rfl) ?_
  show Goes p e below _ T1 (mkF m 6 #[.val (.int p1), .unset, .unset, .unset] [(.ref b1), (.ref b1)])
  refine Goes.of (fun _ => XS.iconst X1.here hx rfl (hb hby at_6)) ?_
  show Goes p e below _ T1 (mkF m 7 #[.val (.int p1), .unset, .unset, .unset] [(.int (0 : Int32)), (.ref b1), (.ref b1)])
  refine goGetS X1 hx hZ hown (host := "") (Or.inl (hw _ (List.mem_of_getElem? (i := 2) rfl))) Via.refl eT1 (c0.1.ext O0.2) (g := (mkF m 7 #[.val (.int p1), .unset, .unset, .unset] [(.int (0 : Int32)), (.ref b1), (.ref b1)])) rfl (hb hby at_7) ?_
  intro T2 X2 eT2
  show Goes p e below _ T2 (mkF m 10 #[.val (.int p1), .unset, .unset, .unset] [(.ref w0), (.int (0 : Int32)), (.ref b1), (.ref b1)])
  refine goStR 0 X2 hx hZ eT2 V1 Ov1 (Ins.self (c0.2.1.ext O0.2)) (by decide) (by decide) rfl (Nat.lt_of_lt_of_le (Nat.lt_succ_self _) (Nat.le_of_ble_eq_true rfl)) (g := (mkF m 10 #[.val (.int p1), .unset, .unset, .unset] [(.ref w0), (.int (0 : Int32)), (.ref b1), (.ref b1)])) rfl rfl (hb hby at_10) ?_
  intro T3 h3 X3 eT3 W3 V1
  have N3 := Fr.snoc X3 N0 g_b1
  have O0 := O0.wr W3 g_b1
  have V1 : Arv Z h3 b1 kA1 (.object "com/example/postpone/postpone/TaskStatus") (9 : Int32) [(.ref w0), .null, .null, .null, .null, .null, .null, .null, .null] .null := V1
  show Goes p e below _ T3 (mkF m 11 #[.val (.int p1), .unset, .unset, .unset] [(.ref b1)])
  refine Goes.of (fun _ => XS.dup X3.here hx rfl (hb hby at_11) rfl rfl) ?_
  show Goes p e below _ T3 (mkF m 12 #[.val (.int p1), .unset, .unset, .unset] [(.ref b1), (.ref b1)])
  refine Goes.of (fun _ => XS.iconst X3.here hx rfl (hb hby at_12)) ?_
  show Goes p e below _ T3 (mkF m 13 #[.val (.int p1), .unset, .unset, .unset] [(.int (1 : Int32)), (.ref b1), (.ref b1)])
  refine goGetS X3 hx hZ hown (host := "") (Or.inl (hw _ (List.mem_of_getElem? (i := 6) rfl))) Via.refl eT3 (c1.1.ext O0.2) (g := (mkF m 13 #[.val (.int p1), .unset, .unset, .unset] [(.int (1 : Int32)), (.ref b1), (.ref b1)])) rfl (hb hby at_13) ?_
  intro T4 X4 eT4
  show Goes p e below _ T4 (mkF m 16 #[.val (.int p1), .unset, .unset, .unset] [(.ref w1), (.int (1 : Int32)), (.ref b1), (.ref b1)])
  refine goStR 1 X4 hx hZ eT4 V1 Ov1 (Ins.self (c1.2.1.ext O0.2)) (by decide) (by decide) rfl (Nat.lt_of_lt_of_le (Nat.lt_succ_self _) (Nat.le_of_ble_eq_true rfl)) (g := (mkF m 16 #[.val (.int p1), .unset, .unset, .unset] [(.ref w1), (.int (1 : Int32)), (.ref b1), (.ref b1)])) rfl rfl (hb hby at_16) ?_
  intro T5 h5 X5 eT5 W5 V1
  have N5 := Fr.snoc X5 N3 g_b1
  have O0 := O0.wr W5 g_b1
  have V1 : Arv Z h5 b1 kA1 (.object "com/example/postpone/postpone/TaskStatus") (9 : Int32) [(.ref w0), (.ref w1), .null, .null, .null, .null, .null, .null, .null] .null := V1
  show Goes p e below _ T5 (mkF m 17 #[.val (.int p1), .unset, .unset, .unset] [(.ref b1)])
  refine Goes.of (fun _ => XS.dup X5.here hx rfl (hb hby at_17) rfl rfl) ?_
  show Goes p e below _ T5 (mkF m 18 #[.val (.int p1), .unset, .unset, .unset] [(.ref b1), (.ref b1)])
  refine Goes.of (fun _ => XS.iconst X5.here hx rfl (hb hby at_18)) ?_
  show Goes p e below _ T5 (mkF m 19 #[.val (.int p1), .unset, .unset, .unset] [(.int (2 : Int32)), (.ref b1), (.ref b1)])
  refine goGetS X5 hx hZ hown (host := "") (Or.inl (hw _ (List.mem_of_getElem? (i := 8) rfl))) Via.refl eT5 (c2.1.ext O0.2) (g := (mkF m 19 #[.val (.int p1), .unset, .unset, .unset] [(.int (2 : Int32)), (.ref b1), (.ref b1)])) rfl (hb hby at_19) ?_
  intro T6 X6 eT6
  show Goes p e below _ T6 (mkF m 22 #[.val (.int p1), .unset, .unset, .unset] [(.ref w2), (.int (2 : Int32)), (.ref b1), (.ref b1)])
  refine goStR 2 X6 hx hZ eT6 V1 Ov1 (Ins.self (c2.2.1.ext O0.2)) (by decide) (by decide) rfl (Nat.lt_of_lt_of_le (Nat.lt_succ_self _) (Nat.le_of_ble_eq_true rfl)) (g := (mkF m 22 #[.val (.int p1), .unset, .unset, .unset] [(.ref w2), (.int (2 : Int32)), (.ref b1), (.ref b1)])) rfl rfl (hb hby at_22) ?_
  intro T7 h7 X7 eT7 W7 V1
  have N7 := Fr.snoc X7 N5 g_b1
  have O0 := O0.wr W7 g_b1
  have V1 : Arv Z h7 b1 kA1 (.object "com/example/postpone/postpone/TaskStatus") (9 : Int32) [(.ref w0), (.ref w1), (.ref w2), .null, .null, .null, .null, .null, .null] .null := V1
  show Goes p e below _ T7 (mkF m 23 #[.val (.int p1), .unset, .unset, .unset] [(.ref b1)])
  refine Goes.of (fun _ => XS.dup X7.here hx rfl (hb hby at_23) rfl rfl) ?_
  show Goes p e below _ T7 (mkF m 24 #[.val (.int p1), .unset, .unset, .unset] [(.ref b1), (.ref b1)])
  refine Goes.of (fun _ => XS.iconst X7.here hx rfl (hb hby at_24)) ?_
  show Goes p e below _ T7 (mkF m 25 #[.val (.int p1), .unset, .unset, .unset] [(.int (3 : Int32)), (.ref b1), (.ref b1)])
  refine goGetS X7 hx hZ hown (host := "") (Or.inl (hw _ (List.mem_of_getElem? (i := 10) rfl))) Via.refl eT7 (c3.1.ext O0.2) (g := (mkF m 25 #[.val (.int p1), .unset, .unset, .unset] [(.int (3 : Int32)), (.ref b1), (.ref b1)])) rfl (hb hby at_25) ?_
  intro T8 X8 eT8
  show Goes p e below _ T8 (mkF m 28 #[.val (.int p1), .unset, .unset, .unset] [(.ref w3), (.int (3 : Int32)), (.ref b1), (.ref b1)])
  refine goStR 3 X8 hx hZ eT8 V1 Ov1 (Ins.self (c3.2.1.ext O0.2)) (by decide) (by decide) rfl (Nat.lt_of_lt_of_le (Nat.lt_succ_self _) (Nat.le_of_ble_eq_true rfl)) (g := (mkF m 28 #[.val (.int p1), .unset, .unset, .unset] [(.ref w3), (.int (3 : Int32)), (.ref b1), (.ref b1)])) rfl rfl (hb hby at_28) ?_
  intro T9 h9 X9 eT9 W9 V1
  have N9 := Fr.snoc X9 N7 g_b1
  have O0 := O0.wr W9 g_b1
  have V1 : Arv Z h9 b1 kA1 (.object "com/example/postpone/postpone/TaskStatus") (9 : Int32) [(.ref w0), (.ref w1), (.ref w2), (.ref w3), .null, .null, .null, .null, .null] .null := V1
  show Goes p e below _ T9 (mkF m 29 #[.val (.int p1), .unset, .unset, .unset] [(.ref b1)])
  refine Goes.of (fun _ => XS.dup X9.here hx rfl (hb hby at_29) rfl rfl) ?_
  show Goes p e below _ T9 (mkF m 30 #[.val (.int p1), .unset, .unset, .unset] [(.ref b1), (.ref b1)])
  refine Goes.of (fun _ => XS.iconst X9.here hx rfl (hb hby at_30)) ?_
  show Goes p e below _ T9 (mkF m 31 #[.val (.int p1), .unset, .unset, .unset] [(.int (4 : Int32)), (.ref b1), (.ref b1)])
  refine goGetS X9 hx hZ hown (host := "") (Or.inl (hw _ (List.mem_of_getElem? (i := 12) rfl))) Via.refl eT9 (c4.1.ext O0.2) (g := (mkF m 31 #[.val (.int p1), .unset, .unset, .unset] [(.int (4 : Int32)), (.ref b1), (.ref b1)])) rfl (hb hby at_31) ?_
  intro T10 X10 eT10
  show Goes p e below _ T10 (mkF m 34 #[.val (.int p1), .unset, .unset, .unset] [(.ref w4), (.int (4 : Int32)), (.ref b1), (.ref b1)])
  refine goStR 4 X10 hx hZ eT10 V1 Ov1 (Ins.self (c4.2.1.ext O0.2)) (by decide) (by decide) rfl (Nat.lt_of_lt_of_le (Nat.lt_succ_self _) (Nat.le_of_ble_eq_true rfl)) (g := (mkF m 34 #[.val (.int p1), .unset, .unset, .unset] [(.ref w4), (.int (4 : Int32)), (.ref b1), (.ref b1)])) rfl rfl (hb hby at_34) ?_
  intro T11 h11 X11 eT11 W11 V1
  have N11 := Fr.snoc X11 N9 g_b1
  have O0 := O0.wr W11 g_b1
  have V1 : Arv Z h11 b1 kA1 (.object "com/example/postpone/postpone/TaskStatus") (9 : Int32) [(.ref w0), (.ref w1), (.ref w2), (.ref w3), (.ref w4), .null, .null, .null, .null] .null := V1
  show Goes p e below _ T11 (mkF m 35 #[.val (.int p1), .unset, .unset, .unset] [(.ref b1)])
  refine Goes.of (fun _ => XS.dup X11.here hx rfl (hb hby at_35) rfl rfl) ?_
  show Goes p e below _ T11 (mkF m 36 #[.val (.int p1), .unset, .unset, .unset] [(.ref b1), (.ref b1)])
  refine Goes.of (fun _ => XS.iconst X11.here hx rfl (hb hby at_36)) ?_
  show Goes p e below _ T11 (mkF m 37 #[.val (.int p1), .unset, .unset, .unset] [(.int (5 : Int32)), (.ref b1), (.ref b1)])
  refine goGetS X11 hx hZ hown (host := "") (Or.inl (hw _ (List.mem_of_getElem? (i := 14) rfl))) Via.refl eT11 (c5.1.ext O0.2) (g := (mkF m 37 #[.val (.int p1), .unset, .unset, .unset] [(.int (5 : Int32)), (.ref b1), (.ref b1)])) rfl (hb hby at_37) ?_
  intro T12 X12 eT12
  show Goes p e below _ T12 (mkF m 40 #[.val (.int p1), .unset, .unset, .unset] [(.ref w5), (.int (5 : Int32)), (.ref b1), (.ref b1)])
  refine goStR 5 X12 hx hZ eT12 V1 Ov1 (Ins.self (c5.2.1.ext O0.2)) (by decide) (by decide) rfl (Nat.lt_of_lt_of_le (Nat.lt_succ_self _) (Nat.le_of_ble_eq_true rfl)) (g := (mkF m 40 #[.val (.int p1), .unset, .unset, .unset] [(.ref w5), (.int (5 : Int32)), (.ref b1), (.ref b1)])) rfl rfl (hb hby at_40) ?_
  intro T13 h13 X13 eT13 W13 V1
  have N13 := Fr.snoc X13 N11 g_b1
  have O0 := O0.wr W13 g_b1
  have V1 : Arv Z h13 b1 kA1 (.object "com/example/postpone/postpone/TaskStatus") (9 : Int32) [(.ref w0), (.ref w1), (.ref w2), (.ref w3), (.ref w4), (.ref w5), .null, .null, .null] .null := V1
  show Goes p e below _ T13 (mkF m 41 #[.val (.int p1), .unset, .unset, .unset] [(.ref b1)])
  refine Goes.of (fun _ => XS.dup X13.here hx rfl (hb hby at_41) rfl rfl) ?_
  show Goes p e below _ T13 (mkF m 42 #[.val (.int p1), .unset, .unset, .unset] [(.ref b1), (.ref b1)])
  refine Goes.of (fun _ => XS.bipush X13.here hx rfl (hb hby at_42)) ?_
  show Goes p e below _ T13 (mkF m 44 #[.val (.int p1), .unset, .unset, .unset] [(.int (6 : Int32)), (.ref b1), (.ref b1)])
  refine goGetS X13 hx hZ hown (host := "") (Or.inl (hw _ (List.mem_of_getElem? (i := 16) rfl))) Via.refl eT13 (c6.1.ext O0.2) (g := (mkF m 44 #[.val (.int p1), .unset, .unset, .unset] [(.int (6 : Int32)), (.ref b1), (.ref b1)])) rfl (hb hby at_44) ?_
  intro T14 X14 eT14
  show Goes p e below _ T14 (mkF m 47 #[.val (.int p1), .unset, .unset, .unset] [(.ref w6), (.int (6 : Int32)), (.ref b1), (.ref b1)])
  refine goStR 6 X14 hx hZ eT14 V1 Ov1 (Ins.self (c6.2.1.ext O0.2)) (by decide) (by decide) rfl (Nat.lt_of_lt_of_le (Nat.lt_succ_self _) (Nat.le_of_ble_eq_true rfl)) (g := (mkF m 47 #[.val (.int p1), .unset, .unset, .unset] [(.ref w6), (.int (6 : Int32)), (.ref b1), (.ref b1)])) rfl rfl (hb hby at_47) ?_
  intro T15 h15 X15 eT15 W15 V1
  have N15 := Fr.snoc X15 N13 g_b1
  have O0 := O0.wr W15 g_b1
  have V1 : Arv Z h15 b1 kA1 (.object "com/example/postpone/postpone/TaskStatus") (9 : Int32) [(.ref w0), (.ref w1), (.ref w2), (.ref w3), (.ref w4), (.ref w5), (.ref w6), .null, .null] .null := V1
  show Goes p e below _ T15 (mkF m 48 #[.val (.int p1), .unset, .unset, .unset] [(.ref b1)])
  refine Goes.of (fun _ => XS.dup X15.here hx rfl (hb hby at_48) rfl rfl) ?_
  show Goes p e below _ T15 (mkF m 49 #[.val (.int p1), .unset, .unset, .unset] [(.ref b1), (.ref b1)])
  refine Goes.of (fun _ => XS.bipush X15.here hx rfl (hb hby at_49)) ?_
  show Goes p e below _ T15 (mkF m 51 #[.val (.int p1), .unset, .unset, .unset] [(.int (7 : Int32)), (.ref b1), (.ref b1)])
  refine goGetS X15 hx hZ hown (host := "") (Or.inl (hw _ (List.mem_of_getElem? (i := 18) rfl))) Via.refl eT15 (c7.1.ext O0.2) (g := (mkF m 51 #[.val (.int p1), .unset, .unset, .unset] [(.int (7 : Int32)), (.ref b1), (.ref b1)])) rfl (hb hby at_51) ?_
  intro T16 X16 eT16
  show Goes p e below _ T16 (mkF m 54 #[.val (.int p1), .unset, .unset, .unset] [(.ref w7), (.int (7 : Int32)), (.ref b1), (.ref b1)])
  refine goStR 7 X16 hx hZ eT16 V1 Ov1 (Ins.self (c7.2.1.ext O0.2)) (by decide) (by decide) rfl (Nat.lt_of_lt_of_le (Nat.lt_succ_self _) (Nat.le_of_ble_eq_true rfl)) (g := (mkF m 54 #[.val (.int p1), .unset, .unset, .unset] [(.ref w7), (.int (7 : Int32)), (.ref b1), (.ref b1)])) rfl rfl (hb hby at_54) ?_
  intro T17 h17 X17 eT17 W17 V1
  have N17 := Fr.snoc X17 N15 g_b1
  have O0 := O0.wr W17 g_b1
  have V1 : Arv Z h17 b1 kA1 (.object "com/example/postpone/postpone/TaskStatus") (9 : Int32) [(.ref w0), (.ref w1), (.ref w2), (.ref w3), (.ref w4), (.ref w5), (.ref w6), (.ref w7), .null] .null := V1
  show Goes p e below _ T17 (mkF m 55 #[.val (.int p1), .unset, .unset, .unset] [(.ref b1)])
  refine Goes.of (fun _ => XS.dup X17.here hx rfl (hb hby at_55) rfl rfl) ?_
  show Goes p e below _ T17 (mkF m 56 #[.val (.int p1), .unset, .unset, .unset] [(.ref b1), (.ref b1)])
  refine Goes.of (fun _ => XS.bipush X17.here hx rfl (hb hby at_56)) ?_
  show Goes p e below _ T17 (mkF m 58 #[.val (.int p1), .unset, .unset, .unset] [(.int (8 : Int32)), (.ref b1), (.ref b1)])
  refine goGetS X17 hx hZ hown (host := "") (Or.inl (hw _ (List.mem_of_getElem? (i := 20) rfl))) Via.refl eT17 (c8.1.ext O0.2) (g := (mkF m 58 #[.val (.int p1), .unset, .unset, .unset] [(.int (8 : Int32)), (.ref b1), (.ref b1)])) rfl (hb hby at_58) ?_
  intro T18 X18 eT18
  show Goes p e below _ T18 (mkF m 61 #[.val (.int p1), .unset, .unset, .unset] [(.ref w8), (.int (8 : Int32)), (.ref b1), (.ref b1)])
  refine goStR 8 X18 hx hZ eT18 V1 Ov1 (Ins.self (c8.2.1.ext O0.2)) (by decide) (by decide) rfl (Nat.lt_of_lt_of_le (Nat.lt_succ_self _) (Nat.le_of_ble_eq_true rfl)) (g := (mkF m 61 #[.val (.int p1), .unset, .unset, .unset] [(.ref w8), (.int (8 : Int32)), (.ref b1), (.ref b1)])) rfl rfl (hb hby at_61) ?_
  intro T19 h19 X19 eT19 W19 V1
  have N19 := Fr.snoc X19 N17 g_b1
  have O0 := O0.wr W19 g_b1
  have V1 : Arv Z h19 b1 kA1 (.object "com/example/postpone/postpone/TaskStatus") (9 : Int32) [(.ref w0), (.ref w1), (.ref w2), (.ref w3), (.ref w4), (.ref w5), (.ref w6), (.ref w7), (.ref w8)] .null := V1
  show Goes p e below _ T19 (mkF m 62 #[.val (.int p1), .unset, .unset, .unset] [(.ref b1)])
  refine Goes.of (fun _ => XS.astoreN X19.here hx rfl (hb hby at_62) rfl rfl (l' := #[.val (.int p1), .val (.ref b1), .unset, .unset]) rfl) ?_
  show Goes p e below _ T19 (mkF m 63 #[.val (.int p1), .val (.ref b1), .unset, .unset] [])
  refine Goes.of (fun _ => XS.bipush X19.here hx rfl (hb hby at_63)) ?_
  show Goes p e below _ T19 (mkF m 65 #[.val (.int p1), .val (.ref b1), .unset, .unset] [(.int (9 : Int32))])
  refine goNewP 9 X19 hx hZ (hw _ (List.mem_of_getElem? (i := 22) rfl)) eT19 (g := (mkF m 65 #[.val (.int p1), .val (.ref b1), .unset, .unset] [(.int (9 : Int32))])) rfl (hb hby at_65) rfl (by decide) (by decide) (by decide) (by decide) (by decide) (ad := "[Z") (by first | rfl | decide) ?_
  intro T20 h20 b20 kA20 X20 eT20 E20 hb20 V20 A20
  have g_b20 : n0 ≤ b20 := Nat.le_trans (oldLe O0) hb20
  have ne_b1_b20 : b1 ≠ b20 := Nat.ne_of_lt (Nat.lt_of_lt_of_le V1.lt hb20)
  have V1 := V1.ext E20
  have O0 := O0.ext E20
  have V20 : Arv Z h20 b20 kA20 .boolean (9 : Int32) [(.int (0 : Int32)), (.int (0 : Int32)), (.int (0 : Int32)), (.int (0 : Int32)), (.int (0 : Int32)), (.int (0 : Int32)), (.int (0 : Int32)), (.int (0 : Int32)), (.int (0 : Int32))] (.int (0 : Int32)) := V20
  show Goes p e below _ T20 (mkF m 67 #[.val (.int p1), .val (.ref b1), .unset, .unset] [(.ref b20)])
  refine Goes.of (fun _ => XS.dup X20.here hx rfl (hb hby at_67) rfl rfl) ?_
  show Goes p e below _ T20 (mkF m 68 #[.val (.int p1), .val (.ref b1), .unset, .unset] [(.ref b20), (.ref b20)])
  refine Goes.of (fun _ => XS.iconst X20.here hx rfl (hb hby at_68)) ?_
  show Goes p e below _ T20 (mkF m 69 #[.val (.int p1), .val (.ref b1), .unset, .unset] [(.int (0 : Int32)), (.ref b20), (.ref b20)])
  refine Goes.of (fun _ => XS.iconst X20.here hx rfl (hb hby at_69)) ?_
  show Goes p e below _ T20 (mkF m 70 #[.val (.int p1), .val (.ref b1), .unset, .unset] [(.int (1 : Int32)), (.int (0 : Int32)), (.ref b20), (.ref b20)])
  refine goStZ 0 X20 hx hZ eT20 V20 (by decide) (by decide) rfl (Nat.lt_of_lt_of_le (Nat.lt_succ_self _) (Nat.le_of_ble_eq_true rfl)) (g := (mkF m 70 #[.val (.int p1), .val (.ref b1), .unset, .unset] [(.int (1 : Int32)), (.int (0 : Int32)), (.ref b20), (.ref b20)])) rfl rfl (hb hby at_70) ?_
  intro T21 h21 X21 eT21 W21 V20
  have N21 := Fr.snoc X21 N19 g_b20
  have V1 := V1.other W21 ne_b1_b20
  have A20 := A20.wr W21
  have O0 := O0.wr W21 g_b20
  have V20 : Arv Z h21 b20 kA20 .boolean (9 : Int32) [(.int (nar .boolean (1 : Int32))), (.int (0 : Int32)), (.int (0 : Int32)), (.int (0 : Int32)), (.int (0 : Int32)), (.int (0 : Int32)), (.int (0 : Int32)), (.int (0 : Int32)), (.int (0 : Int32))] (.int (0 : Int32)) := V20
  show Goes p e below _ T21 (mkF m 71 #[.val (.int p1), .val (.ref b1), .unset, .unset] [(.ref b20)])
  refine Goes.of (fun _ => XS.dup X21.here hx rfl (hb hby at_71) rfl rfl) ?_
  show Goes p e below _ T21 (mkF m 72 #[.val (.int p1), .val (.ref b1), .unset, .unset] [(.ref b20), (.ref b20)])
  refine Goes.of (fun _ => XS.iconst X21.here hx rfl (hb hby at_72)) ?_
  show Goes p e below _ T21 (mkF m 73 #[.val (.int p1), .val (.ref b1), .unset, .unset] [(.int (1 : Int32)), (.ref b20), (.ref b20)])
  refine Goes.of (fun _ => XS.iconst X21.here hx rfl (hb hby at_73)) ?_
  show Goes p e below _ T21 (mkF m 74 #[.val (.int p1), .val (.ref b1), .unset, .unset] [(.int (1 : Int32)), (.int (1 : Int32)), (.ref b20), (.ref b20)])
  refine goStZ 1 X21 hx hZ eT21 V20 (by decide) (by decide) rfl (Nat.lt_of_lt_of_le (Nat.lt_succ_self _) (Nat.le_of_ble_eq_true rfl)) (g := (mkF m 74 #[.val (.int p1), .val (.ref b1), .unset, .unset] [(.int (1 : Int32)), (.int (1 : Int32)), (.ref b20), (.ref b20)])) rfl rfl (hb hby at_74) ?_
  intro T22 h22 X22 eT22 W22 V20
  have N22 := Fr.snoc X22 N21 g_b20
  have V1 := V1.other W22 ne_b1_b20
  have A20 := A20.wr W22
  have O0 := O0.wr W22 g_b20
  have V20 : Arv Z h22 b20 kA20 .boolean (9 : Int32) [(.int (nar .boolean (1 : Int32))), (.int (nar .boolean (1 : Int32))), (.int (0 : Int32)), (.int (0 : Int32)), (.int (0 : Int32)), (.int (0 : Int32)), (.int (0 : Int32)), (.int (0 : Int32)), (.int (0 : Int32))] (.int (0 : Int32)) := V20
  show Goes p e below _ T22 (mkF m 75 #[.val (.int p1), .val (.ref b1), .unset, .unset] [(.ref b20)])
  refine Goes.of (fun _ => XS.dup X22.here hx rfl (hb hby at_75) rfl rfl) ?_
  show Goes p e below _ T22 (mkF m 76 #[.val (.int p1), .val (.ref b1), .unset, .unset] [(.ref b20), (.ref b20)])
  refine Goes.of (fun _ => XS.iconst X22.here hx rfl (hb hby at_76)) ?_
  show Goes p e below _ T22 (mkF m 77 #[.val (.int p1), .val (.ref b1), .unset, .unset] [(.int (2 : Int32)), (.ref b20), (.ref b20)])
  refine Goes.of (fun _ => XS.iconst X22.here hx rfl (hb hby at_77)) ?_
  show Goes p e below _ T22 (mkF m 78 #[.val (.int p1), .val (.ref b1), .unset, .unset] [(.int (0 : Int32)), (.int (2 : Int32)), (.ref b20), (.ref b20)])
  refine goStZ 2 X22 hx hZ eT22 V20 (by decide) (by decide) rfl (Nat.lt_of_lt_of_le (Nat.lt_succ_self _) (Nat.le_of_ble_eq_true rfl)) (g := (mkF m 78 #[.val (.int p1), .val (.ref b1), .unset, .unset] [(.int (0 : Int32)), (.int (2 : Int32)), (.ref b20), (.ref b20)])) rfl rfl (hb hby at_78) ?_
  intro T23 h23 X23 eT23 W23 V20
  have N23 := Fr.snoc X23 N22 g_b20
  have V1 := V1.other W23 ne_b1_b20
  have A20 := A20.wr W23
  have O0 := O0.wr W23 g_b20
  have V20 : Arv Z h23 b20 kA20 .boolean (9 : Int32) [(.int (nar .boolean (1 : Int32))), (.int (nar .boolean (1 : Int32))), (.int (nar .boolean (0 : Int32))), (.int (0 : Int32)), (.int (0 : Int32)), (.int (0 : Int32)), (.int (0 : Int32)), (.int (0 : Int32)), (.int (0 : Int32))] (.int (0 : Int32)) := V20
  show Goes p e below _ T23 (mkF m 79 #[.val (.int p1), .val (.ref b1), .unset, .unset] [(.ref b20)])
  refine Goes.of (fun _ => XS.dup X23.here hx rfl (hb hby at_79) rfl rfl) ?_
  show Goes p e below _ T23 (mkF m 80 #[.val (.int p1), .val (.ref b1), .unset, .unset] [(.ref b20), (.ref b20)])
  refine Goes.of (fun _ => XS.iconst X23.here hx rfl (hb hby at_80)) ?_
  show Goes p e below _ T23 (mkF m 81 #[.val (.int p1), .val (.ref b1), .unset, .unset] [(.int (3 : Int32)), (.ref b20), (.ref b20)])
  refine Goes.of (fun _ => XS.iconst X23.here hx rfl (hb hby at_81)) ?_
  show Goes p e below _ T23 (mkF m 82 #[.val (.int p1), .val (.ref b1), .unset, .unset] [(.int (0 : Int32)), (.int (3 : Int32)), (.ref b20), (.ref b20)])
  refine goStZ 3 X23 hx hZ eT23 V20 (by decide) (by decide) rfl (Nat.lt_of_lt_of_le (Nat.lt_succ_self _) (Nat.le_of_ble_eq_true rfl)) (g := (mkF m 82 #[.val (.int p1), .val (.ref b1), .unset, .unset] [(.int (0 : Int32)), (.int (3 : Int32)), (.ref b20), (.ref b20)])) rfl rfl (hb hby at_82) ?_
  intro T24 h24 X24 eT24 W24 V20
  have N24 := Fr.snoc X24 N23 g_b20
  have V1 := V1.other W24 ne_b1_b20
  have A20 := A20.wr W24
  have O0 := O0.wr W24 g_b20
  have V20 : Arv Z h24 b20 kA20 .boolean (9 : Int32) [(.int (nar .boolean (1 : Int32))), (.int (nar .boolean (1 : Int32))), (.int (nar .boolean (0 : Int32))), (.int (nar .boolean (0 : Int32))), (.int (0 : Int32)), (.int (0 : Int32)), (.int (0 : Int32)), (.int (0 : Int32)), (.int (0 : Int32))] (.int (0 : Int32)) := V20
  show Goes p e below _ T24 (mkF m 83 #[.val (.int p1), .val (.ref b1), .unset, .unset] [(.ref b20)])
  refine Goes.of (fun _ => XS.dup X24.here hx rfl (hb hby at_83) rfl rfl) ?_
  show Goes p e below _ T24 (mkF m 84 #[.val (.int p1), .val (.ref b1), .unset, .unset] [(.ref b20), (.ref b20)])
  refine Goes.of (fun _ => XS.iconst X24.here hx rfl (hb hby at_84)) ?_
  show Goes p e below _ T24 (mkF m 85 #[.val (.int p1), .val (.ref b1), .unset, .unset] [(.int (4 : Int32)), (.ref b20), (.ref b20)])
  refine Goes.of (fun _ => XS.iconst X24.here hx rfl (hb hby at_85)) ?_
  show Goes p e below _ T24 (mkF m 86 #[.val (.int p1), .val (.ref b1), .unset, .unset] [(.int (0 : Int32)), (.int (4 : Int32)), (.ref b20), (.ref b20)])
  refine goStZ 4 X24 hx hZ eT24 V20 (by decide) (by decide) rfl (Nat.lt_of_lt_of_le (Nat.lt_succ_self _) (Nat.le_of_ble_eq_true rfl)) (g := (mkF m 86 #[.val (.int p1), .val (.ref b1), .unset, .unset] [(.int (0 : Int32)), (.int (4 : Int32)), (.ref b20), (.ref b20)])) rfl rfl (hb hby at_86) ?_
  intro T25 h25 X25 eT25 W25 V20
  have N25 := Fr.snoc X25 N24 g_b20
  have V1 := V1.other W25 ne_b1_b20
  have A20 := A20.wr W25
  have O0 := O0.wr W25 g_b20
  have V20 : Arv Z h25 b20 kA20 .boolean (9 : Int32) [(.int (nar .boolean (1 : Int32))), (.int (nar .boolean (1 : Int32))), (.int (nar .boolean (0 : Int32))), (.int (nar .boolean (0 : Int32))), (.int (nar .boolean (0 : Int32))), (.int (0 : Int32)), (.int (0 : Int32)), (.int (0 : Int32)), (.int (0 : Int32))] (.int (0 : Int32)) := V20
  show Goes p e below _ T25 (mkF m 87 #[.val (.int p1), .val (.ref b1), .unset, .unset] [(.ref b20)])
  refine Goes.of (fun _ => XS.dup X25.here hx rfl (hb hby at_87) rfl rfl) ?_
  show Goes p e below _ T25 (mkF m 88 #[.val (.int p1), .val (.ref b1), .unset, .unset] [(.ref b20), (.ref b20)])
  refine Goes.of (fun _ => XS.iconst X25.here hx rfl (hb hby at_88)) ?_
  show Goes p e below _ T25 (mkF m 89 #[.val (.int p1), .val (.ref b1), .unset, .unset] [(.int (5 : Int32)), (.ref b20), (.ref b20)])
  refine Goes.of (fun _ => XS.iconst X25.here hx rfl (hb hby at_89)) ?_
  show Goes p e below _ T25 (mkF m 90 #[.val (.int p1), .val (.ref b1), .unset, .unset] [(.int (1 : Int32)), (.int (5 : Int32)), (.ref b20), (.ref b20)])
  refine goStZ 5 X25 hx hZ eT25 V20 (by decide) (by decide) rfl (Nat.lt_of_lt_of_le (Nat.lt_succ_self _) (Nat.le_of_ble_eq_true rfl)) (g := (mkF m 90 #[.val (.int p1), .val (.ref b1), .unset, .unset] [(.int (1 : Int32)), (.int (5 : Int32)), (.ref b20), (.ref b20)])) rfl rfl (hb hby at_90) ?_
  intro T26 h26 X26 eT26 W26 V20
  have N26 := Fr.snoc X26 N25 g_b20
  have V1 := V1.other W26 ne_b1_b20
  have A20 := A20.wr W26
  have O0 := O0.wr W26 g_b20
  have V20 : Arv Z h26 b20 kA20 .boolean (9 : Int32) [(.int (nar .boolean (1 : Int32))), (.int (nar .boolean (1 : Int32))), (.int (nar .boolean (0 : Int32))), (.int (nar .boolean (0 : Int32))), (.int (nar .boolean (0 : Int32))), (.int (nar .boolean (1 : Int32))), (.int (0 : Int32)), (.int (0 : Int32)), (.int (0 : Int32))] (.int (0 : Int32)) := V20
  show Goes p e below _ T26 (mkF m 91 #[.val (.int p1), .val (.ref b1), .unset, .unset] [(.ref b20)])
  refine Goes.of (fun _ => XS.dup X26.here hx rfl (hb hby at_91) rfl rfl) ?_
  show Goes p e below _ T26 (mkF m 92 #[.val (.int p1), .val (.ref b1), .unset, .unset] [(.ref b20), (.ref b20)])
  refine Goes.of (fun _ => XS.bipush X26.here hx rfl (hb hby at_92)) ?_
  show Goes p e below _ T26 (mkF m 94 #[.val (.int p1), .val (.ref b1), .unset, .unset] [(.int (6 : Int32)), (.ref b20), (.ref b20)])
  refine Goes.of (fun _ => XS.iconst X26.here hx rfl (hb hby at_94)) ?_
  show Goes p e below _ T26 (mkF m 95 #[.val (.int p1), .val (.ref b1), .unset, .unset] [(.int (0 : Int32)), (.int (6 : Int32)), (.ref b20), (.ref b20)])
  refine goStZ 6 X26 hx hZ eT26 V20 (by decide) (by decide) rfl (Nat.lt_of_lt_of_le (Nat.lt_succ_self _) (Nat.le_of_ble_eq_true rfl)) (g := (mkF m 95 #[.val (.int p1), .val (.ref b1), .unset, .unset] [(.int (0 : Int32)), (.int (6 : Int32)), (.ref b20), (.ref b20)])) rfl rfl (hb hby at_95) ?_
  intro T27 h27 X27 eT27 W27 V20
  have N27 := Fr.snoc X27 N26 g_b20
  have V1 := V1.other W27 ne_b1_b20
  have A20 := A20.wr W27
  have O0 := O0.wr W27 g_b20
  have V20 : Arv Z h27 b20 kA20 .boolean (9 : Int32) [(.int (nar .boolean (1 : Int32))), (.int (nar .boolean (1 : Int32))), (.int (nar .boolean (0 : Int32))), (.int (nar .boolean (0 : Int32))), (.int (nar .boolean (0 : Int32))), (.int (nar .boolean (1 : Int32))), (.int (nar .boolean (0 : Int32))), (.int (0 : Int32)), (.int (0 : Int32))] (.int (0 : Int32)) := V20
  show Goes p e below _ T27 (mkF m 96 #[.val (.int p1), .val (.ref b1), .unset, .unset] [(.ref b20)])
  refine Goes.of (fun _ => XS.dup X27.here hx rfl (hb hby at_96) rfl rfl) ?_
  show Goes p e below _ T27 (mkF m 97 #[.val (.int p1), .val (.ref b1), .unset, .unset] [(.ref b20), (.ref b20)])
  refine Goes.of (fun _ => XS.bipush X27.here hx rfl (hb hby at_97)) ?_
  show Goes p e below _ T27 (mkF m 99 #[.val (.int p1), .val (.ref b1), .unset, .unset] [(.int (7 : Int32)), (.ref b20), (.ref b20)])
  refine Goes.of (fun _ => XS.iconst X27.here hx rfl (hb hby at_99)) ?_
  show Goes p e below _ T27 (mkF m 100 #[.val (.int p1), .val (.ref b1), .unset, .unset] [(.int (0 : Int32)), (.int (7 : Int32)), (.ref b20), (.ref b20)])
  refine goStZ 7 X27 hx hZ eT27 V20 (by decide) (by decide) rfl (Nat.lt_of_lt_of_le (Nat.lt_succ_self _) (Nat.le_of_ble_eq_true rfl)) (g := (mkF m 100 #[.val (.int p1), .val (.ref b1), .unset, .unset] [(.int (0 : Int32)), (.int (7 : Int32)), (.ref b20), (.ref b20)])) rfl rfl (hb hby at_100) ?_
  intro T28 h28 X28 eT28 W28 V20
  have N28 := Fr.snoc X28 N27 g_b20
  have V1 := V1.other W28 ne_b1_b20
  have A20 := A20.wr W28
  have O0 := O0.wr W28 g_b20
  have V20 : Arv Z h28 b20 kA20 .boolean (9 : Int32) [(.int (nar .boolean (1 : Int32))), (.int (nar .boolean (1 : Int32))), (.int (nar .boolean (0 : Int32))), (.int (nar .boolean (0 : Int32))), (.int (nar .boolean (0 : Int32))), (.int (nar .boolean (1 : Int32))), (.int (nar .boolean (0 : Int32))), (.int (nar .boolean (0 : Int32))), (.int (0 : Int32))] (.int (0 : Int32)) := V20
  show Goes p e below _ T28 (mkF m 101 #[.val (.int p1), .val (.ref b1), .unset, .unset] [(.ref b20)])
  refine Goes.of (fun _ => XS.dup X28.here hx rfl (hb hby at_101) rfl rfl) ?_
  show Goes p e below _ T28 (mkF m 102 #[.val (.int p1), .val (.ref b1), .unset, .unset] [(.ref b20), (.ref b20)])
  refine Goes.of (fun _ => XS.bipush X28.here hx rfl (hb hby at_102)) ?_
  show Goes p e below _ T28 (mkF m 104 #[.val (.int p1), .val (.ref b1), .unset, .unset] [(.int (8 : Int32)), (.ref b20), (.ref b20)])
  refine Goes.of (fun _ => XS.iconst X28.here hx rfl (hb hby at_104)) ?_
  show Goes p e below _ T28 (mkF m 105 #[.val (.int p1), .val (.ref b1), .unset, .unset] [(.int (0 : Int32)), (.int (8 : Int32)), (.ref b20), (.ref b20)])
  refine goStZ 8 X28 hx hZ eT28 V20 (by decide) (by decide) rfl (Nat.lt_of_lt_of_le (Nat.lt_succ_self _) (Nat.le_of_ble_eq_true rfl)) (g := (mkF m 105 #[.val (.int p1), .val (.ref b1), .unset, .unset] [(.int (0 : Int32)), (.int (8 : Int32)), (.ref b20), (.ref b20)])) rfl rfl (hb hby at_105) ?_
  intro T29 h29 X29 eT29 W29 V20
  have N29 := Fr.snoc X29 N28 g_b20
  have V1 := V1.other W29 ne_b1_b20
  have A20 := A20.wr W29
  have O0 := O0.wr W29 g_b20
  have V20 : Arv Z h29 b20 kA20 .boolean (9 : Int32) [(.int (nar .boolean (1 : Int32))), (.int (nar .boolean (1 : Int32))), (.int (nar .boolean (0 : Int32))), (.int (nar .boolean (0 : Int32))), (.int (nar .boolean (0 : Int32))), (.int (nar .boolean (1 : Int32))), (.int (nar .boolean (0 : Int32))), (.int (nar .boolean (0 : Int32))), (.int (nar .boolean (0 : Int32)))] (.int (0 : Int32)) := V20
  show Goes p e below _ T29 (mkF m 106 #[.val (.int p1), .val (.ref b1), .unset, .unset] [(.ref b20)])
  refine Goes.of (fun _ => XS.astoreN X29.here hx rfl (hb hby at_106) rfl rfl (l' := #[.val (.int p1), .val (.ref b1), .val (.ref b20), .unset]) rfl) ?_
  show Goes p e below _ T29 (mkF m 107 #[.val (.int p1), .val (.ref b1), .val (.ref b20), .unset] [])
  refine Goes.of (fun _ => XS.iloadN X29.here hx rfl (hb hby at_107) rfl) ?_
  show Goes p e below _ T29 (mkF m 108 #[.val (.int p1), .val (.ref b1), .val (.ref b20), .unset] [(.int p1)])
  refine Goes.of (fun _ => X29.ldcInt hx hown (mvT hZ (hw _ (List.mem_of_getElem? (i := 23) rfl))) (g := (mkF m 108 #[.val (.int p1), .val (.ref b1), .val (.ref b20), .unset] [(.int p1)])) rfl (hb hby at_108) _) ?_
  show Goes p e below _ T29 (mkF m 110 #[.val (.int p1), .val (.ref b1), .val (.ref b20), .unset] [(.int (2147483647 : Int32)), (.int p1)])
  refine Goes.of (fun _ => XS.iand X29.here hx rfl (hb hby at_110) rfl) ?_
  show Goes p e below _ T29 (mkF m 111 #[.val (.int p1), .val (.ref b1), .val (.ref b20), .unset] [(.int (p1 &&& (2147483647 : Int32)))])
  refine Goes.of (fun _ => XS.bipush X29.here hx rfl (hb hby at_111)) ?_
  show Goes p e below _ T29 (mkF m 113 #[.val (.int p1), .val (.ref b1), .val (.ref b20), .unset] [(.int (9 : Int32)), (.int (p1 &&& (2147483647 : Int32)))])
  refine Goes.of (fun _ => XS.irem X29.here hx rfl (hb hby at_113) rfl (by decide)) ?_
  show Goes p e below _ T29 (mkF m 114 #[.val (.int p1), .val (.ref b1), .val (.ref b20), .unset] [(.int ((p1 &&& (2147483647 : Int32)) - ((p1 &&& (2147483647 : Int32)) / (9 : Int32)) * (9 : Int32)))])
  refine Goes.of (fun _ => XS.istoreN X29.here hx rfl (hb hby at_114) rfl (l' := #[.val (.int p1), .val (.ref b1), .val (.ref b20), .val (.int ((p1 &&& (2147483647 : Int32)) - ((p1 &&& (2147483647 : Int32)) / (9 : Int32)) * (9 : Int32)))]) rfl) ?_
  show Goes p e below _ T29 (mkF m 115 #[.val (.int p1), .val (.ref b1), .val (.ref b20), .val (.int ((p1 &&& (2147483647 : Int32)) - ((p1 &&& (2147483647 : Int32)) / (9 : Int32)) * (9 : Int32)))] [])
  generalize hk : ((p1 &&& (2147483647 : Int32)) - ((p1 &&& (2147483647 : Int32)) / (9 : Int32)) * (9 : Int32)) = k
  show Goes p e below _ T29 (mkF m 115 #[.val (.int p1), .val (.ref b1), .val (.ref b20), .val (.int k)] [])
  have hk9 := c9 k (by rw [← hk, rem31 _ _ (k := 9) rfl]; omega) (by rw [← hk, rem31 _ _ (k := 9) rfl]; omega)
  rcases hk9 with rfl | rfl | rfl | rfl | rfl | rfl | rfl | rfl | rfl
  · show Goes p e below _ T29 (mkF m 115 #[.val (.int p1), .val (.ref b1), .val (.ref b20), .val (.int (0 : Int32))] [])
    refine Goes.of (fun _ => XS.aloadN X29.here hx rfl (hb hby at_115) rfl rfl) ?_
    show Goes p e below _ T29 (mkF m 116 #[.val (.int p1), .val (.ref b1), .val (.ref b20), .val (.int (0 : Int32))] [(.ref b1)])
    refine Goes.of (fun _ => XS.iloadN X29.here hx rfl (hb hby at_116) rfl) ?_
    show Goes p e below _ T29 (mkF m 117 #[.val (.int p1), .val (.ref b1), .val (.ref b20), .val (.int (0 : Int32))] [(.int (0 : Int32)), (.ref b1)])
    refine goLdR (.ref w0) X29 hx hZ eT29 V1 (by decide) (by decide) rfl (g := (mkF m 117 #[.val (.int p1), .val (.ref b1), .val (.ref b20), .val (.int (0 : Int32))] [(.int (0 : Int32)), (.ref b1)])) rfl rfl (hb hby at_117) ?_
    show Goes p e below _ T29 (mkF m 118 #[.val (.int p1), .val (.ref b1), .val (.ref b20), .val (.int (0 : Int32))] [(.ref w0)])
    refine goVirtual 0 X29 hx hZ hown (hw _ (List.mem_of_getElem? (i := 24) rfl)) (hw _ (List.mem_of_getElem? (i := 25) rfl)) (notFace_of_selects (args := #[]) (mvT hZ (hw _ (List.mem_of_getElem? (i := 27) rfl)))) (hw _ (List.mem_of_getElem? (i := 27) rfl)) (hw _ (List.mem_of_getElem? (i := 26) rfl)) (hw _ (List.mem_of_getElem? (i := 3) rfl)) (hw _ (List.mem_of_getElem? (i := 28) rfl)) (by decide) (rm_wait l Z a0 hw w0 w0 w1 w5 h29 n0 O0 c0 c1 c5) eT29 (c0.2.1.ext O0.2) (g := (mkF m 118 #[.val (.int p1), .val (.ref b1), .val (.ref b20), .val (.int (0 : Int32))] [(.ref w0)])) rfl (by rw [hml]; rfl) [] [] (lenOf pd___Z rfl) rfl rfl (by show 2 * 0 + _ ≤ _; exact Nat.le_of_eq rfl) (hb hby at_118) (by decide) (by decide) (by decide) (by decide) ?_
    intro v31 T31 L31 X31 q31
    obtain ⟨rfl, Nq31, eT31⟩ := q31
    have N31 := Fr.app N29 Nq31
    show Goes p e below _ T31 (mkF m 121 #[.val (.int p1), .val (.ref b1), .val (.ref b20), .val (.int (0 : Int32))] [(.int (if w0 = w0 then (1 : Int32) else if w0 = w1 then (1 : Int32) else if w0 = w5 then (1 : Int32) else (0 : Int32)))])
    refine Goes.of (fun _ => XS.aloadN X31.here hx rfl (hb hby at_121) rfl rfl) ?_
    show Goes p e below _ T31 (mkF m 122 #[.val (.int p1), .val (.ref b1), .val (.ref b20), .val (.int (0 : Int32))] [(.ref b20), (.int (if w0 = w0 then (1 : Int32) else if w0 = w1 then (1 : Int32) else if w0 = w5 then (1 : Int32) else (0 : Int32)))])
    refine Goes.of (fun _ => XS.iloadN X31.here hx rfl (hb hby at_122) rfl) ?_
    show Goes p e below _ T31 (mkF m 123 #[.val (.int p1), .val (.ref b1), .val (.ref b20), .val (.int (0 : Int32))] [(.int (0 : Int32)), (.ref b20), (.int (if w0 = w0 then (1 : Int32) else if w0 = w1 then (1 : Int32) else if w0 = w5 then (1 : Int32) else (0 : Int32)))])
    refine goLdZ (.int (nar .boolean (1 : Int32))) X31 hx hZ eT31 V20 (by decide) (by decide) rfl (g := (mkF m 123 #[.val (.int p1), .val (.ref b1), .val (.ref b20), .val (.int (0 : Int32))] [(.int (0 : Int32)), (.ref b20), (.int (if w0 = w0 then (1 : Int32) else if w0 = w1 then (1 : Int32) else if w0 = w5 then (1 : Int32) else (0 : Int32)))])) rfl rfl (hb hby at_123) ?_
    show Goes p e below _ T31 (mkF m 124 #[.val (.int p1), .val (.ref b1), .val (.ref b20), .val (.int (0 : Int32))] [(.int (nar .boolean (1 : Int32))), (.int (if w0 = w0 then (1 : Int32) else if w0 = w1 then (1 : Int32) else if w0 = w5 then (1 : Int32) else (0 : Int32)))])
    refine Goes.of (fun _ => XS.icmpNo X31.here hx rfl (hb hby at_124) rfl (teq (by rw [if_pos rfl]; try rfl)).2) ?_
    show Goes p e below _ T31 (mkF m 127 #[.val (.int p1), .val (.ref b1), .val (.ref b20), .val (.int (0 : Int32))] [])
    refine Goes.of (fun _ => XS.iconst X31.here hx rfl (hb hby at_127)) ?_
    show Goes p e below _ T31 (mkF m 128 #[.val (.int p1), .val (.ref b1), .val (.ref b20), .val (.int (0 : Int32))] [(.int (1 : Int32))])
    refine Goes.of (fun _ => XS.goto X31.here hx rfl (pc0 := 128) (pc' := 132) rfl (hb hby at_128) (by decide) (by decide)) ?_
    show Goes p e below _ T31 (mkF m 132 #[.val (.int p1), .val (.ref b1), .val (.ref b20), .val (.int (0 : Int32))] [(.int (1 : Int32))])
    exact retZ (t := .boolean) X31 hx hret hlk (by simp) (hb hby at_132) eT31 (by decide) (by decide) ⟨rfl, N31⟩
  · show Goes p e below _ T29 (mkF m 115 #[.val (.int p1), .val (.ref b1), .val (.ref b20), .val (.int (1 : Int32))] [])
    refine Goes.of (fun _ => XS.aloadN X29.here hx rfl (hb hby at_115) rfl rfl) ?_
    show Goes p e below _ T29 (mkF m 116 #[.val (.int p1), .val (.ref b1), .val (.ref b20), .val (.int (1 : Int32))] [(.ref b1)])
    refine Goes.of (fun _ => XS.iloadN X29.here hx rfl (hb hby at_116) rfl) ?_
    show Goes p e below _ T29 (mkF m 117 #[.val (.int p1), .val (.ref b1), .val (.ref b20), .val (.int (1 : Int32))] [(.int (1 : Int32)), (.ref b1)])
    refine goLdR (.ref w1) X29 hx hZ eT29 V1 (by decide) (by decide) rfl (g := (mkF m 117 #[.val (.int p1), .val (.ref b1), .val (.ref b20), .val (.int (1 : Int32))] [(.int (1 : Int32)), (.ref b1)])) rfl rfl (hb hby at_117) ?_
    show Goes p e below _ T29 (mkF m 118 #[.val (.int p1), .val (.ref b1), .val (.ref b20), .val (.int (1 : Int32))] [(.ref w1)])
    refine goVirtual 0 X29 hx hZ hown (hw _ (List.mem_of_getElem? (i := 24) rfl)) (hw _ (List.mem_of_getElem? (i := 25) rfl)) (notFace_of_selects (args := #[]) (mvT hZ (hw _ (List.mem_of_getElem? (i := 27) rfl)))) (hw _ (List.mem_of_getElem? (i := 27) rfl)) (hw _ (List.mem_of_getElem? (i := 26) rfl)) (hw _ (List.mem_of_getElem? (i := 3) rfl)) (hw _ (List.mem_of_getElem? (i := 28) rfl)) (by decide) (rm_wait l Z a0 hw w1 w0 w1 w5 h29 n0 O0 c0 c1 c5) eT29 (c1.2.1.ext O0.2) (g := (mkF m 118 #[.val (.int p1), .val (.ref b1), .val (.ref b20), .val (.int (1 : Int32))] [(.ref w1)])) rfl (by rw [hml]; rfl) [] [] (lenOf pd___Z rfl) rfl rfl (by show 2 * 0 + _ ≤ _; exact Nat.le_of_eq rfl) (hb hby at_118) (by decide) (by decide) (by decide) (by decide) ?_
    intro v34 T34 L34 X34 q34
    obtain ⟨rfl, Nq34, eT34⟩ := q34
    have N34 := Fr.app N29 Nq34
    show Goes p e below _ T34 (mkF m 121 #[.val (.int p1), .val (.ref b1), .val (.ref b20), .val (.int (1 : Int32))] [(.int (if w1 = w0 then (1 : Int32) else if w1 = w1 then (1 : Int32) else if w1 = w5 then (1 : Int32) else (0 : Int32)))])
    refine Goes.of (fun _ => XS.aloadN X34.here hx rfl (hb hby at_121) rfl rfl) ?_
    show Goes p e below _ T34 (mkF m 122 #[.val (.int p1), .val (.ref b1), .val (.ref b20), .val (.int (1 : Int32))] [(.ref b20), (.int (if w1 = w0 then (1 : Int32) else if w1 = w1 then (1 : Int32) else if w1 = w5 then (1 : Int32) else (0 : Int32)))])
    refine Goes.of (fun _ => XS.iloadN X34.here hx rfl (hb hby at_122) rfl) ?_
    show Goes p e below _ T34 (mkF m 123 #[.val (.int p1), .val (.ref b1), .val (.ref b20), .val (.int (1 : Int32))] [(.int (1 : Int32)), (.ref b20), (.int (if w1 = w0 then (1 : Int32) else if w1 = w1 then (1 : Int32) else if w1 = w5 then (1 : Int32) else (0 : Int32)))])
    refine goLdZ (.int (nar .boolean (1 : Int32))) X34 hx hZ eT34 V20 (by decide) (by decide) rfl (g := (mkF m 123 #[.val (.int p1), .val (.ref b1), .val (.ref b20), .val (.int (1 : Int32))] [(.int (1 : Int32)), (.ref b20), (.int (if w1 = w0 then (1 : Int32) else if w1 = w1 then (1 : Int32) else if w1 = w5 then (1 : Int32) else (0 : Int32)))])) rfl rfl (hb hby at_123) ?_
    show Goes p e below _ T34 (mkF m 124 #[.val (.int p1), .val (.ref b1), .val (.ref b20), .val (.int (1 : Int32))] [(.int (nar .boolean (1 : Int32))), (.int (if w1 = w0 then (1 : Int32) else if w1 = w1 then (1 : Int32) else if w1 = w5 then (1 : Int32) else (0 : Int32)))])
    refine Goes.of (fun _ => XS.icmpNo X34.here hx rfl (hb hby at_124) rfl (teq (by rw [if_neg (c1.ne c0 (by decide)), if_pos rfl]; try rfl)).2) ?_
    show Goes p e below _ T34 (mkF m 127 #[.val (.int p1), .val (.ref b1), .val (.ref b20), .val (.int (1 : Int32))] [])
    refine Goes.of (fun _ => XS.iconst X34.here hx rfl (hb hby at_127)) ?_
    show Goes p e below _ T34 (mkF m 128 #[.val (.int p1), .val (.ref b1), .val (.ref b20), .val (.int (1 : Int32))] [(.int (1 : Int32))])
    refine Goes.of (fun _ => XS.goto X34.here hx rfl (pc0 := 128) (pc' := 132) rfl (hb hby at_128) (by decide) (by decide)) ?_
    show Goes p e below _ T34 (mkF m 132 #[.val (.int p1), .val (.ref b1), .val (.ref b20), .val (.int (1 : Int32))] [(.int (1 : Int32))])
    exact retZ (t := .boolean) X34 hx hret hlk (by simp) (hb hby at_132) eT34 (by decide) (by decide) ⟨rfl, N34⟩
  · show Goes p e below _ T29 (mkF m 115 #[.val (.int p1), .val (.ref b1), .val (.ref b20), .val (.int (2 : Int32))] [])
    refine Goes.of (fun _ => XS.aloadN X29.here hx rfl (hb hby at_115) rfl rfl) ?_
    show Goes p e below _ T29 (mkF m 116 #[.val (.int p1), .val (.ref b1), .val (.ref b20), .val (.int (2 : Int32))] [(.ref b1)])
    refine Goes.of (fun _ => XS.iloadN X29.here hx rfl (hb hby at_116) rfl) ?_
    show Goes p e below _ T29 (mkF m 117 #[.val (.int p1), .val (.ref b1), .val (.ref b20), .val (.int (2 : Int32))] [(.int (2 : Int32)), (.ref b1)])
    refine goLdR (.ref w2) X29 hx hZ eT29 V1 (by decide) (by decide) rfl (g := (mkF m 117 #[.val (.int p1), .val (.ref b1), .val (.ref b20), .val (.int (2 : Int32))] [(.int (2 : Int32)), (.ref b1)])) rfl rfl (hb hby at_117) ?_
    show Goes p e below _ T29 (mkF m 118 #[.val (.int p1), .val (.ref b1), .val (.ref b20), .val (.int (2 : Int32))] [(.ref w2)])
    refine goVirtual 0 X29 hx hZ hown (hw _ (List.mem_of_getElem? (i := 24) rfl)) (hw _ (List.mem_of_getElem? (i := 25) rfl)) (notFace_of_selects (args := #[]) (mvT hZ (hw _ (List.mem_of_getElem? (i := 27) rfl)))) (hw _ (List.mem_of_getElem? (i := 27) rfl)) (hw _ (List.mem_of_getElem? (i := 26) rfl)) (hw _ (List.mem_of_getElem? (i := 3) rfl)) (hw _ (List.mem_of_getElem? (i := 28) rfl)) (by decide) (rm_wait l Z a0 hw w2 w0 w1 w5 h29 n0 O0 c0 c1 c5) eT29 (c2.2.1.ext O0.2) (g := (mkF m 118 #[.val (.int p1), .val (.ref b1), .val (.ref b20), .val (.int (2 : Int32))] [(.ref w2)])) rfl (by rw [hml]; rfl) [] [] (lenOf pd___Z rfl) rfl rfl (by show 2 * 0 + _ ≤ _; exact Nat.le_of_eq rfl) (hb hby at_118) (by decide) (by decide) (by decide) (by decide) ?_
    intro v37 T37 L37 X37 q37
    obtain ⟨rfl, Nq37, eT37⟩ := q37
    have N37 := Fr.app N29 Nq37
    show Goes p e below _ T37 (mkF m 121 #[.val (.int p1), .val (.ref b1), .val (.ref b20), .val (.int (2 : Int32))] [(.int (if w2 = w0 then (1 : Int32) else if w2 = w1 then (1 : Int32) else if w2 = w5 then (1 : Int32) else (0 : Int32)))])
    refine Goes.of (fun _ => XS.aloadN X37.here hx rfl (hb hby at_121) rfl rfl) ?_
    show Goes p e below _ T37 (mkF m 122 #[.val (.int p1), .val (.ref b1), .val (.ref b20), .val (.int (2 : Int32))] [(.ref b20), (.int (if w2 = w0 then (1 : Int32) else if w2 = w1 then (1 : Int32) else if w2 = w5 then (1 : Int32) else (0 : Int32)))])
    refine Goes.of (fun _ => XS.iloadN X37.here hx rfl (hb hby at_122) rfl) ?_
    show Goes p e below _ T37 (mkF m 123 #[.val (.int p1), .val (.ref b1), .val (.ref b20), .val (.int (2 : Int32))] [(.int (2 : Int32)), (.ref b20), (.int (if w2 = w0 then (1 : Int32) else if w2 = w1 then (1 : Int32) else if w2 = w5 then (1 : Int32) else (0 : Int32)))])
    refine goLdZ (.int (nar .boolean (0 : Int32))) X37 hx hZ eT37 V20 (by decide) (by decide) rfl (g := (mkF m 123 #[.val (.int p1), .val (.ref b1), .val (.ref b20), .val (.int (2 : Int32))] [(.int (2 : Int32)), (.ref b20), (.int (if w2 = w0 then (1 : Int32) else if w2 = w1 then (1 : Int32) else if w2 = w5 then (1 : Int32) else (0 : Int32)))])) rfl rfl (hb hby at_123) ?_
    show Goes p e below _ T37 (mkF m 124 #[.val (.int p1), .val (.ref b1), .val (.ref b20), .val (.int (2 : Int32))] [(.int (nar .boolean (0 : Int32))), (.int (if w2 = w0 then (1 : Int32) else if w2 = w1 then (1 : Int32) else if w2 = w5 then (1 : Int32) else (0 : Int32)))])
    refine Goes.of (fun _ => XS.icmpNo X37.here hx rfl (hb hby at_124) rfl (teq (by rw [if_neg (c2.ne c0 (by decide)), if_neg (c2.ne c1 (by decide)), if_neg (c2.ne c5 (by decide))]; try rfl)).2) ?_
    show Goes p e below _ T37 (mkF m 127 #[.val (.int p1), .val (.ref b1), .val (.ref b20), .val (.int (2 : Int32))] [])
    refine Goes.of (fun _ => XS.iconst X37.here hx rfl (hb hby at_127)) ?_
    show Goes p e below _ T37 (mkF m 128 #[.val (.int p1), .val (.ref b1), .val (.ref b20), .val (.int (2 : Int32))] [(.int (1 : Int32))])
    refine Goes.of (fun _ => XS.goto X37.here hx rfl (pc0 := 128) (pc' := 132) rfl (hb hby at_128) (by decide) (by decide)) ?_
    show Goes p e below _ T37 (mkF m 132 #[.val (.int p1), .val (.ref b1), .val (.ref b20), .val (.int (2 : Int32))] [(.int (1 : Int32))])
    exact retZ (t := .boolean) X37 hx hret hlk (by simp) (hb hby at_132) eT37 (by decide) (by decide) ⟨rfl, N37⟩
  · show Goes p e below _ T29 (mkF m 115 #[.val (.int p1), .val (.ref b1), .val (.ref b20), .val (.int (3 : Int32))] [])
    refine Goes.of (fun _ => XS.aloadN X29.here hx rfl (hb hby at_115) rfl rfl) ?_
    show Goes p e below _ T29 (mkF m 116 #[.val (.int p1), .val (.ref b1), .val (.ref b20), .val (.int (3 : Int32))] [(.ref b1)])
    refine Goes.of (fun _ => XS.iloadN X29.here hx rfl (hb hby at_116) rfl) ?_
    show Goes p e below _ T29 (mkF m 117 #[.val (.int p1), .val (.ref b1), .val (.ref b20), .val (.int (3 : Int32))] [(.int (3 : Int32)), (.ref b1)])
    refine goLdR (.ref w3) X29 hx hZ eT29 V1 (by decide) (by decide) rfl (g := (mkF m 117 #[.val (.int p1), .val (.ref b1), .val (.ref b20), .val (.int (3 : Int32))] [(.int (3 : Int32)), (.ref b1)])) rfl rfl (hb hby at_117) ?_
    show Goes p e below _ T29 (mkF m 118 #[.val (.int p1), .val (.ref b1), .val (.ref b20), .val (.int (3 : Int32))] [(.ref w3)])
    refine goVirtual 0 X29 hx hZ hown (hw _ (List.mem_of_getElem? (i := 24) rfl)) (hw _ (List.mem_of_getElem? (i := 25) rfl)) (notFace_of_selects (args := #[]) (mvT hZ (hw _ (List.mem_of_getElem? (i := 27) rfl)))) (hw _ (List.mem_of_getElem? (i := 27) rfl)) (hw _ (List.mem_of_getElem? (i := 26) rfl)) (hw _ (List.mem_of_getElem? (i := 3) rfl)) (hw _ (List.mem_of_getElem? (i := 28) rfl)) (by decide) (rm_wait l Z a0 hw w3 w0 w1 w5 h29 n0 O0 c0 c1 c5) eT29 (c3.2.1.ext O0.2) (g := (mkF m 118 #[.val (.int p1), .val (.ref b1), .val (.ref b20), .val (.int (3 : Int32))] [(.ref w3)])) rfl (by rw [hml]; rfl) [] [] (lenOf pd___Z rfl) rfl rfl (by show 2 * 0 + _ ≤ _; exact Nat.le_of_eq rfl) (hb hby at_118) (by decide) (by decide) (by decide) (by decide) ?_
    intro v40 T40 L40 X40 q40
    obtain ⟨rfl, Nq40, eT40⟩ := q40
    have N40 := Fr.app N29 Nq40
    show Goes p e below _ T40 (mkF m 121 #[.val (.int p1), .val (.ref b1), .val (.ref b20), .val (.int (3 : Int32))] [(.int (if w3 = w0 then (1 : Int32) else if w3 = w1 then (1 : Int32) else if w3 = w5 then (1 : Int32) else (0 : Int32)))])
    refine Goes.of (fun _ => XS.aloadN X40.here hx rfl (hb hby at_121) rfl rfl) ?_
    show Goes p e below _ T40 (mkF m 122 #[.val (.int p1), .val (.ref b1), .val (.ref b20), .val (.int (3 : Int32))] [(.ref b20), (.int (if w3 = w0 then (1 : Int32) else if w3 = w1 then (1 : Int32) else if w3 = w5 then (1 : Int32) else (0 : Int32)))])
    refine Goes.of (fun _ => XS.iloadN X40.here hx rfl (hb hby at_122) rfl) ?_
    show Goes p e below _ T40 (mkF m 123 #[.val (.int p1), .val (.ref b1), .val (.ref b20), .val (.int (3 : Int32))] [(.int (3 : Int32)), (.ref b20), (.int (if w3 = w0 then (1 : Int32) else if w3 = w1 then (1 : Int32) else if w3 = w5 then (1 : Int32) else (0 : Int32)))])
    refine goLdZ (.int (nar .boolean (0 : Int32))) X40 hx hZ eT40 V20 (by decide) (by decide) rfl (g := (mkF m 123 #[.val (.int p1), .val (.ref b1), .val (.ref b20), .val (.int (3 : Int32))] [(.int (3 : Int32)), (.ref b20), (.int (if w3 = w0 then (1 : Int32) else if w3 = w1 then (1 : Int32) else if w3 = w5 then (1 : Int32) else (0 : Int32)))])) rfl rfl (hb hby at_123) ?_
    show Goes p e below _ T40 (mkF m 124 #[.val (.int p1), .val (.ref b1), .val (.ref b20), .val (.int (3 : Int32))] [(.int (nar .boolean (0 : Int32))), (.int (if w3 = w0 then (1 : Int32) else if w3 = w1 then (1 : Int32) else if w3 = w5 then (1 : Int32) else (0 : Int32)))])
    refine Goes.of (fun _ => XS.icmpNo X40.here hx rfl (hb hby at_124) rfl (teq (by rw [if_neg (c3.ne c0 (by decide)), if_neg (c3.ne c1 (by decide)), if_neg (c3.ne c5 (by decide))]; try rfl)).2) ?_
    show Goes p e below _ T40 (mkF m 127 #[.val (.int p1), .val (.ref b1), .val (.ref b20), .val (.int (3 : Int32))] [])
    refine Goes.of (fun _ => XS.iconst X40.here hx rfl (hb hby at_127)) ?_
    show Goes p e below _ T40 (mkF m 128 #[.val (.int p1), .val (.ref b1), .val (.ref b20), .val (.int (3 : Int32))] [(.int (1 : Int32))])
    refine Goes.of (fun _ => XS.goto X40.here hx rfl (pc0 := 128) (pc' := 132) rfl (hb hby at_128) (by decide) (by decide)) ?_
    show Goes p e below _ T40 (mkF m 132 #[.val (.int p1), .val (.ref b1), .val (.ref b20), .val (.int (3 : Int32))] [(.int (1 : Int32))])
    exact retZ (t := .boolean) X40 hx hret hlk (by simp) (hb hby at_132) eT40 (by decide) (by decide) ⟨rfl, N40⟩
  · show Goes p e below _ T29 (mkF m 115 #[.val (.int p1), .val (.ref b1), .val (.ref b20), .val (.int (4 : Int32))] [])
    refine Goes.of (fun _ => XS.aloadN X29.here hx rfl (hb hby at_115) rfl rfl) ?_
    show Goes p e below _ T29 (mkF m 116 #[.val (.int p1), .val (.ref b1), .val (.ref b20), .val (.int (4 : Int32))] [(.ref b1)])
    refine Goes.of (fun _ => XS.iloadN X29.here hx rfl (hb hby at_116) rfl) ?_
    show Goes p e below _ T29 (mkF m 117 #[.val (.int p1), .val (.ref b1), .val (.ref b20), .val (.int (4 : Int32))] [(.int (4 : Int32)), (.ref b1)])
    refine goLdR (.ref w4) X29 hx hZ eT29 V1 (by decide) (by decide) rfl (g := (mkF m 117 #[.val (.int p1), .val (.ref b1), .val (.ref b20), .val (.int (4 : Int32))] [(.int (4 : Int32)), (.ref b1)])) rfl rfl (hb hby at_117) ?_
    show Goes p e below _ T29 (mkF m 118 #[.val (.int p1), .val (.ref b1), .val (.ref b20), .val (.int (4 : Int32))] [(.ref w4)])
    refine goVirtual 0 X29 hx hZ hown (hw _ (List.mem_of_getElem? (i := 24) rfl)) (hw _ (List.mem_of_getElem? (i := 25) rfl)) (notFace_of_selects (args := #[]) (mvT hZ (hw _ (List.mem_of_getElem? (i := 27) rfl)))) (hw _ (List.mem_of_getElem? (i := 27) rfl)) (hw _ (List.mem_of_getElem? (i := 26) rfl)) (hw _ (List.mem_of_getElem? (i := 3) rfl)) (hw _ (List.mem_of_getElem? (i := 28) rfl)) (by decide) (rm_wait l Z a0 hw w4 w0 w1 w5 h29 n0 O0 c0 c1 c5) eT29 (c4.2.1.ext O0.2) (g := (mkF m 118 #[.val (.int p1), .val (.ref b1), .val (.ref b20), .val (.int (4 : Int32))] [(.ref w4)])) rfl (by rw [hml]; rfl) [] [] (lenOf pd___Z rfl) rfl rfl (by show 2 * 0 + _ ≤ _; exact Nat.le_of_eq rfl) (hb hby at_118) (by decide) (by decide) (by decide) (by decide) ?_
    intro v43 T43 L43 X43 q43
    obtain ⟨rfl, Nq43, eT43⟩ := q43
    have N43 := Fr.app N29 Nq43
    show Goes p e below _ T43 (mkF m 121 #[.val (.int p1), .val (.ref b1), .val (.ref b20), .val (.int (4 : Int32))] [(.int (if w4 = w0 then (1 : Int32) else if w4 = w1 then (1 : Int32) else if w4 = w5 then (1 : Int32) else (0 : Int32)))])
    refine Goes.of (fun _ => XS.aloadN X43.here hx rfl (hb hby at_121) rfl rfl) ?_
    show Goes p e below _ T43 (mkF m 122 #[.val (.int p1), .val (.ref b1), .val (.ref b20), .val (.int (4 : Int32))] [(.ref b20), (.int (if w4 = w0 then (1 : Int32) else if w4 = w1 then (1 : Int32) else if w4 = w5 then (1 : Int32) else (0 : Int32)))])
    refine Goes.of (fun _ => XS.iloadN X43.here hx rfl (hb hby at_122) rfl) ?_
    show Goes p e below _ T43 (mkF m 123 #[.val (.int p1), .val (.ref b1), .val (.ref b20), .val (.int (4 : Int32))] [(.int (4 : Int32)), (.ref b20), (.int (if w4 = w0 then (1 : Int32) else if w4 = w1 then (1 : Int32) else if w4 = w5 then (1 : Int32) else (0 : Int32)))])
    refine goLdZ (.int (nar .boolean (0 : Int32))) X43 hx hZ eT43 V20 (by decide) (by decide) rfl (g := (mkF m 123 #[.val (.int p1), .val (.ref b1), .val (.ref b20), .val (.int (4 : Int32))] [(.int (4 : Int32)), (.ref b20), (.int (if w4 = w0 then (1 : Int32) else if w4 = w1 then (1 : Int32) else if w4 = w5 then (1 : Int32) else (0 : Int32)))])) rfl rfl (hb hby at_123) ?_
    show Goes p e below _ T43 (mkF m 124 #[.val (.int p1), .val (.ref b1), .val (.ref b20), .val (.int (4 : Int32))] [(.int (nar .boolean (0 : Int32))), (.int (if w4 = w0 then (1 : Int32) else if w4 = w1 then (1 : Int32) else if w4 = w5 then (1 : Int32) else (0 : Int32)))])
    refine Goes.of (fun _ => XS.icmpNo X43.here hx rfl (hb hby at_124) rfl (teq (by rw [if_neg (c4.ne c0 (by decide)), if_neg (c4.ne c1 (by decide)), if_neg (c4.ne c5 (by decide))]; try rfl)).2) ?_
    show Goes p e below _ T43 (mkF m 127 #[.val (.int p1), .val (.ref b1), .val (.ref b20), .val (.int (4 : Int32))] [])
    refine Goes.of (fun _ => XS.iconst X43.here hx rfl (hb hby at_127)) ?_
    show Goes p e below _ T43 (mkF m 128 #[.val (.int p1), .val (.ref b1), .val (.ref b20), .val (.int (4 : Int32))] [(.int (1 : Int32))])
    refine Goes.of (fun _ => XS.goto X43.here hx rfl (pc0 := 128) (pc' := 132) rfl (hb hby at_128) (by decide) (by decide)) ?_
    show Goes p e below _ T43 (mkF m 132 #[.val (.int p1), .val (.ref b1), .val (.ref b20), .val (.int (4 : Int32))] [(.int (1 : Int32))])
    exact retZ (t := .boolean) X43 hx hret hlk (by simp) (hb hby at_132) eT43 (by decide) (by decide) ⟨rfl, N43⟩
  · show Goes p e below _ T29 (mkF m 115 #[.val (.int p1), .val (.ref b1), .val (.ref b20), .val (.int (5 : Int32))] [])
    refine Goes.of (fun _ => XS.aloadN X29.here hx rfl (hb hby at_115) rfl rfl) ?_
    show Goes p e below _ T29 (mkF m 116 #[.val (.int p1), .val (.ref b1), .val (.ref b20), .val (.int (5 : Int32))] [(.ref b1)])
    refine Goes.of (fun _ => XS.iloadN X29.here hx rfl (hb hby at_116) rfl) ?_
    show Goes p e below _ T29 (mkF m 117 #[.val (.int p1), .val (.ref b1), .val (.ref b20), .val (.int (5 : Int32))] [(.int (5 : Int32)), (.ref b1)])
    refine goLdR (.ref w5) X29 hx hZ eT29 V1 (by decide) (by decide) rfl (g := (mkF m 117 #[.val (.int p1), .val (.ref b1), .val (.ref b20), .val (.int (5 : Int32))] [(.int (5 : Int32)), (.ref b1)])) rfl rfl (hb hby at_117) ?_
    show Goes p e below _ T29 (mkF m 118 #[.val (.int p1), .val (.ref b1), .val (.ref b20), .val (.int (5 : Int32))] [(.ref w5)])
    refine goVirtual 0 X29 hx hZ hown (hw _ (List.mem_of_getElem? (i := 24) rfl)) (hw _ (List.mem_of_getElem? (i := 25) rfl)) (notFace_of_selects (args := #[]) (mvT hZ (hw _ (List.mem_of_getElem? (i := 27) rfl)))) (hw _ (List.mem_of_getElem? (i := 27) rfl)) (hw _ (List.mem_of_getElem? (i := 26) rfl)) (hw _ (List.mem_of_getElem? (i := 3) rfl)) (hw _ (List.mem_of_getElem? (i := 28) rfl)) (by decide) (rm_wait l Z a0 hw w5 w0 w1 w5 h29 n0 O0 c0 c1 c5) eT29 (c5.2.1.ext O0.2) (g := (mkF m 118 #[.val (.int p1), .val (.ref b1), .val (.ref b20), .val (.int (5 : Int32))] [(.ref w5)])) rfl (by rw [hml]; rfl) [] [] (lenOf pd___Z rfl) rfl rfl (by show 2 * 0 + _ ≤ _; exact Nat.le_of_eq rfl) (hb hby at_118) (by decide) (by decide) (by decide) (by decide) ?_
    intro v46 T46 L46 X46 q46
    obtain ⟨rfl, Nq46, eT46⟩ := q46
    have N46 := Fr.app N29 Nq46
    show Goes p e below _ T46 (mkF m 121 #[.val (.int p1), .val (.ref b1), .val (.ref b20), .val (.int (5 : Int32))] [(.int (if w5 = w0 then (1 : Int32) else if w5 = w1 then (1 : Int32) else if w5 = w5 then (1 : Int32) else (0 : Int32)))])
    refine Goes.of (fun _ => XS.aloadN X46.here hx rfl (hb hby at_121) rfl rfl) ?_
    show Goes p e below _ T46 (mkF m 122 #[.val (.int p1), .val (.ref b1), .val (.ref b20), .val (.int (5 : Int32))] [(.ref b20), (.int (if w5 = w0 then (1 : Int32) else if w5 = w1 then (1 : Int32) else if w5 = w5 then (1 : Int32) else (0 : Int32)))])
    refine Goes.of (fun _ => XS.iloadN X46.here hx rfl (hb hby at_122) rfl) ?_
    show Goes p e below _ T46 (mkF m 123 #[.val (.int p1), .val (.ref b1), .val (.ref b20), .val (.int (5 : Int32))] [(.int (5 : Int32)), (.ref b20), (.int (if w5 = w0 then (1 : Int32) else if w5 = w1 then (1 : Int32) else if w5 = w5 then (1 : Int32) else (0 : Int32)))])
    refine goLdZ (.int (nar .boolean (1 : Int32))) X46 hx hZ eT46 V20 (by decide) (by decide) rfl (g := (mkF m 123 #[.val (.int p1), .val (.ref b1), .val (.ref b20), .val (.int (5 : Int32))] [(.int (5 : Int32)), (.ref b20), (.int (if w5 = w0 then (1 : Int32) else if w5 = w1 then (1 : Int32) else if w5 = w5 then (1 : Int32) else (0 : Int32)))])) rfl rfl (hb hby at_123) ?_
    show Goes p e below _ T46 (mkF m 124 #[.val (.int p1), .val (.ref b1), .val (.ref b20), .val (.int (5 : Int32))] [(.int (nar .boolean (1 : Int32))), (.int (if w5 = w0 then (1 : Int32) else if w5 = w1 then (1 : Int32) else if w5 = w5 then (1 : Int32) else (0 : Int32)))])
    refine Goes.of (fun _ => XS.icmpNo X46.here hx rfl (hb hby at_124) rfl (teq (by rw [if_neg (c5.ne c0 (by decide)), if_neg (c5.ne c1 (by decide)), if_pos rfl]; try rfl)).2) ?_
    show Goes p e below _ T46 (mkF m 127 #[.val (.int p1), .val (.ref b1), .val (.ref b20), .val (.int (5 : Int32))] [])
    refine Goes.of (fun _ => XS.iconst X46.here hx rfl (hb hby at_127)) ?_
    show Goes p e below _ T46 (mkF m 128 #[.val (.int p1), .val (.ref b1), .val (.ref b20), .val (.int (5 : Int32))] [(.int (1 : Int32))])
    refine Goes.of (fun _ => XS.goto X46.here hx rfl (pc0 := 128) (pc' := 132) rfl (hb hby at_128) (by decide) (by decide)) ?_
    show Goes p e below _ T46 (mkF m 132 #[.val (.int p1), .val (.ref b1), .val (.ref b20), .val (.int (5 : Int32))] [(.int (1 : Int32))])
    exact retZ (t := .boolean) X46 hx hret hlk (by simp) (hb hby at_132) eT46 (by decide) (by decide) ⟨rfl, N46⟩
  · show Goes p e below _ T29 (mkF m 115 #[.val (.int p1), .val (.ref b1), .val (.ref b20), .val (.int (6 : Int32))] [])
    refine Goes.of (fun _ => XS.aloadN X29.here hx rfl (hb hby at_115) rfl rfl) ?_
    show Goes p e below _ T29 (mkF m 116 #[.val (.int p1), .val (.ref b1), .val (.ref b20), .val (.int (6 : Int32))] [(.ref b1)])
    refine Goes.of (fun _ => XS.iloadN X29.here hx rfl (hb hby at_116) rfl) ?_
    show Goes p e below _ T29 (mkF m 117 #[.val (.int p1), .val (.ref b1), .val (.ref b20), .val (.int (6 : Int32))] [(.int (6 : Int32)), (.ref b1)])
    refine goLdR (.ref w6) X29 hx hZ eT29 V1 (by decide) (by decide) rfl (g := (mkF m 117 #[.val (.int p1), .val (.ref b1), .val (.ref b20), .val (.int (6 : Int32))] [(.int (6 : Int32)), (.ref b1)])) rfl rfl (hb hby at_117) ?_
    show Goes p e below _ T29 (mkF m 118 #[.val (.int p1), .val (.ref b1), .val (.ref b20), .val (.int (6 : Int32))] [(.ref w6)])
    refine goVirtual 0 X29 hx hZ hown (hw _ (List.mem_of_getElem? (i := 24) rfl)) (hw _ (List.mem_of_getElem? (i := 25) rfl)) (notFace_of_selects (args := #[]) (mvT hZ (hw _ (List.mem_of_getElem? (i := 27) rfl)))) (hw _ (List.mem_of_getElem? (i := 27) rfl)) (hw _ (List.mem_of_getElem? (i := 26) rfl)) (hw _ (List.mem_of_getElem? (i := 3) rfl)) (hw _ (List.mem_of_getElem? (i := 28) rfl)) (by decide) (rm_wait l Z a0 hw w6 w0 w1 w5 h29 n0 O0 c0 c1 c5) eT29 (c6.2.1.ext O0.2) (g := (mkF m 118 #[.val (.int p1), .val (.ref b1), .val (.ref b20), .val (.int (6 : Int32))] [(.ref w6)])) rfl (by rw [hml]; rfl) [] [] (lenOf pd___Z rfl) rfl rfl (by show 2 * 0 + _ ≤ _; exact Nat.le_of_eq rfl) (hb hby at_118) (by decide) (by decide) (by decide) (by decide) ?_
    intro v49 T49 L49 X49 q49
    obtain ⟨rfl, Nq49, eT49⟩ := q49
    have N49 := Fr.app N29 Nq49
    show Goes p e below _ T49 (mkF m 121 #[.val (.int p1), .val (.ref b1), .val (.ref b20), .val (.int (6 : Int32))] [(.int (if w6 = w0 then (1 : Int32) else if w6 = w1 then (1 : Int32) else if w6 = w5 then (1 : Int32) else (0 : Int32)))])
    refine Goes.of (fun _ => XS.aloadN X49.here hx rfl (hb hby at_121) rfl rfl) ?_
    show Goes p e below _ T49 (mkF m 122 #[.val (.int p1), .val (.ref b1), .val (.ref b20), .val (.int (6 : Int32))] [(.ref b20), (.int (if w6 = w0 then (1 : Int32) else if w6 = w1 then (1 : Int32) else if w6 = w5 then (1 : Int32) else (0 : Int32)))])
    refine Goes.of (fun _ => XS.iloadN X49.here hx rfl (hb hby at_122) rfl) ?_
    show Goes p e below _ T49 (mkF m 123 #[.val (.int p1), .val (.ref b1), .val (.ref b20), .val (.int (6 : Int32))] [(.int (6 : Int32)), (.ref b20), (.int (if w6 = w0 then (1 : Int32) else if w6 = w1 then (1 : Int32) else if w6 = w5 then (1 : Int32) else (0 : Int32)))])
    refine goLdZ (.int (nar .boolean (0 : Int32))) X49 hx hZ eT49 V20 (by decide) (by decide) rfl (g := (mkF m 123 #[.val (.int p1), .val (.ref b1), .val (.ref b20), .val (.int (6 : Int32))] [(.int (6 : Int32)), (.ref b20), (.int (if w6 = w0 then (1 : Int32) else if w6 = w1 then (1 : Int32) else if w6 = w5 then (1 : Int32) else (0 : Int32)))])) rfl rfl (hb hby at_123) ?_
    show Goes p e below _ T49 (mkF m 124 #[.val (.int p1), .val (.ref b1), .val (.ref b20), .val (.int (6 : Int32))] [(.int (nar .boolean (0 : Int32))), (.int (if w6 = w0 then (1 : Int32) else if w6 = w1 then (1 : Int32) else if w6 = w5 then (1 : Int32) else (0 : Int32)))])
    refine Goes.of (fun _ => XS.icmpNo X49.here hx rfl (hb hby at_124) rfl (teq (by rw [if_neg (c6.ne c0 (by decide)), if_neg (c6.ne c1 (by decide)), if_neg (c6.ne c5 (by decide))]; try rfl)).2) ?_
    show Goes p e below _ T49 (mkF m 127 #[.val (.int p1), .val (.ref b1), .val (.ref b20), .val (.int (6 : Int32))] [])
    refine Goes.of (fun _ => XS.iconst X49.here hx rfl (hb hby at_127)) ?_
    show Goes p e below _ T49 (mkF m 128 #[.val (.int p1), .val (.ref b1), .val (.ref b20), .val (.int (6 : Int32))] [(.int (1 : Int32))])
    refine Goes.of (fun _ => XS.goto X49.here hx rfl (pc0 := 128) (pc' := 132) rfl (hb hby at_128) (by decide) (by decide)) ?_
    show Goes p e below _ T49 (mkF m 132 #[.val (.int p1), .val (.ref b1), .val (.ref b20), .val (.int (6 : Int32))] [(.int (1 : Int32))])
    exact retZ (t := .boolean) X49 hx hret hlk (by simp) (hb hby at_132) eT49 (by decide) (by decide) ⟨rfl, N49⟩
  · show Goes p e below _ T29 (mkF m 115 #[.val (.int p1), .val (.ref b1), .val (.ref b20), .val (.int (7 : Int32))] [])
    refine Goes.of (fun _ => XS.aloadN X29.here hx rfl (hb hby at_115) rfl rfl) ?_
    show Goes p e below _ T29 (mkF m 116 #[.val (.int p1), .val (.ref b1), .val (.ref b20), .val (.int (7 : Int32))] [(.ref b1)])
    refine Goes.of (fun _ => XS.iloadN X29.here hx rfl (hb hby at_116) rfl) ?_
    show Goes p e below _ T29 (mkF m 117 #[.val (.int p1), .val (.ref b1), .val (.ref b20), .val (.int (7 : Int32))] [(.int (7 : Int32)), (.ref b1)])
    refine goLdR (.ref w7) X29 hx hZ eT29 V1 (by decide) (by decide) rfl (g := (mkF m 117 #[.val (.int p1), .val (.ref b1), .val (.ref b20), .val (.int (7 : Int32))] [(.int (7 : Int32)), (.ref b1)])) rfl rfl (hb hby at_117) ?_
    show Goes p e below _ T29 (mkF m 118 #[.val (.int p1), .val (.ref b1), .val (.ref b20), .val (.int (7 : Int32))] [(.ref w7)])
    refine goVirtual 0 X29 hx hZ hown (hw _ (List.mem_of_getElem? (i := 24) rfl)) (hw _ (List.mem_of_getElem? (i := 25) rfl)) (notFace_of_selects (args := #[]) (mvT hZ (hw _ (List.mem_of_getElem? (i := 27) rfl)))) (hw _ (List.mem_of_getElem? (i := 27) rfl)) (hw _ (List.mem_of_getElem? (i := 26) rfl)) (hw _ (List.mem_of_getElem? (i := 3) rfl)) (hw _ (List.mem_of_getElem? (i := 28) rfl)) (by decide) (rm_wait l Z a0 hw w7 w0 w1 w5 h29 n0 O0 c0 c1 c5) eT29 (c7.2.1.ext O0.2) (g := (mkF m 118 #[.val (.int p1), .val (.ref b1), .val (.ref b20), .val (.int (7 : Int32))] [(.ref w7)])) rfl (by rw [hml]; rfl) [] [] (lenOf pd___Z rfl) rfl rfl (by show 2 * 0 + _ ≤ _; exact Nat.le_of_eq rfl) (hb hby at_118) (by decide) (by decide) (by decide) (by decide) ?_
    intro v52 T52 L52 X52 q52
    obtain ⟨rfl, Nq52, eT52⟩ := q52
    have N52 := Fr.app N29 Nq52
    show Goes p e below _ T52 (mkF m 121 #[.val (.int p1), .val (.ref b1), .val (.ref b20), .val (.int (7 : Int32))] [(.int (if w7 = w0 then (1 : Int32) else if w7 = w1 then (1 : Int32) else if w7 = w5 then (1 : Int32) else (0 : Int32)))])
    refine Goes.of (fun _ => XS.aloadN X52.here hx rfl (hb hby at_121) rfl rfl) ?_
    show Goes p e below _ T52 (mkF m 122 #[.val (.int p1), .val (.ref b1), .val (.ref b20), .val (.int (7 : Int32))] [(.ref b20), (.int (if w7 = w0 then (1 : Int32) else if w7 = w1 then (1 : Int32) else if w7 = w5 then (1 : Int32) else (0 : Int32)))])
    refine Goes.of (fun _ => XS.iloadN X52.here hx rfl (hb hby at_122) rfl) ?_
    show Goes p e below _ T52 (mkF m 123 #[.val (.int p1), .val (.ref b1), .val (.ref b20), .val (.int (7 : Int32))] [(.int (7 : Int32)), (.ref b20), (.int (if w7 = w0 then (1 : Int32) else if w7 = w1 then (1 : Int32) else if w7 = w5 then (1 : Int32) else (0 : Int32)))])
    refine goLdZ (.int (nar .boolean (0 : Int32))) X52 hx hZ eT52 V20 (by decide) (by decide) rfl (g := (mkF m 123 #[.val (.int p1), .val (.ref b1), .val (.ref b20), .val (.int (7 : Int32))] [(.int (7 : Int32)), (.ref b20), (.int (if w7 = w0 then (1 : Int32) else if w7 = w1 then (1 : Int32) else if w7 = w5 then (1 : Int32) else (0 : Int32)))])) rfl rfl (hb hby at_123) ?_
    show Goes p e below _ T52 (mkF m 124 #[.val (.int p1), .val (.ref b1), .val (.ref b20), .val (.int (7 : Int32))] [(.int (nar .boolean (0 : Int32))), (.int (if w7 = w0 then (1 : Int32) else if w7 = w1 then (1 : Int32) else if w7 = w5 then (1 : Int32) else (0 : Int32)))])
    refine Goes.of (fun _ => XS.icmpNo X52.here hx rfl (hb hby at_124) rfl (teq (by rw [if_neg (c7.ne c0 (by decide)), if_neg (c7.ne c1 (by decide)), if_neg (c7.ne c5 (by decide))]; try rfl)).2) ?_
    show Goes p e below _ T52 (mkF m 127 #[.val (.int p1), .val (.ref b1), .val (.ref b20), .val (.int (7 : Int32))] [])
    refine Goes.of (fun _ => XS.iconst X52.here hx rfl (hb hby at_127)) ?_
    show Goes p e below _ T52 (mkF m 128 #[.val (.int p1), .val (.ref b1), .val (.ref b20), .val (.int (7 : Int32))] [(.int (1 : Int32))])
    refine Goes.of (fun _ => XS.goto X52.here hx rfl (pc0 := 128) (pc' := 132) rfl (hb hby at_128) (by decide) (by decide)) ?_
    show Goes p e below _ T52 (mkF m 132 #[.val (.int p1), .val (.ref b1), .val (.ref b20), .val (.int (7 : Int32))] [(.int (1 : Int32))])
    exact retZ (t := .boolean) X52 hx hret hlk (by simp) (hb hby at_132) eT52 (by decide) (by decide) ⟨rfl, N52⟩
  · show Goes p e below _ T29 (mkF m 115 #[.val (.int p1), .val (.ref b1), .val (.ref b20), .val (.int (8 : Int32))] [])
    refine Goes.of (fun _ => XS.aloadN X29.here hx rfl (hb hby at_115) rfl rfl) ?_
    show Goes p e below _ T29 (mkF m 116 #[.val (.int p1), .val (.ref b1), .val (.ref b20), .val (.int (8 : Int32))] [(.ref b1)])
    refine Goes.of (fun _ => XS.iloadN X29.here hx rfl (hb hby at_116) rfl) ?_
    show Goes p e below _ T29 (mkF m 117 #[.val (.int p1), .val (.ref b1), .val (.ref b20), .val (.int (8 : Int32))] [(.int (8 : Int32)), (.ref b1)])
    refine goLdR (.ref w8) X29 hx hZ eT29 V1 (by decide) (by decide) rfl (g := (mkF m 117 #[.val (.int p1), .val (.ref b1), .val (.ref b20), .val (.int (8 : Int32))] [(.int (8 : Int32)), (.ref b1)])) rfl rfl (hb hby at_117) ?_
    show Goes p e below _ T29 (mkF m 118 #[.val (.int p1), .val (.ref b1), .val (.ref b20), .val (.int (8 : Int32))] [(.ref w8)])
    refine goVirtual 0 X29 hx hZ hown (hw _ (List.mem_of_getElem? (i := 24) rfl)) (hw _ (List.mem_of_getElem? (i := 25) rfl)) (notFace_of_selects (args := #[]) (mvT hZ (hw _ (List.mem_of_getElem? (i := 27) rfl)))) (hw _ (List.mem_of_getElem? (i := 27) rfl)) (hw _ (List.mem_of_getElem? (i := 26) rfl)) (hw _ (List.mem_of_getElem? (i := 3) rfl)) (hw _ (List.mem_of_getElem? (i := 28) rfl)) (by decide) (rm_wait l Z a0 hw w8 w0 w1 w5 h29 n0 O0 c0 c1 c5) eT29 (c8.2.1.ext O0.2) (g := (mkF m 118 #[.val (.int p1), .val (.ref b1), .val (.ref b20), .val (.int (8 : Int32))] [(.ref w8)])) rfl (by rw [hml]; rfl) [] [] (lenOf pd___Z rfl) rfl rfl (by show 2 * 0 + _ ≤ _; exact Nat.le_of_eq rfl) (hb hby at_118) (by decide) (by decide) (by decide) (by decide) ?_
    intro v55 T55 L55 X55 q55
    obtain ⟨rfl, Nq55, eT55⟩ := q55
    have N55 := Fr.app N29 Nq55
    show Goes p e below _ T55 (mkF m 121 #[.val (.int p1), .val (.ref b1), .val (.ref b20), .val (.int (8 : Int32))] [(.int (if w8 = w0 then (1 : Int32) else if w8 = w1 then (1 : Int32) else if w8 = w5 then (1 : Int32) else (0 : Int32)))])
    refine Goes.of (fun _ => XS.aloadN X55.here hx rfl (hb hby at_121) rfl rfl) ?_
    show Goes p e below _ T55 (mkF m 122 #[.val (.int p1), .val (.ref b1), .val (.ref b20), .val (.int (8 : Int32))] [(.ref b20), (.int (if w8 = w0 then (1 : Int32) else if w8 = w1 then (1 : Int32) else if w8 = w5 then (1 : Int32) else (0 : Int32)))])
    refine Goes.of (fun _ => XS.iloadN X55.here hx rfl (hb hby at_122) rfl) ?_
    show Goes p e below _ T55 (mkF m 123 #[.val (.int p1), .val (.ref b1), .val (.ref b20), .val (.int (8 : Int32))] [(.int (8 : Int32)), (.ref b20), (.int (if w8 = w0 then (1 : Int32) else if w8 = w1 then (1 : Int32) else if w8 = w5 then (1 : Int32) else (0 : Int32)))])
    refine goLdZ (.int (nar .boolean (0 : Int32))) X55 hx hZ eT55 V20 (by decide) (by decide) rfl (g := (mkF m 123 #[.val (.int p1), .val (.ref b1), .val (.ref b20), .val (.int (8 : Int32))] [(.int (8 : Int32)), (.ref b20), (.int (if w8 = w0 then (1 : Int32) else if w8 = w1 then (1 : Int32) else if w8 = w5 then (1 : Int32) else (0 : Int32)))])) rfl rfl (hb hby at_123) ?_
    show Goes p e below _ T55 (mkF m 124 #[.val (.int p1), .val (.ref b1), .val (.ref b20), .val (.int (8 : Int32))] [(.int (nar .boolean (0 : Int32))), (.int (if w8 = w0 then (1 : Int32) else if w8 = w1 then (1 : Int32) else if w8 = w5 then (1 : Int32) else (0 : Int32)))])
    refine Goes.of (fun _ => XS.icmpNo X55.here hx rfl (hb hby at_124) rfl (teq (by rw [if_neg (c8.ne c0 (by decide)), if_neg (c8.ne c1 (by decide)), if_neg (c8.ne c5 (by decide))]; try rfl)).2) ?_
    show Goes p e below _ T55 (mkF m 127 #[.val (.int p1), .val (.ref b1), .val (.ref b20), .val (.int (8 : Int32))] [])
    refine Goes.of (fun _ => XS.iconst X55.here hx rfl (hb hby at_127)) ?_
    show Goes p e below _ T55 (mkF m 128 #[.val (.int p1), .val (.ref b1), .val (.ref b20), .val (.int (8 : Int32))] [(.int (1 : Int32))])
    refine Goes.of (fun _ => XS.goto X55.here hx rfl (pc0 := 128) (pc' := 132) rfl (hb hby at_128) (by decide) (by decide)) ?_
    show Goes p e below _ T55 (mkF m 132 #[.val (.int p1), .val (.ref b1), .val (.ref b20), .val (.int (8 : Int32))] [(.int (1 : Int32))])
    exact retZ (t := .boolean) X55 hx hret hlk (by simp) (hb hby at_132) eT55 (by decide) (by decide) ⟨rfl, N55⟩
set_option maxRecDepth 65536 in
set_option maxHeartbeats 40000000 in
theorem comes_1 {Post : Tables → Env → Array Value → State → Outcome → State → Prop} (hpost : ∀ tb e args s v u, (limb_1_1.after args s (.returned v) u = true ∧ limb_1_2.after args s (.returned v) u = true ∧ True) → FrameEnd s (.returned v) u (Jvm.fieldLocs frame_1_writes args s ++ Jvm.arrayLocs frame_1_arrays args s ++ Jvm.staticLocs frame_1_statics s) 16 128 → Post tb e args s (.returned v) u) :
    ArmFor flags0 classFile x code maxLocals ret World_1 tables_1 room_1 Calls_1 rest_1 Pre_1 Post := by
  intro l hfl _ _ p e ha hc hk s m args below hf hA hF happ hP
  obtain ⟨hcalls, hrest, hpre⟩ := hP
  obtain ⟨-, -, -, hnamed, -, -, -, hat⟩ := (Spec.applies_iff hf).mp happ
  obtain ⟨hg, hn⟩ := and_e (Cond.before_iff.mp (show (Jvm.Cond.and given_1 narrow_1).before args s = true from hpre))
  obtain ⟨hcount, hg0⟩ := and_e hg
  have hv0 := hg0
  obtain ⟨w0, rfl⟩ : ∃ w0 : Value, args = #[w0] := by
    have hs : args.size = 1 := by simpa [Cond.value, given_1] using hcount
    obtain ⟨L⟩ := args
    match L, hs with
    | [w0], _ => exact ⟨w0, rfl⟩
  have hw := fun d (hd : d ∈ tables_1) => atoms_spec (ws := Jvm.Cond.code x code maxLocals ret :: tables_1) hat d (List.mem_cons_of_mem _ hd)
  have hfit : Fit s := fun {y c} hc i hi => by
    obtain ⟨ha, rfl⟩ := Array.getElem?_eq_some_iff.mp hc
    have q := List.all_eq_true.mp ((Array.all_eq_true_iff_forall_mem.mp hF) _ (Array.getElem_mem ha)) i (List.mem_range.mpr hi)
    simpa [Array.getElem?_eq_getElem hi] using q
  obtain ⟨i0, ei0⟩ := is_v hv0
  obtain rfl : w0 = (.int i0) := Option.some.inj ei0
  obtain ⟨nw0, nr0⟩ := and_e hn
  obtain ⟨nw1, nr1⟩ := and_e nr0
  obtain ⟨nw2, nr2⟩ := and_e nr1
  obtain ⟨nw3, nr3⟩ := and_e nr2
  obtain ⟨nw4, nr4⟩ := and_e nr3
  obtain ⟨nw5, nr5⟩ := and_e nr4
  obtain ⟨nw6, nr6⟩ := and_e nr5
  obtain ⟨nw7, nr7⟩ := and_e nr6
  obtain ⟨nw8, nr8⟩ := and_e nr7
  obtain ⟨nw9, nr9⟩ := and_e nr8
  obtain ⟨nw10, nr10⟩ := and_e nr9
  obtain ⟨nw11, nr11⟩ := and_e nr10
  obtain ⟨nw12, nr12⟩ := and_e nr11
  obtain ⟨nw13, nr13⟩ := and_e nr12
  obtain ⟨nw14, nr14⟩ := and_e nr13
  obtain ⟨nw15, nr15⟩ := and_e nr14
  obtain ⟨nw16, nr16⟩ := and_e nr15
  have nw17 := nr16
  obtain ⟨w0', c0, ev0⟩ := con_of nw0 nw10 (hw _ (List.mem_of_getElem? (i := 3) rfl)) (hw _ (List.mem_of_getElem? (i := 4) rfl))
  obtain ⟨w1', c1, ev1⟩ := con_of nw1 nw11 (hw _ (List.mem_of_getElem? (i := 3) rfl)) (hw _ (List.mem_of_getElem? (i := 7) rfl))
  obtain ⟨w2', c2, ev2⟩ := con_of nw2 nw13 (hw _ (List.mem_of_getElem? (i := 3) rfl)) (hw _ (List.mem_of_getElem? (i := 9) rfl))
  obtain ⟨w3', c3, ev3⟩ := con_of nw3 nw9 (hw _ (List.mem_of_getElem? (i := 3) rfl)) (hw _ (List.mem_of_getElem? (i := 11) rfl))
  obtain ⟨w4', c4, ev4⟩ := con_of nw4 nw15 (hw _ (List.mem_of_getElem? (i := 3) rfl)) (hw _ (List.mem_of_getElem? (i := 13) rfl))
  obtain ⟨w5', c5, ev5⟩ := con_of nw5 nw12 (hw _ (List.mem_of_getElem? (i := 3) rfl)) (hw _ (List.mem_of_getElem? (i := 15) rfl))
  obtain ⟨w6', c6, ev6⟩ := con_of nw6 nw17 (hw _ (List.mem_of_getElem? (i := 3) rfl)) (hw _ (List.mem_of_getElem? (i := 17) rfl))
  obtain ⟨w7', c7, ev7⟩ := con_of nw7 nw14 (hw _ (List.mem_of_getElem? (i := 3) rfl)) (hw _ (List.mem_of_getElem? (i := 19) rfl))
  obtain ⟨w8', c8, ev8⟩ := con_of nw8 nw16 (hw _ (List.mem_of_getElem? (i := 3) rfl)) (hw _ (List.mem_of_getElem? (i := 21) rfl))
  obtain ⟨n, o, h1, h2, h3, _, L, rfl, ⟨rfl, N⟩, hq⟩ := rm_law l s _ hw tables_1 i0 w0' w1' w2' w3' w4' w5' w6' w7' w8' s.heap s.heap.size (Old.start s) c0 c1 c2 c3 c4 c5 c6 c7 c8 p e ha hc hk s m _ below hf ((Spec.applies_iff_loose hf).mp happ).1 ⟨rfl, State.Warmed39.refl s, rfl⟩ trivial
  refine ⟨n, _, h1, h2, h3, hpost _ _ _ _ _ _ ⟨Cond.after_iff.mpr rfl, Cond.after_iff.mpr (eq_i res_at (Term.int_eval (1)) rfl), trivial⟩ ⟨hq.1, hq.2.1, (hq.2.2.sift fun y hy => Or.inr (N y hy)).mono (by decide) (by decide)⟩⟩
theorem main_1_1 : Claimed_1_1 := comes_1 fun _ _ _ _ _ _ h hF => ⟨h.1, hF⟩
theorem main_1_2 : Claimed_1_2 := comes_1 fun _ _ _ _ _ _ h hF => ⟨h.2.1, hF⟩
end Jvm.Pilot.@@N@@
namespace Jvm.Pilot.@@N@@
open Jvm Jvm.ClassFile Sem Op Lib Jvm.Free Jvm.Stand Jvm.Pilot.@@N@@.Jvm.D
/-! MADE BY PROGRAM (witnessworld.py) out of the Statement's table words and the real class files: 15 classes; the members and pool entries that the words name. The judged class is class 1, her method 1. -/
namespace start1
open Jvm.ClassFile
def u (s : String) : CpInfo := .utf8 (stringToUtf16 s)
/-- a pool by its gaps: so many unusable entries, then the entry; so many at the end -/
def gap : Nat → List CpInfo → List CpInfo
  | 0, r => r
  | n + 1, r => .unusable :: gap n r
def poolList (es : List (Nat × CpInfo)) (last : Nat) : List CpInfo := es.foldr (fun e r => gap e.1 (e.2 :: r)) (gap last [])
def pool (es : List (Nat × CpInfo)) (last : Nat) : Array CpInfo := ⟨poolList es last⟩
def fileOf (pool : Array CpInfo) (this : Nat) (attrs : Array Attribute := #[]) (ms : Array MethodInfo := #[]) (fl : Nat := 33) (sup : Nat := 0) (ifs : Array Nat := #[]) (fds : Array FieldInfo := #[]) : ClassFile where
  minorVersion := 0
  majorVersion := 65
  constantPool := pool
  accessFlags := fl
  thisClass := this
  superClass := sup
  interfaces := ifs
  fields := fds
  methods := ms
  attributes := attrs
def plain (name : String) (sup : Option ClassId) : Class where
  name := name
  kind := .ordinary
  loader := none
  accessFlags := 33
  super := sup
  interfaces := #[]
  cf := none
  fields := #[]
  methods := #[]
  instanceTypes := #[]
  staticTypes := #[]
  resolved := #[]
  callSites := []
  init := .initialized
  statics := none
  mirror := none

def pool0 : Array CpInfo := pool [(5, u "<init>"), (0, u "()V"), (1, .class_ 10), (1, u "java/lang/Object")] 113

def k0m0 : Method := { name := "<init>", desc := "()V", sig := { parameters := [], returnType := none }, accessFlags := 1, code := none }
/-- java/lang/Object -/
def k0 : Class := { plain "java/lang/Object" none with
  accessFlags := 33
  interfaces := #[]
  cf := some (fileOf pool0 8 #[] #[{ accessFlags := 1, nameIndex := 5, descriptorIndex := 6, attributes := #[] }] 33 0 #[] #[])
  fields := #[]
  methods := #[k0m0]
  instanceTypes := #[]
  staticTypes := #[]
  resolved := Array.replicate 124 none
  statics := none }

def pool1 : Array CpInfo := pool [(2, .class_ 4), (1, u "java/lang/Object"), (0, u "<init>"), (0, u "()V"), (0, .class_ 8), (0, u "com/example/postpone/postpone/TaskStatus"), (0, .fieldref 7 10), (0, .nameAndType 11 12), (0, u "NEW"), (0, u "Lcom/example/postpone/postpone/TaskStatus;"), (0, .fieldref 7 14), (0, .nameAndType 15 12), (0, u "ENQUEUED"), (0, .fieldref 7 17), (0, .nameAndType 18 12), (0, u "CLAIMED"), (0, .fieldref 7 20), (0, .nameAndType 21 12), (0, u "PROCESSING"), (0, .fieldref 7 23), (0, .nameAndType 24 12), (0, u "SUCCESS"), (0, .fieldref 7 26), (0, .nameAndType 27 12), (0, u "RETRIABLE_FAILURE"), (0, .fieldref 7 29), (0, .nameAndType 30 12), (0, u "FATAL_FAILURE"), (0, .fieldref 7 32), (0, .nameAndType 33 12), (0, u "DEAD_LETTERED"), (0, .fieldref 7 35), (0, .nameAndType 36 12), (0, u "DROPPED"), (0, .integer 2147483647), (0, .methodref 7 39), (0, .nameAndType 40 41), (0, u "isWaiting"), (0, u "()Z"), (0, .class_ 43), (0, u "com/example/postpone/postpone/TaskStatusIsWaitingPinLaw"), (2, u "law"), (0, u "(I)Z")] 7

def k1m0 : Method := { name := "<init>", desc := "()V", sig := { parameters := [], returnType := none }, accessFlags := 2, code := none }
def k1c1 : Code := { maxStack := 4, maxLocals := 4, code := code, exceptionTable := #[], attributes := #[] }
def k1m1 : Method := { name := "law", desc := "(I)Z", sig := { parameters := [.int], returnType := some .boolean }, accessFlags := 9, code := some k1c1 }
/-- com/example/postpone/postpone/TaskStatusIsWaitingPinLaw -/
def k1 : Class := { plain "com/example/postpone/postpone/TaskStatusIsWaitingPinLaw" (some 0) with
  accessFlags := 49
  interfaces := #[]
  cf := some (fileOf pool1 42 #[] #[{ accessFlags := 2, nameIndex := 5, descriptorIndex := 6, attributes := #[] }, { accessFlags := 9, nameIndex := 46, descriptorIndex := 47, attributes := #[] }] 49 2 #[] #[])
  fields := #[]
  methods := #[k1m0, k1m1]
  instanceTypes := #[]
  staticTypes := #[]
  resolved := Array.replicate 55 none
  statics := none }

def pool2 : Array CpInfo := pool [(1, .class_ 2), (0, u "java/lang/constant/Constable"), (0, .class_ 4), (0, u "java/lang/Object")] 6

/-- java/lang/constant/Constable -/
def k2 : Class := { plain "java/lang/constant/Constable" (some 0) with
  accessFlags := 1537
  interfaces := #[]
  cf := some (fileOf pool2 1 #[] #[] 1537 3 #[] #[])
  fields := #[]
  methods := #[]
  instanceTypes := #[]
  staticTypes := #[]
  resolved := Array.replicate 11 none
  statics := none }

def pool3 : Array CpInfo := pool [(1, .class_ 2), (0, u "java/lang/Comparable"), (0, .class_ 4), (0, u "java/lang/Object")] 7

/-- java/lang/Comparable -/
def k3 : Class := { plain "java/lang/Comparable" (some 0) with
  accessFlags := 1537
  interfaces := #[]
  cf := some (fileOf pool3 1 #[] #[] 1537 3 #[] #[])
  fields := #[]
  methods := #[]
  instanceTypes := #[]
  staticTypes := #[]
  resolved := Array.replicate 12 none
  statics := none }

def pool4 : Array CpInfo := pool [(1, .class_ 2), (0, u "java/io/Serializable"), (0, .class_ 4), (0, u "java/lang/Object")] 2

/-- java/io/Serializable -/
def k4 : Class := { plain "java/io/Serializable" (some 0) with
  accessFlags := 1537
  interfaces := #[]
  cf := some (fileOf pool4 1 #[] #[] 1537 3 #[] #[])
  fields := #[]
  methods := #[]
  instanceTypes := #[]
  staticTypes := #[]
  resolved := Array.replicate 7 none
  statics := none }

def pool5 : Array CpInfo := pool [(2, .class_ 4), (1, u "java/lang/Enum"), (0, u "name"), (0, u "Ljava/lang/String;"), (2, u "ordinal"), (0, u "I"), (1, .class_ 14), (1, u "java/lang/Object"), (4, u "hash"), (86, .class_ 108), (1, u "java/lang/Enum$EnumDesc"), (2, .class_ 112), (0, u "java/lang/constant/Constable"), (0, .class_ 114), (0, u "java/lang/Comparable"), (0, .class_ 116), (0, u "java/io/Serializable")] 87

/-- java/lang/Enum -/
def k5 : Class := { plain "java/lang/Enum" (some 0) with
  accessFlags := 1057
  interfaces := #[2, 3, 4]
  cf := some (fileOf pool5 2 #[.nestMembers #[106]] #[] 1057 12 #[111, 113, 115] #[{ accessFlags := 18, nameIndex := 5, descriptorIndex := 6, attributes := #[] }, { accessFlags := 18, nameIndex := 9, descriptorIndex := 10, attributes := #[] }, { accessFlags := 2, nameIndex := 19, descriptorIndex := 10, attributes := #[] }])
  fields := #[{ name := "name", type := (.object "java/lang/String"), accessFlags := 18, slot := 0, constantValue := 0 }, { name := "ordinal", type := .int, accessFlags := 18, slot := 1, constantValue := 0 }, { name := "hash", type := .int, accessFlags := 2, slot := 2, constantValue := 0 }]
  methods := #[]
  instanceTypes := #[(.object "java/lang/String"), .int, .int]
  staticTypes := #[]
  resolved := Array.replicate 204 none
  statics := none }

def pool6 : Array CpInfo := pool [(1, .class_ 2), (0, u "com/example/postpone/postpone/TaskStatus"), (0, .fieldref 1 4), (0, .nameAndType 5 6), (0, u "NEW"), (0, u "Lcom/example/postpone/postpone/TaskStatus;"), (0, .fieldref 1 8), (0, .nameAndType 9 6), (0, u "ENQUEUED"), (2, u "CLAIMED"), (2, u "PROCESSING"), (2, u "SUCCESS"), (0, .fieldref 1 20), (0, .nameAndType 21 6), (0, u "RETRIABLE_FAILURE"), (2, u "FATAL_FAILURE"), (2, u "DEAD_LETTERED"), (2, u "DROPPED"), (2, u "$VALUES"), (0, u "[Lcom/example/postpone/postpone/TaskStatus;"), (6, .class_ 43), (1, u "java/lang/Enum"), (8, u "outcome"), (0, u "Z"), (56, u "()Z"), (0, u "isWaiting")] 33

def k6c0 : Code := { maxStack := 2, maxLocals := 1, code := prog_5_method_5_code, exceptionTable := #[], attributes := #[] }
def k6m0 : Method := { name := "isWaiting", desc := "()Z", sig := { parameters := [], returnType := some .boolean }, accessFlags := 0, code := some k6c0 }
/-- com/example/postpone/postpone/TaskStatus -/
def k6 : Class := { plain "com/example/postpone/postpone/TaskStatus" (some 5) with
  accessFlags := 16432
  interfaces := #[]
  cf := some (fileOf pool6 1 #[] #[{ accessFlags := 0, nameIndex := 111, descriptorIndex := 110, attributes := #[] }] 16432 41 #[] #[{ accessFlags := 16409, nameIndex := 5, descriptorIndex := 6, attributes := #[] }, { accessFlags := 16409, nameIndex := 9, descriptorIndex := 6, attributes := #[] }, { accessFlags := 16409, nameIndex := 12, descriptorIndex := 6, attributes := #[] }, { accessFlags := 16409, nameIndex := 15, descriptorIndex := 6, attributes := #[] }, { accessFlags := 16409, nameIndex := 18, descriptorIndex := 6, attributes := #[] }, { accessFlags := 16409, nameIndex := 21, descriptorIndex := 6, attributes := #[] }, { accessFlags := 16409, nameIndex := 24, descriptorIndex := 6, attributes := #[] }, { accessFlags := 16409, nameIndex := 27, descriptorIndex := 6, attributes := #[] }, { accessFlags := 16409, nameIndex := 30, descriptorIndex := 6, attributes := #[] }, { accessFlags := 18, nameIndex := 52, descriptorIndex := 53, attributes := #[] }, { accessFlags := 4122, nameIndex := 33, descriptorIndex := 34, attributes := #[] }])
  fields := #[{ name := "NEW", type := (.object "com/example/postpone/postpone/TaskStatus"), accessFlags := 16409, slot := 0, constantValue := 0 }, { name := "ENQUEUED", type := (.object "com/example/postpone/postpone/TaskStatus"), accessFlags := 16409, slot := 1, constantValue := 0 }, { name := "CLAIMED", type := (.object "com/example/postpone/postpone/TaskStatus"), accessFlags := 16409, slot := 2, constantValue := 0 }, { name := "PROCESSING", type := (.object "com/example/postpone/postpone/TaskStatus"), accessFlags := 16409, slot := 3, constantValue := 0 }, { name := "SUCCESS", type := (.object "com/example/postpone/postpone/TaskStatus"), accessFlags := 16409, slot := 4, constantValue := 0 }, { name := "RETRIABLE_FAILURE", type := (.object "com/example/postpone/postpone/TaskStatus"), accessFlags := 16409, slot := 5, constantValue := 0 }, { name := "FATAL_FAILURE", type := (.object "com/example/postpone/postpone/TaskStatus"), accessFlags := 16409, slot := 6, constantValue := 0 }, { name := "DEAD_LETTERED", type := (.object "com/example/postpone/postpone/TaskStatus"), accessFlags := 16409, slot := 7, constantValue := 0 }, { name := "DROPPED", type := (.object "com/example/postpone/postpone/TaskStatus"), accessFlags := 16409, slot := 8, constantValue := 0 }, { name := "outcome", type := .boolean, accessFlags := 18, slot := 3, constantValue := 0 }, { name := "$VALUES", type := (.array (.object "com/example/postpone/postpone/TaskStatus")), accessFlags := 4122, slot := 9, constantValue := 0 }]
  methods := #[k6m0]
  instanceTypes := #[(.object "java/lang/String"), .int, .int, .boolean]
  staticTypes := #[(.object "com/example/postpone/postpone/TaskStatus"), (.object "com/example/postpone/postpone/TaskStatus"), (.object "com/example/postpone/postpone/TaskStatus"), (.object "com/example/postpone/postpone/TaskStatus"), (.object "com/example/postpone/postpone/TaskStatus"), (.object "com/example/postpone/postpone/TaskStatus"), (.object "com/example/postpone/postpone/TaskStatus"), (.object "com/example/postpone/postpone/TaskStatus"), (.object "com/example/postpone/postpone/TaskStatus"), (.array (.object "com/example/postpone/postpone/TaskStatus"))]
  resolved := Array.replicate 145 none
  statics := some 0 }

def pool7 : Array CpInfo := pool [(1, u "java/lang/Cloneable"), (0, .class_ 1), (0, u "java/lang/Object"), (0, .class_ 3)] 3

/-- java/lang/Cloneable -/
def k7 : Class := { plain "java/lang/Cloneable" (some 0) with
  accessFlags := 1537
  interfaces := #[]
  cf := some (fileOf pool7 2 #[] #[] 1537 4 #[] #[])
  fields := #[]
  methods := #[]
  instanceTypes := #[]
  staticTypes := #[]
  resolved := Array.replicate 8 none
  statics := none }

/-- the primitive boolean -/
def k8 : Class := { plain "boolean" none with kind := .primitive 'Z', accessFlags := 0x411 }
/-- [Z -/
def k9 : Class := { plain "[Z" (some 0) with kind := .array 8 .boolean, interfaces := #[7, 4], accessFlags := 1041 }

/-- the primitive byte -/
def k10 : Class := { plain "byte" none with kind := .primitive 'B', accessFlags := 0x411 }
/-- [B -/
def k11 : Class := { plain "[B" (some 0) with kind := .array 10 .byte, interfaces := #[7, 4], accessFlags := 1041 }

/-- the primitive int -/
def k12 : Class := { plain "int" none with kind := .primitive 'I', accessFlags := 0x411 }
/-- [I -/
def k13 : Class := { plain "[I" (some 0) with kind := .array 12 .int, interfaces := #[7, 4], accessFlags := 1041 }

/-- [Lcom/example/postpone/postpone/TaskStatus; -/
def k14 : Class := { plain "[Lcom/example/postpone/postpone/TaskStatus;" (some 0) with kind := .array 6 (.object "com/example/postpone/postpone/TaskStatus"), interfaces := #[7, 4], accessFlags := 1041 }

def heap : Heap := #[{ cls := 6, slots := #[.ref 1, .ref 2, .ref 3, .ref 4, .ref 5, .ref 6, .ref 7, .ref 8, .ref 9, .null], vm := .statics 6 },
  { cls := 6, slots := #[.null, .int 0, .int 0, .int 0], vm := .none },
  { cls := 6, slots := #[.null, .int 1, .int 0, .int 0], vm := .none },
  { cls := 6, slots := #[.null, .int 2, .int 0, .int 0], vm := .none },
  { cls := 6, slots := #[.null, .int 3, .int 0, .int 0], vm := .none },
  { cls := 6, slots := #[.null, .int 4, .int 0, .int 0], vm := .none },
  { cls := 6, slots := #[.null, .int 5, .int 0, .int 0], vm := .none },
  { cls := 6, slots := #[.null, .int 6, .int 0, .int 0], vm := .none },
  { cls := 6, slots := #[.null, .int 7, .int 0, .int 0], vm := .none },
  { cls := 6, slots := #[.null, .int 8, .int 0, .int 0], vm := .none }]
def classes : Array Class := #[k0, k1, k2, k3, k4, k5, k6, k7, k8, k9, k10, k11, k12, k13, k14]
def interned : List (Array UInt16 × Addr) := []
def slotsUsed : Nat := 46
def theMethod : MethodId := ⟨1, 1⟩
def args0 : Array Value := #[.int 5]
def aboutOver (below : List Frame) : State where
  vm := { classes := classes, interned := interned.toArray }
  heap := heap
  slotsUsed := slotsUsed
  threads := #[{ frames := .invoking theMethod args0 :: below }]
def below0 : List Frame := [.native { method := ⟨0, 0⟩, args := #[] }]
def about1 : State := aboutOver below0
def p0 : Program := .bare "" "" ""
def e0 : Env := launch0.env 0 0 0
theorem w_frames : about1.frames = Frame.invoking theMethod args0 :: below0 := rfl
set_option maxRecDepth 65536 in
theorem w_args : argsFit about1.vm theMethod args0 = true := by decide +kernel
set_option maxRecDepth 65536 in
theorem w_heap : heapFits about1 = true := by decide +kernel
set_option maxRecDepth 65536 in
theorem w_runnable : about1.curStatus? = some .runnable := by decide +kernel
set_option maxRecDepth 65536 in
theorem w_alone : about1.alone = true := by decide +kernel
set_option maxRecDepth 65536 in
theorem w_named : about1.methodNamed? x = some theMethod := by decide +kernel
set_option maxRecDepth 65536 in
theorem w_hears : about1.hears theMethod below0 = true := by decide +kernel
set_option maxRecDepth 65536 in
theorem w_ripe : about1.ripe theMethod args0 below0 = true := by decide +kernel
theorem w_running : about1.status = .running := rfl
set_option maxRecDepth 65536 in
theorem w_room : about1.hasRoom e0.platform room_1 = true :=
  launch0.hasRoom_least _ room_1 (by decide +kernel) (by decide +kernel) (by decide +kernel) (by decide +kernel) (by decide +kernel) (by decide +kernel)
theorem allAtoms_all (ts : List Jvm.Cond) (a : Array Jvm.Value) (st : Jvm.State) : (allAtoms ts).before a st = ts.all (fun c => c.before a st) := by
  induction ts with
  | nil => rfl
  | cons c t ih =>
    show (Jvm.Cond.and c (allAtoms t)).before a st = _
    rw [Jvm.Cond.before_and, ih, List.all_cons]
def words1 : List Jvm.Cond := Jvm.Cond.code x code maxLocals ret :: tables_1
/-- a 'code' word, met by the world's own term for the bytes: nothing is compared byte by byte -/
theorem code_word {y : MethodName} {bytes : ByteArray} {mx : Nat} {rt : Option FieldType} {a : Array Value} {s : State} {m : MethodId} {meth : Method} {c : Code} (h1 : s.methodNamed? y = some m) (h2 : s.vm.method? m = some meth) (h3 : meth.code = some c) (h4 : c.code = bytes)
    (h5 : (c.maxLocals == mx && c.exceptionTable.isEmpty && decide (c.maxStack ≤ mostOperands) && decide (meth.sig.returnType = rt) && !meth.locks && decide (parseMethodDescriptor y.desc = some meth.sig)) = true) : (Jvm.Cond.code y bytes mx rt).before a s = true := by
  simp only [Bool.and_eq_true, beq_iff_eq, Bool.not_eq_true', decide_eq_true_eq] at h5
  obtain ⟨⟨⟨⟨⟨g1, g2⟩, g3⟩, g4⟩, g5⟩, g6⟩ := h5
  simp [Cond.before, Cond.holds, Cond.value, h1, h2, h3, h4, g1, g2, g3, g4, g5, g6]
def isCode : Jvm.Cond → Bool
  | .code _ _ _ _ => true
  | _ => false
theorem all_split {L : List Jvm.Cond} {P : Jvm.Cond → Bool} (h1 : L.all (fun c => isCode c || P c) = true) (h2 : ∀ c ∈ L.filter isCode, P c = true) : L.all P = true := by
  refine List.all_eq_true.mpr fun c hc => ?_
  have h := List.all_eq_true.mp h1 c hc
  rcases Bool.eq_false_or_eq_true (isCode c) with hi | hi
  · exact h2 c (List.mem_filter.mpr ⟨hc, hi⟩)
  · simpa [hi] using h
set_option maxRecDepth 65536 in
theorem w_c0 : (Jvm.Cond.code x code maxLocals ret).before args0 about1 = true := code_word (m := ⟨1, 1⟩) (meth := k1m1) (c := k1c1) (by decide +kernel) rfl rfl rfl (by decide +kernel)
set_option maxRecDepth 65536 in
theorem w_c1 : (Jvm.Cond.code ({ cls := "com/example/postpone/postpone/TaskStatus", name := "isWaiting", desc := "()Z" } : Jvm.MethodName) prog_5_method_5_code (1 : Nat) (Option.some Jvm.ClassFile.FieldType.boolean)).before args0 about1 = true := code_word (m := ⟨6, 0⟩) (meth := k6m0) (c := k6c0) (by decide +kernel) rfl rfl rfl (by decide +kernel)
def codes1 : List Jvm.Cond := [Jvm.Cond.code x code maxLocals ret, Jvm.Cond.code ({ cls := "com/example/postpone/postpone/TaskStatus", name := "isWaiting", desc := "()Z" } : Jvm.MethodName) prog_5_method_5_code (1 : Nat) (Option.some Jvm.ClassFile.FieldType.boolean)]
set_option maxRecDepth 65536 in
theorem codes_eq : words1.filter isCode = codes1 := rfl
theorem w_codes : ∀ c ∈ words1.filter isCode, c.before args0 about1 = true := by
  rw [codes_eq]
  intro c hc
  simp only [codes1, List.mem_cons, List.not_mem_nil, or_false] at hc
  rcases hc with rfl | rfl
  · exact w_c0
  · exact w_c1
set_option maxRecDepth 65536 in
theorem w_t1 : (words1.take 24).all (fun c => isCode c || c.before args0 about1) = true := by decide +kernel
set_option maxRecDepth 65536 in
theorem w_t2 : (words1.drop 24).all (fun c => isCode c || c.before args0 about1) = true := by decide +kernel
theorem w_tables : (allAtoms (Jvm.Cond.code x code maxLocals ret :: tables_1)).before args0 about1 = true := by
  rw [allAtoms_all]
  show words1.all (fun c => c.before args0 about1) = true
  refine all_split ?_ w_codes
  rw [← List.take_append_drop 24 words1, List.all_append, w_t1, w_t2]
  rfl
set_option maxRecDepth 65536 in
theorem w_case : (Jvm.Cond.and given_1 narrow_1).before args0 about1 = true := by decide +kernel
theorem w_applies : (headSpec (Jvm.Cond.code x code maxLocals ret :: tables_1) room_1).applies x e0.platform about1 = true :=
  (Spec.applies_iff w_frames).mpr ⟨w_running, w_runnable, w_alone, w_named, w_hears, w_ripe, w_room, w_tables⟩
theorem atStart : AtStart classFile x code maxLocals ret World_1 tables_1 room_1 Calls_1 rest_1 Pre_1 launch0 p0 e0 about1 theMethod args0 below0 :=
  ⟨lists_1, trivial, launch0.admits_env _ _ _, launch0.least_env, fairChoices_fair.cas, fairChoices_fair.clock, w_frames, w_args, w_heap, w_applies, trivial, trivial, w_case⟩
end start1
theorem witness_1 : WitnessClaimed_1 := ⟨start1.p0, start1.e0, start1.about1, start1.theMethod, start1.args0, start1.below0, start1.atStart⟩
end Jvm.Pilot.@@N@@
